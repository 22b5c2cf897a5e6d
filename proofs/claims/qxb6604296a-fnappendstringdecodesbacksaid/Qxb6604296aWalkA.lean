import Derived.Test.Qxb6604296aInv
import Derived.Outline
import Derived.Deep.RegionLaw
namespace Go.Proofs.Qxb6604296a
open Go.RowKit

theorem inv_start {w w1 : World} {base n : Nat} {a : Option Addr} {c g1 cap1 : Nat} {xs l : List UInt8} {ob : Obj} (hown1 : w1.ownsRow base 5 1 (.slice (some ⟨g1, 0, none⟩) (n + 1) cap1) (n + 1) (bc xs ++ [.int .u8 34]))
    (hgrow1 : (w.alloc ob).grownBy w1 (Value.slice a n c).ownBlock) (hg1 : (Value.slice a n c).ownBlock = some g1 ∨ (w.alloc ob).heap.size ≤ g1) : Inv w (Value.slice a n c).ownBlock base n xs l 0 0 g1 (n + 1) cap1 w1 := by
  refine ⟨by simp [esc], by simpa [esc, bc] using hown1, ⟨hgrow1.os, hgrow1.tape, hgrow1.output, by have := hgrow1.size; simp at this; omega, fun j hj hne => ?_⟩, ?_, by simp⟩
  · rw [hgrow1.block j (by simp; omega) hne, Below.heap_alloc _ _ _ hj]
  · rcases hg1 with h | h
    · exact .inl h
    · exact .inr (by simp at h; omega)

theorem hid {p : Prop} (h : p) : Hid p := h
theorem step_app {ops : Array Oper} {o : Oper} {a : Act} {w : World} {K : Act → World → Prop} {Q : Exit → Act → World → Prop} {E : Prop} (hgd : o.guard = none) (s x : Operand) (tx : TypeId)
    (ho : o.op = .call { callee := .builtin .append, args := #[s, x], argTypes := #[22, tx] }) (base : Nat)
    (v : Value) (n : Nat) (xs : List Value) (hv : a.eval s = v) (hown : w.ownsRow base 5 1 v n xs)
    (y : Value) (m : Nat) (news : List Value) (hx : a.eval x = y) (hs : Src Try.prog 1 tx y m news w) (hb : n + m ≤ 140737488355328) (hbase : base ≤ w.heap.size) (hne : v ≠ .slice none 0 0 ∨ 0 < m)
    (h : ∀ g cap w', w'.ownsRow base 5 1 (.slice (some ⟨g, 0, none⟩) (n + m) cap) (n + m) (xs ++ news) → w.grownBy w' v.ownBlock → (v.ownBlock = some g ∨ w.heap.size ≤ g) → K (a.put o.dst (.slice (some ⟨g, 0, none⟩) (n + m) cap)) w') :
    if Region.wanted o (yielded ops a.tmps) = true then Oper.wp Try.prog o a w K Q else E := by
  have hw : Region.wanted o (yielded ops a.tmps) = true := by simp [Region.wanted, hgd]
  rw [if_pos hw]
  exact wp_app w s x tx ho base v n xs hv hown y m news hx hs hb hbase hne h
theorem bits_low : ∀ {q : Nat}, q < 32 → bits BinOp.and IntKind.u8 (q : Int) 15 = (q : Int) % 16 := by decide
theorem src_lit_drew (W : World) (N n : Nat) (vs : List Value) (hn : n = vs.length) (hN : N = W.heap.size) (h1 : ∀ u ∈ vs, u.oneCell' = true) : Src Try.prog 1 22 (.slice (some ⟨N, 0, none⟩) n n) n vs (W.alloc (.cells vs.toArray 5)).drew := by
  subst hN
  refine Src.ofSlice _ Try.underlying22 _ n n vs (by omega) (fun j u hj => ?_) h1
  rw [World.cell?_drew, addr_add, cell_of_row _ _ _ vs.toArray 5 (0, 0) (heap_alloc_new W _)]
  simpa using hj
theorem hex_at {q : Nat} {i : Int} {h : i.toNat < hexs.size} (hi : i = (q : Int)) : hexs[i.toNat]'h = hexd q := by
  subst hi
  have e : ((q : Int)).toNat = q := by omega
  have h' : q < hexs.size := by rwa [e] at h
  have e1 : hexs[((q : Int)).toNat]'h = hexs[q]'h' := by congr 1
  rw [e1]
  unfold hexd
  rw [List.getD_eq_getElem?_getD, byte_at h']
  rfl
theorem news_hex {q : Nat} (h1 : ((q : Int) / 16).toNat < hexs.size) (h2 : ((q : Int) % 16).toNat < hexs.size) : [Value.int .u8 92, .int .u8 117, .int .u8 48, .int .u8 48, .int .u8 (hexs[((q : Int) / 16).toNat]'h1).toNat, .int .u8 (hexs[((q : Int) % 16).toNat]'h2).toNat] = bc [92, 117, 48, 48, hexd (q / 16), hexd (q % 16)] := by
  rw [hex_at (q := q / 16) (by omega), hex_at (q := q % 16) (by omega)]
  rfl
theorem esc1_hex {b : UInt8} {q : Nat} (h : b.toNat = q) (h1 : ¬ q = 34) (h2 : ¬ q = 92) (h3 : ¬ q = 10) (h4 : ¬ q = 13) (h5 : ¬ q = 9) (h6 : ¬ 32 ≤ q) : esc1 b = [92, 117, 48, 48, hexd (q / 16), hexd (q % 16)] := by
  subst h
  have e1 : ¬ b = 34 := by rintro rfl; exact h1 rfl
  have e2 : ¬ b = 92 := by rintro rfl; exact h2 rfl
  have e3 : ¬ b = 10 := by rintro rfl; exact h3 rfl
  have e4 : ¬ b = 13 := by rintro rfl; exact h4 rfl
  have e5 : ¬ b = 9 := by rintro rfl; exact h5 rfl
  have e6 : b < 32 := by rw [UInt8.lt_iff_toNat_lt]; simpa using h6
  simp [esc1, e1, e2, e3, e4, e5, e6]
theorem ne_nil (p : Addr) (n c m : Nat) : (Value.slice (some p) n c) ≠ .slice none 0 0 ∨ 0 < m := .inl (by simp)
theorem plain_of {b : UInt8} {q : Nat} (h : b.toNat = q) (h1 : 32 ≤ q) (h2 : ¬ q = 34) (h3 : ¬ q = 92) : plain b := by
  subst h
  refine ⟨by rw [UInt8.le_iff_toNat_le]; exact h1, ?_, ?_⟩
  · rintro rfl; exact h2 rfl
  · rintro rfl; exact h3 rfl
theorem Inv.last {w wr w2 : World} {row : Option Nat} {base n0 : Nat} {xs l : List UInt8} {k g m cap g2 cap2 : Nat} (I : Inv w row base n0 xs l k k g m cap wr) (hk : l.length = k) (h : w2.ownsRow base 5 1 (.slice (some ⟨g2, 0, none⟩) (m + 1) cap2) (m + 1) (bc (xs ++ [34] ++ esc (l.take k)) ++ [.int .u8 34]))
    (hg : wr.grownBy w2 (some g)) (hr : some g = some g2 ∨ wr.heap.size ≤ g2) : m + 1 = n0 + (lit l).length ∧ w2.ownsRow base 5 1 (.slice (some ⟨g2, 0, none⟩) (m + 1) cap2) (m + 1) (bc (xs ++ lit l)) ∧ w.grownBy w2 row ∧ (row = some g2 ∨ w.heap.size ≤ g2) := by
  have e : l.take k = l := List.take_of_length_le (by omega)
  have hl := I.len
  rw [e] at h hl
  refine ⟨?_, ?_, grown_trans I.grown I.row hg, row_trans I.grown.size I.row hr⟩
  · simp [lit]; omega
  · have e2 : bc (xs ++ lit l) = bc (xs ++ [34] ++ esc l) ++ [.int .u8 34] := by simp [lit, bc]
    rw [e2]; exact h
theorem toNat_eq {c : UInt8} {n : Nat} (hn : n < 256) (h : c.toNat = n) : c = UInt8.ofNat n := by
  apply UInt8.toNat.inj
  rw [h]
  simp
  omega

set_option maxHeartbeats 4000000 in
theorem appendString_any (base : Nat) (a : Option Addr) (n c : Nat) (xs : List UInt8) (s : ByteArray) (w : World) (hown : w.ownsRow base 5 1 (.slice a n c) n (bc xs)) (hbase : base ≤ w.heap.size) (hn : n ≤ 1048576) (hs : s.size ≤ 1048576) :
    Calls Try.prog 7 #[.slice a n c, .string s] w fun e w' => ∃ g cap : Nat, e = .returned (.slice (some ⟨g, 0, none⟩) (n + (lit s.data.toList).length) cap) ∧ w'.ownsRow base 5 1 (.slice (some ⟨g, 0, none⟩) (n + (lit s.data.toList).length) cap) (n + (lit s.data.toList).length) (bc (xs ++ lit s.data.toList)) ∧
      w.grownBy w' (Value.slice a n c).ownBlock ∧ ((Value.slice a n c).ownBlock = some g ∨ w.heap.size ≤ g) := by
  have hsl : s.data.toList.length = s.size := by simp
  go_enter Try.func7, Try.ntmps7
  go_wp2_with (at_builtin; refine wpList_app _ rfl (.tmp 8) (.tmp 9) 22 rfl base _ n _ rfl (hown.alloc _) _ 1 [.int .u8 34] rfl (src_lit _ _ 1 [.int .u8 34] rfl rfl (by simp [Value.oneCell'])) (by omega) (by simp; omega) (.inr (by decide)) ?_; intro g1 cap1 w1 hown1 hgrow1 hg1)
  have I0 : Inv w (Value.slice a n c).ownBlock base n xs s.data.toList 0 0 g1 (n + 1) cap1 w1 := inv_start hown1 hgrow1 hg1
  clear hown1 hgrow1 hg1
  go_loopw [0, 5, 6] (fun v st i wr => ∃ (k t g m cap : Nat), t ≤ k ∧ k ≤ s.size ∧ i = .int .i64 k ∧ st = .int .i64 t ∧ v = .slice (some ⟨g, 0, none⟩) m cap ∧ Inv w (Value.slice a n c).ownBlock base n xs s.data.toList k t g m cap wr) (fun _ _ i _ => s.size - (intOf i).toNat)
  case atStart => exact ⟨0, 0, _, _, _, Nat.le_refl _, Nat.zero_le _, rfl, rfl, rfl, I0⟩
  case round =>
    clear I0
    obtain ⟨k, t, g, m, cap, htk, hk, rfl, rfl, rfl, I⟩ := hrel
    by_cases hlt : k < s.size
    · have hat := byte_at hlt
      obtain ⟨b, hb⟩ : ∃ b, s[k] = b := ⟨_, rfl⟩
      rw [hb] at hat
      obtain ⟨q, hq⟩ : ∃ q, b.toNat = q := ⟨_, rfl⟩
      have hq2 : s[k].toNat = q := by rw [hb, hq]
      have hqs : q < 256 := by rw [← hq]; exact b.toNat_lt
      have hHat : Hid (s.data.toList[k]? = some b) := hat
      have hHq : Hid (b.toNat = q) := hq
      have HI : Hid (Inv w (Value.slice a n c).ownBlock base n xs s.data.toList k t g m cap wr) := I
      clear hat hb hq I
      by_cases h34 : q = 34
      · subst h34
        go_wp2_with (first
          | (at_builtin; refine wpList_app _ rfl (.tmp 30) (.tmp 34) 9 rfl base _ m _ rfl HI.out.own _ (k - t) _ rfl (src_str _ s t k htk hk) (by have := HI.out.bound; omega) (HI.out.baseLe hbase) (ne_nil _ _ _ _) ?_; intro g2 cap2 w2 hown2 hgrow2 hg2; have J := hid (HI.out.flush htk (by omega) hown2 hgrow2 hg2); clear hown2 hgrow2 hg2)
          | (at_builtin; refine wpList_app _ rfl (.tmp 49) (.tmp 51) 22 rfl base _ _ _ rfl (J.out.alloc _).own _ 2 [.int .u8 92, .int .u8 34] rfl (src_lit _ _ 2 _ rfl rfl (by simp [Value.oneCell'])) (by have := J.out.bound; omega) ((J.out.alloc _).baseLe hbase) (ne_nil _ _ _ _) ?_; intro g3 cap3 w3 hown3 hgrow3 hg3; have J3 := hid ((J.out.alloc _).push hHat.out (by rw [toNat_eq (by decide) hHq.out]; rfl) (by rw [toNat_eq (by decide) hHq.out]; rfl) hown3 hgrow3 hg3); clear hown3 hgrow3 hg3))
        go_roundw
        case rel => exact ⟨k + 1, k + 1, _, _, _, Nat.le_refl _, by omega, by go_num, by go_num, rfl, J3.out⟩
        case measure => simp [intOf]; omega
      by_cases h92 : q = 92
      · subst h92
        go_wp2_with (first
          | (at_builtin; refine wpList_app _ rfl (.tmp 30) (.tmp 34) 9 rfl base _ m _ rfl HI.out.own _ (k - t) _ rfl (src_str _ s t k htk hk) (by have := HI.out.bound; omega) (HI.out.baseLe hbase) (ne_nil _ _ _ _) ?_; intro g2 cap2 w2 hown2 hgrow2 hg2; have J := hid (HI.out.flush htk (by omega) hown2 hgrow2 hg2); clear hown2 hgrow2 hg2)
          | (at_builtin; refine wpList_app _ rfl (.tmp 49) (.tmp 51) 22 rfl base _ _ _ rfl (J.out.alloc _).own _ 2 [.int .u8 92, .int .u8 92] rfl (src_lit _ _ 2 _ rfl rfl (by simp [Value.oneCell'])) (by have := J.out.bound; omega) ((J.out.alloc _).baseLe hbase) (ne_nil _ _ _ _) ?_; intro g3 cap3 w3 hown3 hgrow3 hg3; have J3 := hid ((J.out.alloc _).push hHat.out (by rw [toNat_eq (by decide) hHq.out]; rfl) (by rw [toNat_eq (by decide) hHq.out]; rfl) hown3 hgrow3 hg3); clear hown3 hgrow3 hg3))
        go_roundw
        case rel => exact ⟨k + 1, k + 1, _, _, _, Nat.le_refl _, by omega, by go_num, by go_num, rfl, J3.out⟩
        case measure => simp [intOf]; omega
      by_cases h10 : q = 10
      · subst h10
        go_wp2_with (first
          | (at_builtin; refine wpList_app _ rfl (.tmp 30) (.tmp 34) 9 rfl base _ m _ rfl HI.out.own _ (k - t) _ rfl (src_str _ s t k htk hk) (by have := HI.out.bound; omega) (HI.out.baseLe hbase) (ne_nil _ _ _ _) ?_; intro g2 cap2 w2 hown2 hgrow2 hg2; have J := hid (HI.out.flush htk (by omega) hown2 hgrow2 hg2); clear hown2 hgrow2 hg2)
          | (at_builtin; refine wpList_app _ rfl (.tmp 55) (.const (.string ⟨#[92, 110]⟩)) 9 rfl base _ _ _ rfl J.out.own _ 2 _ rfl (Src.ofString _ Try.underlying9 ⟨#[92, 110]⟩) (by have := J.out.bound; omega) (J.out.baseLe hbase) (ne_nil _ _ _ _) ?_; intro g3 cap3 w3 hown3 hgrow3 hg3; have J3 := hid (J.out.push hHat.out (by rw [toNat_eq (by decide) hHq.out]; rfl) (by rw [toNat_eq (by decide) hHq.out]; rfl) hown3 hgrow3 hg3); clear hown3 hgrow3 hg3))
        go_roundw
        case rel => exact ⟨k + 1, k + 1, _, _, _, Nat.le_refl _, by omega, by go_num, by go_num, rfl, J3.out⟩
        case measure => simp [intOf]; omega
      by_cases h13 : q = 13
      · subst h13
        go_wp2_with (first
          | (at_builtin; refine wpList_app _ rfl (.tmp 30) (.tmp 34) 9 rfl base _ m _ rfl HI.out.own _ (k - t) _ rfl (src_str _ s t k htk hk) (by have := HI.out.bound; omega) (HI.out.baseLe hbase) (ne_nil _ _ _ _) ?_; intro g2 cap2 w2 hown2 hgrow2 hg2; have J := hid (HI.out.flush htk (by omega) hown2 hgrow2 hg2); clear hown2 hgrow2 hg2)
          | (at_builtin; refine wpList_app _ rfl (.tmp 59) (.const (.string ⟨#[92, 114]⟩)) 9 rfl base _ _ _ rfl J.out.own _ 2 _ rfl (Src.ofString _ Try.underlying9 ⟨#[92, 114]⟩) (by have := J.out.bound; omega) (J.out.baseLe hbase) (ne_nil _ _ _ _) ?_; intro g3 cap3 w3 hown3 hgrow3 hg3; have J3 := hid (J.out.push hHat.out (by rw [toNat_eq (by decide) hHq.out]; rfl) (by rw [toNat_eq (by decide) hHq.out]; rfl) hown3 hgrow3 hg3); clear hown3 hgrow3 hg3))
        go_roundw
        case rel => exact ⟨k + 1, k + 1, _, _, _, Nat.le_refl _, by omega, by go_num, by go_num, rfl, J3.out⟩
        case measure => simp [intOf]; omega
      by_cases h9 : q = 9
      · subst h9
        go_wp2_with (first
          | (at_builtin; refine wpList_app _ rfl (.tmp 30) (.tmp 34) 9 rfl base _ m _ rfl HI.out.own _ (k - t) _ rfl (src_str _ s t k htk hk) (by have := HI.out.bound; omega) (HI.out.baseLe hbase) (ne_nil _ _ _ _) ?_; intro g2 cap2 w2 hown2 hgrow2 hg2; have J := hid (HI.out.flush htk (by omega) hown2 hgrow2 hg2); clear hown2 hgrow2 hg2)
          | (at_builtin; refine wpList_app _ rfl (.tmp 63) (.const (.string ⟨#[92, 116]⟩)) 9 rfl base _ _ _ rfl J.out.own _ 2 _ rfl (Src.ofString _ Try.underlying9 ⟨#[92, 116]⟩) (by have := J.out.bound; omega) (J.out.baseLe hbase) (ne_nil _ _ _ _) ?_; intro g3 cap3 w3 hown3 hgrow3 hg3; have J3 := hid (J.out.push hHat.out (by rw [toNat_eq (by decide) hHq.out]; rfl) (by rw [toNat_eq (by decide) hHq.out]; rfl) hown3 hgrow3 hg3); clear hown3 hgrow3 hg3))
        go_roundw
        case rel => exact ⟨k + 1, k + 1, _, _, _, Nat.le_refl _, by omega, by go_num, by go_num, rfl, J3.out⟩
        case measure => simp [intOf]; omega
      by_cases h32 : 32 ≤ q
      · have n1 : ((q : Int) != 34) = true := by simp; omega
        have n2 : ((q : Int) != 92) = true := by simp; omega
        go_wp2
        go_roundw
        case rel => exact ⟨k + 1, t, _, _, _, by omega, by omega, by go_num, rfl, rfl, HI.out.skip htk hHat.out (plain_of hHq.out h32 h34 h92)⟩
        case measure => simp [intOf]; omega
      · go_wp2_with (at_builtin; refine wpList_app _ rfl (.tmp 30) (.tmp 34) 9 rfl base _ m _ rfl HI.out.own _ (k - t) _ rfl (src_str _ s t k htk hk) (by have := HI.out.bound; omega) (HI.out.baseLe hbase) (ne_nil _ _ _ _) ?_; intro g2 cap2 w2 hown2 hgrow2 hg2; have J := hid (HI.out.flush htk (by omega) hown2 hgrow2 hg2); clear hown2 hgrow2 hg2)
        have hd1 : 0 ≤ (q : Int) / 16 ∧ (q : Int) / 16 < 16 := by omega
        have hd2 : 0 ≤ (q : Int) % 16 ∧ (q : Int) % 16 < 16 := by omega
        have hd3 := bits_low (by omega : q < 32)
        go_region_law (refine step_app rfl (.tmp 37) (.tmp 44) 22 rfl base (.slice (some ⟨g2, 0, none⟩) (m + (k - t)) cap2) (m + (k - t)) _ (by simp [Act.eval]) (J.out.alloc _).drew.own (.slice (some ⟨w2.heap.size, 0, none⟩) 6 6) 6 _ (by simp [Act.eval]) (src_lit_drew _ _ 6 _ rfl rfl (by simp [Value.oneCell'])) (by have := J.out.bound; omega) ((J.out.alloc _).drew.baseLe hbase) (ne_nil _ _ _ _) ?_; intro g3 cap3 w3 hown3 hgrow3 hg3; have J3 := hid ((J.out.alloc _).drew.push hHat.out (by rw [esc1_hex hHq.out h34 h92 h10 h13 h9 h32]; exact news_hex _ _) (by rw [esc1_hex hHq.out h34 h92 h10 h13 h9 h32]; rfl) hown3 hgrow3 hg3); clear hown3 hgrow3 hg3)
        all_goals
          go_wp2
          go_roundw
          case rel => exact ⟨k + 1, k + 1, _, _, _, Nat.le_refl _, by omega, by go_num, by go_num, rfl, J3.out⟩
          case measure => simp [intOf]; omega
    · obtain rfl : k = s.size := by omega
      go_wp2_with (first
        | (at_builtin; refine wpList_app _ rfl (.tmp 67) (.tmp 70) 9 rfl base _ m _ rfl I.own _ (s.size - t) _ rfl (src_str _ s t s.size htk hk) (by have := I.bound; omega) (I.baseLe hbase) (ne_nil _ _ _ _) ?_; intro g2 cap2 w2 hown2 hgrow2 hg2; have J := hid (I.flush htk (by omega) hown2 hgrow2 hg2); clear hown2 hgrow2 hg2)
        | (at_builtin; refine wpList_app _ rfl (.tmp 72) (.tmp 73) 22 rfl base _ _ _ rfl (J.out.alloc _).own _ 1 [.int .u8 34] rfl (src_lit _ _ 1 _ rfl rfl (by simp [Value.oneCell'])) (by have := J.out.bound; omega) ((J.out.alloc _).baseLe hbase) (ne_nil _ _ _ _) ?_; intro g3 cap3 w3 hown3 hgrow3 hg3; have J3 := hid ((J.out.alloc _).last hsl hown3 hgrow3 hg3); clear hown3 hgrow3 hg3))
      go_ret
      obtain ⟨e1, e2, e3, e4⟩ := J3.out
      rw [← e1]
      exact ⟨g3, cap3, rfl, e2, e3, e4⟩
end Go.Proofs.Qxb6604296a
