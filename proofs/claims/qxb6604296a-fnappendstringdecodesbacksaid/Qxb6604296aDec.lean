import Derived.Test.Qxb6604296aLawA
namespace Go.Proofs.Qxb6604296a
open Go.RowKit

theorem hexd_val : ∀ {k : Nat}, k < 16 → (hexd k).toNat = if k < 10 then 48 + k else 87 + k := by decide
set_option maxHeartbeats 1000000 in
theorem hex10 (k v : Nat) (w : World) (hk : k < 16) (hv : v = if k < 10 then 48 + k else 87 + k) :
    Calls Try.prog 10 #[.int .u8 (v : Nat)] w fun e w' => e = .returned (.int .i64 (k : Nat)) ∧ w' = w := by
  by_cases h : k < 10
  · rw [if_pos h] at hv
    subst hv
    go_enter Try.func10, Try.ntmps10
    go_wp2
    go_ret
    exact ⟨by congr 1; go_num, rfl⟩
  · rw [if_neg h] at hv
    subst hv
    go_enter Try.func10, Try.ntmps10
    go_wp2
    go_ret
    exact ⟨by congr 1; go_num, rfl⟩

set_option maxRecDepth 20000 in
set_option maxHeartbeats 1000000 in
theorem code11 (base : Nat) (a : Option Addr) (n c : Nat) (xs : List Value) (q : Nat) (w : World) (hown : w.ownsRow base 5 1 (.slice a n c) n xs) (hbase : base ≤ w.heap.size) (hn : n ≤ 14000000) (hq : q < 32) :
    Calls Try.prog 11 #[.slice a n c, .int .i64 (q : Nat)] w fun e w' => ∃ g cap : Nat, e = .returned (.slice (some ⟨g, 0, none⟩) (n + 1) cap) ∧ w'.ownsRow base 5 1 (.slice (some ⟨g, 0, none⟩) (n + 1) cap) (n + 1) (xs ++ [.int .u8 (q : Nat)]) ∧ ∃ ob, (w.alloc ob).grownBy w' (Value.slice a n c).ownBlock := by
  have hm : (q : Int) % 256 = q := by omega
  go_enter Try.func11, Try.ntmps11
  go_wp2_with (at_builtin; refine wpList_app _ rfl (.tmp 7) (.tmp 10) 22 rfl base _ n _ rfl (hown.alloc _) _ 1 [.int .u8 (q : Nat)] rfl (src_lit _ _ 1 _ rfl rfl (by simp [Value.oneCell'])) (by omega) (by simp; omega) (.inr (by decide)) ?_; intro g1 cap1 w1 hown1 hgrow1 hg1)
  go_ret
  exact ⟨_, _, rfl, hown1, _, hgrow1⟩

structure DInv (w : World) (l : List UInt8) (k p : Nat) (oa : Option Addr) (oc : Nat) (wr : World) : Prop where
  pos : p = 1 + (esc (l.take k)).length
  own : wr.ownsRow w.heap.size 5 1 (.slice oa k oc) k (bc (l.take k))
  bel : Below w.heap.size w wr
theorem DInv.start (w : World) (l : List UInt8) : DInv w l 0 1 none 0 w := ⟨by simp [esc], by simpa [bc] using nil_own w w.heap.size, Below.refl _ _⟩
theorem split_at {l : List UInt8} {k : Nat} {ch : UInt8} (h : l[k]? = some ch) : lit l = ([34] ++ esc (l.take k)) ++ (esc1 ch ++ (esc (l.drop (k + 1)) ++ [34])) := by
  obtain ⟨hk, e⟩ := List.getElem?_eq_some_iff.1 h
  have e1 : l = l.take k ++ (ch :: l.drop (k + 1)) := by rw [← e, List.getElem_cons_drop, List.take_append_drop]
  have e2 : esc (ch :: l.drop (k + 1)) = esc1 ch ++ esc (l.drop (k + 1)) := by simp [esc]
  have e3 : esc l = esc (l.take k) ++ (esc1 ch ++ esc (l.drop (k + 1))) := by
    rw [← e2, ← esc_append, ← e1]
  unfold lit
  rw [e3]
  simp
section
variable {w wr : World} {l : List UInt8} {k p : Nat} {oa : Option Addr} {oc : Nat}
theorem DInv.cells (I : DInv w l k p oa oc wr) {b off : Nat} {ch : UInt8} (hc : ∀ j v, (bc (lit l))[j]? = some v → w.cell? ⟨b, off + j, none⟩ = some v) (hb : b < w.heap.size) (h : l[k]? = some ch) (j : Nat) (v : UInt8) (hj : (esc1 ch)[j]? = some v) :
    wr.cell? ⟨b, off + (p + j), none⟩ = some (.int .u8 v.toNat) := by
  rw [I.bel.cell (p := ⟨b, _, none⟩) hb]
  refine hc _ _ ?_
  have hp : ([34] ++ esc (l.take k)).length = p := by rw [I.pos]; simp; omega
  have hl := (List.getElem?_eq_some_iff.1 hj).1
  rw [bc, List.getElem?_map, split_at h, List.getElem?_append_right (by omega), hp, List.getElem?_append_left (by omega), Nat.add_sub_cancel_left, hj]
  rfl
theorem DInv.fits (I : DInv w l k p oa oc wr) {ch : UInt8} (h : l[k]? = some ch) : p + (esc1 ch).length + 1 ≤ (lit l).length := by
  have hp : ([34] ++ esc (l.take k)).length = p := by rw [I.pos]; simp; omega
  rw [split_at h, List.length_append, hp]
  simp
  omega
theorem DInv.last (I : DInv w l k p oa oc wr) (h : k = l.length) : p + 1 = (lit l).length := by
  have hp := I.pos
  rw [h, List.take_length] at hp
  rw [lit_len, hp]
  omega
theorem DInv.push (I : DInv w l k p oa oc wr) {w2 : World} {g cap : Nat} {ch : UInt8} {ob : Obj} (h : l[k]? = some ch) (ho : w2.ownsRow w.heap.size 5 1 (.slice (some ⟨g, 0, none⟩) (k + 1) cap) (k + 1) (bc (l.take k) ++ [.int .u8 ch.toNat])) (hg : (wr.alloc ob).grownBy w2 (Value.slice oa k oc).ownBlock) :
    DInv w l (k + 1) (p + (esc1 ch).length) (some ⟨g, 0, none⟩) cap w2 := by
  have ht := take_snoc h
  refine ⟨?_, ?_, ?_⟩
  · rw [ht, esc_append, List.length_append, I.pos]
    simp [esc]
    omega
  · rw [ht, bc_append]; exact ho
  · exact (I.bel.alloc I.bel.size ob).grown hg (by have := I.bel.size; simp; omega) (fun j hj => (I.own.lt j hj).1)
end
/-- What the four hex digits have come to. -/
def val (q r : Nat) : Nat := if r ≤ 2 then 0 else if r = 3 then q / 16 else q
theorem val_le (q r : Nat) (hq : q < 32) : val q r ≤ 31 := by unfold val; split; · omega
                                                              · split <;> omega
/-- The digit behind, and the next value. -/
theorem digit {wr : World} {b off p q r : Nat} (hq : q < 32) (hr : r < 4) (e2 : wr.cell? ⟨b, off + (p + 2), none⟩ = some (.int .u8 48)) (e3 : wr.cell? ⟨b, off + (p + 3), none⟩ = some (.int .u8 48))
    (e4 : wr.cell? ⟨b, off + (p + 4), none⟩ = some (.int .u8 (hexd (q / 16)).toNat)) (e5 : wr.cell? ⟨b, off + (p + 5), none⟩ = some (.int .u8 (hexd (q % 16)).toNat)) :
    ∃ kd vd : Nat, kd < 16 ∧ vd < 256 ∧ Hid (vd = if kd < 10 then 48 + kd else 87 + kd) ∧ wr.cell? ⟨b, off + (p + 2 + r), none⟩ = some (.int .u8 vd) ∧ Hid (val q (r + 1) = val q r * 16 + kd) := by
  have hr' : r = 0 ∨ r = 1 ∨ r = 2 ∨ r = 3 := by omega
  rcases hr' with rfl | rfl | rfl | rfl
  · exact ⟨0, 48, by omega, by omega, rfl, e2, rfl⟩
  · exact ⟨0, 48, by omega, by omega, rfl, e3, rfl⟩
  · exact ⟨q / 16, (hexd (q / 16)).toNat, by omega, UInt8.toNat_lt _, hexd_val (by omega), e4, by show val q 3 = val q 2 * 16 + q / 16; simp [val]⟩
  · exact ⟨q % 16, (hexd (q % 16)).toNat, by omega, UInt8.toNat_lt _, hexd_val (by omega), e5, by show val q 4 = val q 3 * 16 + q % 16; simp [val]; omega⟩

set_option maxRecDepth 20000 in
set_option maxHeartbeats 8000000 in
theorem decode_any (b off N c : Nat) (l : List UInt8) (w : World) (hn : Hid (N + 1 = (lit l).length)) (hN : 1 ≤ N) (hN2 : N ≤ 14000000) (hc : Hid (∀ j v, (bc (lit l))[j]? = some v → w.cell? ⟨b, off + j, none⟩ = some v)) (hb : b < w.heap.size)
    (c0 : w.cell? ⟨b, off, none⟩ = some (.int .u8 34)) (c1 : w.cell? ⟨b, off + N, none⟩ = some (.int .u8 34)) :
    Calls Try.prog 8 #[.slice (some ⟨b, off, none⟩) (N + 1) c] w fun e w' => ∃ (oa : Option Addr) (oc : Nat), e = .returned (.tuple #[.slice oa l.length oc, .bool true]) ∧ w'.ownsRow w.heap.size 5 1 (.slice oa l.length oc) l.length (bc l) ∧ Below w.heap.size w w' := by
  go_enter Try.func8, Try.ntmps8
  go_wp2
  go_loopw [5, 6] (fun out i wr => ∃ (k p : Nat) (oa : Option Addr) (oc : Nat), k ≤ l.length ∧ p ≤ N ∧ out = .slice oa k oc ∧ i = .int .i64 p ∧ DInv w l k p oa oc wr) (fun _ i _ => N - (intOf i).toNat)
  case atStart => exact ⟨0, 1, none, 0, Nat.zero_le _, hN, rfl, rfl, DInv.start w l⟩
  case round =>
    obtain ⟨k, p, oa, oc, hk, hp, rfl, rfl, I⟩ := hrel
    by_cases hlt : k < l.length
    · have hat : l[k]? = some (l[k]'hlt) := List.getElem?_eq_getElem hlt
      generalize l[k]'hlt = ch at hat
      have hf := I.fits hat
      rw [← hn.out] at hf
      have hcl := I.cells hc.out hb hat
      have hkN : k ≤ 14000000 := by
        have h1 := (esc_len (l.take k)).2
        have h2 := I.pos
        rw [List.length_take, Nat.min_eq_left hk] at h1
        omega
      obtain ⟨q, hq⟩ : ∃ q, ch.toNat = q := ⟨_, rfl⟩
      have hqs : q < 256 := by rw [← hq]; exact ch.toNat_lt
      have hHat : Hid (l[k]? = some ch) := hat
      have hHq : Hid (ch.toNat = q) := hq
      have HI : Hid (DInv w l k p oa oc wr) := I
      clear hat hq I c0 c1
      by_cases h34 : q = 34
      · subst h34
        obtain rfl : ch = 34 := toNat_eq (by decide) hHq.out
        have e0 : wr.cell? ⟨b, off + p, none⟩ = some (.int .u8 92) := hcl 0 92 rfl
        have e1 : wr.cell? ⟨b, off + (p + 1), none⟩ = some (.int .u8 34) := hcl 1 34 rfl
        have hf2 : p + 2 + 1 ≤ N + 1 := hf
        clear hcl hf
        go_wp2_with (at_builtin; refine wpList_app _ rfl (.tmp 67) (.tmp 69) 22 rfl w.heap.size _ k _ rfl (HI.out.own.alloc _) _ 1 [.int .u8 34] rfl (src_lit _ _ 1 _ rfl rfl (by simp [Value.oneCell'])) (by omega) (by have := HI.out.bel.size; simp; omega) (.inr (by decide)) ?_; intro g2 cap2 w2 hown2 hgrow2 hg2; have J := hid (HI.out.push hHat.out hown2 hgrow2); clear hown2 hgrow2 hg2)
        go_roundw
        case rel => exact ⟨k + 1, p + 2, _, _, by omega, by omega, rfl, by go_num, J.out⟩
        case measure => simp [intOf]; omega
      by_cases h92 : q = 92
      · subst h92
        obtain rfl : ch = 92 := toNat_eq (by decide) hHq.out
        have e0 : wr.cell? ⟨b, off + p, none⟩ = some (.int .u8 92) := hcl 0 92 rfl
        have e1 : wr.cell? ⟨b, off + (p + 1), none⟩ = some (.int .u8 92) := hcl 1 92 rfl
        have hf2 : p + 2 + 1 ≤ N + 1 := hf
        clear hcl hf
        go_wp2_with (at_builtin; refine wpList_app _ rfl (.tmp 67) (.tmp 69) 22 rfl w.heap.size _ k _ rfl (HI.out.own.alloc _) _ 1 [.int .u8 92] rfl (src_lit _ _ 1 _ rfl rfl (by simp [Value.oneCell'])) (by omega) (by have := HI.out.bel.size; simp; omega) (.inr (by decide)) ?_; intro g2 cap2 w2 hown2 hgrow2 hg2; have J := hid (HI.out.push hHat.out hown2 hgrow2); clear hown2 hgrow2 hg2)
        go_roundw
        case rel => exact ⟨k + 1, p + 2, _, _, by omega, by omega, rfl, by go_num, J.out⟩
        case measure => simp [intOf]; omega
      by_cases h10 : q = 10
      · subst h10
        obtain rfl : ch = 10 := toNat_eq (by decide) hHq.out
        have e0 : wr.cell? ⟨b, off + p, none⟩ = some (.int .u8 92) := hcl 0 92 rfl
        have e1 : wr.cell? ⟨b, off + (p + 1), none⟩ = some (.int .u8 110) := hcl 1 110 rfl
        have hf2 : p + 2 + 1 ≤ N + 1 := hf
        clear hcl hf
        go_wp2_with (at_builtin; refine wpList_app _ rfl (.tmp 89) (.tmp 90) 22 rfl w.heap.size _ k _ rfl (HI.out.own.alloc _) _ 1 [.int .u8 10] rfl (src_lit _ _ 1 _ rfl rfl (by simp [Value.oneCell'])) (by omega) (by have := HI.out.bel.size; simp; omega) (.inr (by decide)) ?_; intro g2 cap2 w2 hown2 hgrow2 hg2; have J := hid (HI.out.push hHat.out hown2 hgrow2); clear hown2 hgrow2 hg2)
        go_roundw
        case rel => exact ⟨k + 1, p + 2, _, _, by omega, by omega, rfl, by go_num, J.out⟩
        case measure => simp [intOf]; omega
      by_cases h13 : q = 13
      · subst h13
        obtain rfl : ch = 13 := toNat_eq (by decide) hHq.out
        have e0 : wr.cell? ⟨b, off + p, none⟩ = some (.int .u8 92) := hcl 0 92 rfl
        have e1 : wr.cell? ⟨b, off + (p + 1), none⟩ = some (.int .u8 114) := hcl 1 114 rfl
        have hf2 : p + 2 + 1 ≤ N + 1 := hf
        clear hcl hf
        go_wp2_with (at_builtin; refine wpList_app _ rfl (.tmp 96) (.tmp 97) 22 rfl w.heap.size _ k _ rfl (HI.out.own.alloc _) _ 1 [.int .u8 13] rfl (src_lit _ _ 1 _ rfl rfl (by simp [Value.oneCell'])) (by omega) (by have := HI.out.bel.size; simp; omega) (.inr (by decide)) ?_; intro g2 cap2 w2 hown2 hgrow2 hg2; have J := hid (HI.out.push hHat.out hown2 hgrow2); clear hown2 hgrow2 hg2)
        go_roundw
        case rel => exact ⟨k + 1, p + 2, _, _, by omega, by omega, rfl, by go_num, J.out⟩
        case measure => simp [intOf]; omega
      by_cases h9 : q = 9
      · subst h9
        obtain rfl : ch = 9 := toNat_eq (by decide) hHq.out
        have e0 : wr.cell? ⟨b, off + p, none⟩ = some (.int .u8 92) := hcl 0 92 rfl
        have e1 : wr.cell? ⟨b, off + (p + 1), none⟩ = some (.int .u8 116) := hcl 1 116 rfl
        have hf2 : p + 2 + 1 ≤ N + 1 := hf
        clear hcl hf
        go_wp2_with (at_builtin; refine wpList_app _ rfl (.tmp 103) (.tmp 104) 22 rfl w.heap.size _ k _ rfl (HI.out.own.alloc _) _ 1 [.int .u8 9] rfl (src_lit _ _ 1 _ rfl rfl (by simp [Value.oneCell'])) (by omega) (by have := HI.out.bel.size; simp; omega) (.inr (by decide)) ?_; intro g2 cap2 w2 hown2 hgrow2 hg2; have J := hid (HI.out.push hHat.out hown2 hgrow2); clear hown2 hgrow2 hg2)
        go_roundw
        case rel => exact ⟨k + 1, p + 2, _, _, by omega, by omega, rfl, by go_num, J.out⟩
        case measure => simp [intOf]; omega
      by_cases h32 : 32 ≤ q
      · have hes := esc1_plain (plain_of hHq.out h32 h34 h92)
        have e0 : wr.cell? ⟨b, off + p, none⟩ = some (.int .u8 q) := by
          have := hcl 0 ch (by rw [hes]; rfl)
          rw [hHq.out] at this
          exact this
        rw [hes] at hf
        have hf2 : p + 1 + 1 ≤ N + 1 := hf
        have hlen : Hid ((esc1 ch).length = 1) := by show (esc1 ch).length = 1; rw [hes]; rfl
        have hnews : Hid ([Value.int .u8 q] = [Value.int .u8 ch.toNat]) := by show [_] = [_]; rw [hHq.out]
        clear hcl hf hes
        have n1 : ((q : Int) == 34) = false := by simp; omega
        have n2 : ((q : Int) != 92) = true := by simp; omega
        go_wp2_with (at_builtin; refine wpList_app _ rfl (.tmp 46) (.tmp 48) 22 rfl w.heap.size _ k _ rfl (HI.out.own.alloc _) _ 1 [.int .u8 q] rfl (src_lit _ _ 1 _ rfl rfl (by simp [Value.oneCell'])) (by omega) (by have := HI.out.bel.size; simp; omega) (.inr (by decide)) ?_; intro g2 cap2 w2 hown2 hgrow2 hg2; rw [hnews.out] at hown2; have J := hid (HI.out.push hHat.out hown2 hgrow2); rw [hlen.out] at J; clear hown2 hgrow2 hg2)
        go_roundw
        case rel => exact ⟨k + 1, p + 1, _, _, by omega, by omega, rfl, by go_num, J.out⟩
        case measure => simp [intOf]; omega
      · have hes := esc1_hex hHq.out h34 h92 h10 h13 h9 h32
        have e0 : wr.cell? ⟨b, off + p, none⟩ = some (.int .u8 92) := hcl 0 92 (by rw [hes]; rfl)
        have e1 : wr.cell? ⟨b, off + (p + 1), none⟩ = some (.int .u8 117) := hcl 1 117 (by rw [hes]; rfl)
        have e2 : wr.cell? ⟨b, off + (p + 2), none⟩ = some (.int .u8 48) := hcl 2 48 (by rw [hes]; rfl)
        have e3 : wr.cell? ⟨b, off + (p + 3), none⟩ = some (.int .u8 48) := hcl 3 48 (by rw [hes]; rfl)
        have e4 : wr.cell? ⟨b, off + (p + 4), none⟩ = some (.int .u8 (hexd (q / 16)).toNat) := hcl 4 _ (by rw [hes]; rfl)
        have e5 : wr.cell? ⟨b, off + (p + 5), none⟩ = some (.int .u8 (hexd (q % 16)).toNat) := hcl 5 _ (by rw [hes]; rfl)
        rw [hes] at hf
        have hf2 : p + 6 + 1 ≤ N + 1 := hf
        have hlen : Hid ((esc1 ch).length = 6) := by show (esc1 ch).length = 6; rw [hes]; rfl
        have hnews : Hid ([Value.int .u8 q] = [Value.int .u8 ch.toNat]) := by show [_] = [_]; rw [hHq.out]
        have HD := hid (fun r (hr : r < 4) => digit (r := r) (q := q) (by omega) hr e2 e3 e4 e5)
        clear hcl hf hes e2 e3 e4 e5
        have hpN : p < N := by omega
        go_wp2
        go_loopw [9, 10] (fun vv jj wq => ∃ (r v : Nat), r ≤ 4 ∧ v ≤ 31 ∧ vv = .int .i64 v ∧ jj = .int .i64 ((p + 2 + r : Nat)) ∧ Hid (v = val q r) ∧ wq = wr) (fun _ jj _ => p + 6 - (intOf jj).toNat)
        case atStart => exact ⟨0, 0, by omega, by omega, rfl, by go_num, rfl, rfl⟩
        case round =>
          obtain ⟨r, v, hr, hv, rfl, rfl, hV, rfl⟩ := hrel
          by_cases hr4 : r < 4
          · obtain ⟨kd, vd, hkd, hvd, hvv, hcd, hnx⟩ := HD.out r hr4
            go_wp2_with (go_at_call 10; refine (hex10 kd vd _ hkd hvv).mono ?_; rintro e w' ⟨rfl, hw⟩; obtain rfl := hw.symm)
            go_roundw
            case rel =>
              have hvl := val_le q (r + 1) (by omega)
              rw [hnx.out, ← hV.out] at hvl
              have hve : Hid (v * 16 + kd = val q (r + 1)) := by show _ = val q (r + 1); rw [hnx.out, ← hV.out]
              exact ⟨r + 1, v * 16 + kd, by omega, hvl, by go_num, by go_num, hve, trivial⟩
            case measure => simp [intOf]; omega
          · obtain rfl : r = 4 := by omega
            obtain rfl : v = q := hV.out
            go_wp2_with (go_at_call 11; refine (code11 w.heap.size oa k oc _ v _ HI.out.own HI.out.bel.size (by omega) (by omega)).mono ?_; rintro e w2 ⟨g2, cap2, rfl, hown2, ob, hgrow2⟩; rw [hnews.out] at hown2; have J := hid (HI.out.push hHat.out hown2 hgrow2); rw [hlen.out] at J; clear hown2 hgrow2)
            go_roundw
            case rel => exact ⟨k + 1, p + 6, _, _, by omega, by omega, rfl, by go_num, J.out⟩
            case measure => simp [intOf]; omega
    · have hpN : p = N := by have := I.last (by omega); have := hn.out; omega
      subst hpN
      have hkl : k = l.length := by omega
      go_wp2
      go_ret2
      rw [← hkl]
      refine ⟨_, _, rfl, ?_, I.bel⟩
      have := I.own
      rwa [show l.take k = l by rw [hkl, List.take_length]] at this
end Go.Proofs.Qxb6604296a
