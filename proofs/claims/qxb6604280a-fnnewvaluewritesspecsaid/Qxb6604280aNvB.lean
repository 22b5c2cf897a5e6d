import Derived.Test.Qxb6604280aNvA
import Derived.Test.Qxb6604280aByA
import Derived.Maps.AppendAt
namespace Go.Proofs.Qxb6604280a
open Go.RowKit
abbrev kv (o s : ByteArray) : Value := .agg #[.string o, .string s]
def ints (l : List Nat) : List Value := l.map fun (i : Nat) => Value.int .i64 i
/-- The map of writers behind the records rs. -/
structure WrOk (rs : List Rc) (M : Nat) (R : Value → Value → Prop) (wr : World) : Prop where
  map : MapOk Try.prog 54 wr M R
  own : ∀ x v, R x v → ∃ o s, x = kv o s ∧ idxs rs o s ≠ [] ∧ wr.ownsRow (M + 1) 3 1 v (idxs rs o s).length (ints (idxs rs o s))
  has : ∀ o s, idxs rs o s ≠ [] → ∃ v, R (kv o s) v
  apart : ∀ x v x' v', R x v → R x' v' → x ≠ x' → v.ownBlock ≠ v'.ownBlock
theorem kv_inj {o s o' s' : ByteArray} (h : kv o s = kv o' s') : o = o' ∧ s = s' := by
  simp [kv] at h; exact h
theorem own_grown {w w' : World} {base e size n : Nat} {v : Value} {xs : List Value} {row : Option Nat} (h : w.ownsRow base e size v n xs) (hg : w.grownBy w' row) (hne : v.ownBlock ≠ row) : w'.ownsRow base e size v n xs := h.kept hg (.inr hne)
theorem WrOk.alloc {rs : List Rc} {M : Nat} {R : Value → Value → Prop} {wr : World} (h : WrOk rs M R wr) (ob : Obj) : WrOk rs M R (wr.alloc ob) :=
  ⟨h.map.of_block (Below.heap_alloc wr ob _ h.map.lt), fun x v hv => by obtain ⟨o, s, h1, h2, h3⟩ := h.own x v hv; exact ⟨o, s, h1, h2, h3.alloc ob⟩, h.has, h.apart⟩
/-- The entry's value owns its row. -/
theorem entry_own {rs : List Rc} {M : Nat} {R : Value → Value → Prop} {W w1 : World} (h : WrOk rs M R W) (ho : Only M W w1) {o s : ByteArray} {v0 : Value} (hv : R (kv o s) v0 ∨ ((∀ v, ¬ R (kv o s) v) ∧ v0 = .slice none 0 0)) :
    w1.ownsRow (M + 1) 3 1 v0 (idxs rs o s).length (ints (idxs rs o s)) := by
  rcases hv with hv | ⟨hv, rfl⟩
  · obtain ⟨o', s', h1, _, h3⟩ := h.own _ _ hv
    obtain ⟨rfl, rfl⟩ := kv_inj h1
    exact owns_only h3 ho (by omega)
  · have : idxs rs o s = [] := Classical.byContradiction fun hne => by
      obtain ⟨v, h4⟩ := h.has o s hne
      exact hv v h4
    rw [this]
    exact World.ownsRow_nil _ _ _ _
theorem entry_keeps {rs : List Rc} {M : Nat} {R : Value → Value → Prop} {W w1 w2 : World} (h : WrOk rs M R W) (ho : Only M W w1) {o s : ByteArray} {v0 : Value} (hv : R (kv o s) v0 ∨ ((∀ v, ¬ R (kv o s) v) ∧ v0 = .slice none 0 0))
    (hg : w1.grownBy w2 v0.ownBlock) : w2.heap[M]? = w1.heap[M]? :=
  hg.block M (by rw [ho.size]; exact h.map.lt) (fun e => by
    have := ((entry_own h ho hv).lt M e.symm).1
    omega)
/-- One write more. -/
theorem wr_step {rs : List Rc} {r : Rc} {M : Nat} {R : Value → Value → Prop} {W w1 w2 w3 : World} {v0 v' : Value} (h : WrOk rs M R W) (hk : r.kind = 0) (ho : Only M W w1)
    (hv : R (kv r.obj r.val) v0 ∨ ((∀ v, ¬ R (kv r.obj r.val) v) ∧ v0 = .slice none 0 0))
    (hown : w2.ownsRow (M + 1) 3 1 v' ((idxs rs r.obj r.val).length + 1) (ints (idxs rs r.obj r.val) ++ [.int .i64 (rs.length : Nat)])) (hg : w1.grownBy w2 v0.ownBlock)
    (hloc : v'.ownBlock = v0.ownBlock ∨ v'.ownBlock = some w1.heap.size)
    (hmap : MapOk Try.prog 54 w3 M (upd R (kv r.obj r.val) v')) (ho3 : Only M w2 w3) : WrOk (rs ++ [r]) M (upd R (kv r.obj r.val) v') w3 := by
  have hhit : hitB r.obj r.val r = true := hitB_self hk
  have hnew : idxs (rs ++ [r]) r.obj r.val = idxs rs r.obj r.val ++ [rs.length] := by rw [idxs_snoc, if_pos hhit]
  have hold : ∀ o s, ¬ (o = r.obj ∧ s = r.val) → idxs (rs ++ [r]) o s = idxs rs o s := fun o s hne => by
    rw [idxs_snoc, if_neg, List.append_nil]
    intro hc
    simp [hitB] at hc
    exact hne ⟨hc.2.1.symm, hc.2.2.symm⟩
  have hs1 : w1.heap.size = W.heap.size := ho.size
  -- other keys' values are apart from the entry's
  have hap : ∀ x v, R x v → x ≠ kv r.obj r.val → v.ownBlock ≠ none → v.ownBlock ≠ v0.ownBlock ∧ v.ownBlock ≠ some w1.heap.size := fun x v hx hne hnn => by
    obtain ⟨o, s, _, _, h3⟩ := h.own x v hx
    refine ⟨?_, fun e => by have := (h3.lt _ e).2; omega⟩
    rcases hv with hv | ⟨_, rfl⟩
    · exact h.apart _ _ _ _ hx hv hne
    · exact fun e => hnn e
  have hnn : ∀ x v, R x v → v.ownBlock ≠ none := fun x v hx e => by
    obtain ⟨o, s, _, h2, h3⟩ := h.own x v hx
    rcases h3.2 with ⟨rfl, h4⟩ | ⟨g, cap, cur, rfl, _⟩
    · exact h2 (List.length_eq_zero_iff.1 h4)
    · cases e
  have hv'n : v'.ownBlock ≠ none := fun e => by
    rcases hown.2 with ⟨rfl, h4⟩ | ⟨g, cap, cur, rfl, _⟩
    · omega
    · cases e
  refine ⟨hmap, fun x v hx => ?_, fun o s hne => ?_, fun x v x2 v2 hx hx2 hne => ?_⟩
  · rcases hx with ⟨rfl, rfl⟩ | ⟨hne, hx⟩
    · refine ⟨r.obj, r.val, rfl, by rw [hnew]; simp, ?_⟩
      rw [hnew, ints, List.map_append, List.length_append]
      exact owns_only hown ho3 (by omega)
    · obtain ⟨o, s, h1, h2, h3⟩ := h.own x v hx
      have hos : ¬ (o = r.obj ∧ s = r.val) := fun e => hne (by rw [h1, e.1, e.2])
      refine ⟨o, s, h1, by rw [hold o s hos]; exact h2, ?_⟩
      rw [hold o s hos]
      exact owns_only (own_grown (owns_only h3 ho (by omega)) hg (hap x v hx hne (hnn x v hx)).1) ho3 (by omega)
  · by_cases e : o = r.obj ∧ s = r.val
    · obtain ⟨rfl, rfl⟩ := e
      exact ⟨v', .inl ⟨rfl, rfl⟩⟩
    · rw [hold o s e] at hne
      obtain ⟨v, hv2⟩ := h.has o s hne
      exact ⟨v, .inr ⟨fun q => e (kv_inj q), hv2⟩⟩
  · have key : ∀ x v, R x v → x ≠ kv r.obj r.val → v.ownBlock ≠ v'.ownBlock := fun x v hx hne e => by
      have := hap x v hx hne (hnn x v hx)
      rcases hloc with hl | hl
      · exact this.1 (e.trans hl)
      · exact this.2 (e.trans hl)
    rcases hx with ⟨rfl, rfl⟩ | ⟨hne1, hx⟩ <;> rcases hx2 with ⟨rfl, rfl⟩ | ⟨hne2, hx2⟩
    · exact absurd rfl hne
    · exact fun e => key _ _ hx2 hne2 e.symm
    · exact key _ _ hx hne1
    · exact h.apart _ _ _ _ hx hx2 hne
theorem wr_skip {rs : List Rc} {r : Rc} {M : Nat} {R : Value → Value → Prop} {W : World} (h : WrOk rs M R W) (hk : ¬ r.kind = 0) : WrOk (rs ++ [r]) M R W := by
  have hold : ∀ o s, idxs (rs ++ [r]) o s = idxs rs o s := fun o s => by
    rw [idxs_snoc, if_neg, List.append_nil]
    simp [hitB, hk]
  refine ⟨h.map, fun x v hx => ?_, fun o s hne => ?_, h.apart⟩
  · obtain ⟨o, s, h1, h2, h3⟩ := h.own x v hx
    exact ⟨o, s, h1, by rw [hold]; exact h2, by rw [hold]; exact h3⟩
  · rw [hold] at hne; exact h.has o s hne
theorem wr_made (w : World) : WrOk [] w.heap.size (fun _ _ => False) (w.alloc (.map #[] 0)) :=
  ⟨mapOk_made w Try.prog 54, fun _ _ h => h.elim, fun o s h => absurd (idxs_nil o s) h, fun _ _ _ _ h => h.elim⟩
theorem zero40 (w : World) : (zeroValue 40).run Try.prog w = .ok (.slice none 0 0) w := by kernel_rfl

theorem news_cell {W w1 : World} {M : Nat} {v : Value} (ho : Only M (W.alloc (.cells #[v] 3)) w1) (hM : M < W.heap.size) (N : Nat) (hN : N = W.heap.size) : ∀ (j : Nat) (u : Value), [v][j]? = some u → w1.cell? ((⟨N, 0, none⟩ : Addr).add j) = some u := fun j u hj => by
  subst hN
  match j, hj with
  | 0, hj =>
    simp at hj
    subst hj
    rw [Addr.add_mid, cell_of_row w1 _ _ #[v] 3 (0, 0) (by rw [ho.block _ (by omega)]; exact heap_alloc_new W _)]
    rfl

set_option maxRecDepth 20000 in
set_option maxHeartbeats 2000000 in
theorem writers_any (a : Option Addr) (b off n c : Nat) (rs : List Rc) (w : World) (ha : Hid (0 < n → a = some ⟨b, off, none⟩)) (hn : Hid (n = rs.length)) (hs : n ≤ 6898) (hc : RowAt w b off rs) (hb : Hid (0 < n → b < w.heap.size)) (hok : ∀ r ∈ rs, r.ok) :
    Calls Try.prog 16 #[.slice a n c] w fun e w' => ∃ R, e = .returned (.map (some w.heap.size)) ∧ WrOk rs w.heap.size R w' ∧ Below w.heap.size w w' := by
  obtain ⟨i0, hi, hz0, hz1, hz2⟩ := info_parts Try.info3
  have hmm := @run_makeMap Try.prog
  go_enter Try.func16, Try.ntmps16
  go_wp2
  clear hmm
  go_loopw [10] (fun i wr => ∃ (k : Nat) (R : Value → Value → Prop), k ≤ n ∧ i = .int .i64 k ∧ WrOk (rs.take k) w.heap.size R wr ∧ Below w.heap.size w wr) (fun i _ => n - (intOf i).toNat)
  case atStart => exact ⟨0, _, Nat.zero_le _, rfl, wr_made w, (Below.refl _ _).alloc (Nat.le_refl _) _⟩
  case round =>
    obtain ⟨k, R, hk, rfl, hW, hbel⟩ := hrel
    by_cases hlt : k < n
    · obtain rfl := ha.out (by omega)
      have hb' := hb.out (by omega)
      obtain ⟨r, hmem, hr, hcr⟩ := hc.get (k := k) (by rw [← hn.out]; exact hlt)
      have hHr : Hid (rs[k]? = some r) := hr
      have hcr' : wr.rangeAt b (off + k * 14) r.cells := fun j v hj => by rw [hbel.cell (p := ⟨b, _, none⟩) hb']; exact hcr j v hj
      have ho1 : r.obj.size ≤ maxLen := (hok r hmem).obj
      have ho2 : r.val.size ≤ maxLen := (hok r hmem).val
      obtain ⟨kl, hkey⟩ := key54 r.obj r.val ho1 ho2
      have hlen : (idxs (rs.take k) r.obj r.val).length ≤ k := by
        have := idxs_len (rs.take k) r.obj r.val
        simp at this
        omega
      clear hcr hr hc hmem hok ho1 ho2
      have hMlt : w.heap.size < wr.heap.size := hW.map.lt
      by_cases hkd : r.kind = 0
      · have hkb : (r.kind == 0) = true := by simpa using hkd
        have HK : Hid (r.kind = 0) := hkd
        have hW3 := fun A B C => ((hW.alloc A).alloc B).alloc C
        clear hkd
        go_wp2_with (first
          | (with_reducible refine here_load 34 _ rfl ?_; refine wpList_load_rc rfl 34 _ rfl b (off + k * 14) rfl r _ hcr' Try.underlying34 rfl Try.size34' ?_)
          | (with_reducible refine here_entry 51 _ _ rfl ?_; refine wpList_mentry _ rfl _ _ 51 rfl law54 Try.underlying51 w.heap.size rfl (hW3 _ _ _).map (kv r.obj r.val) _ _ rfl hkey zero40 ?_; intro v0 st w1 honly hv0 hback)
          | (at_builtin; refine wpList_append_own_at _ rfl _ _ 40 rfl (w.heap.size + 1) 3 i0 (.int .i64 0) 1 8 Try.underlying40 hi hz0 hz1 hz2 rfl (by decide) v0 _ _ rfl (entry_own (hW3 _ _ _) honly hv0) _ 1 1 [.int .i64 (k : Nat)] rfl rfl (news_cell honly (by simp; omega) _ (by simp)) (ints_oneCell .i64 [(k : Int)]) (by unfold maxLen; omega) (by omega) (by have := honly.size; simp at this; omega) ?_; intro v' w2 hown' hgrow _ hloc; obtain ⟨w3, hrun, hmap3, honly3⟩ := hback w2 v' (entry_keeps (hW3 _ _ _) honly hv0 hgrow))
          | (with_reducible refine here_estore 51 _ _ _ rfl ?_; refine wpList_estore _ rfl _ _ _ 51 rfl w.heap.size rfl st rfl v' rfl w3 hrun ?_)
          )
        go_roundw
        case rel =>
          have hl : (rs.take k).length = k := by have := hn.out; simp; omega
          have S := wr_step (r := r) (rs := rs.take k) (hW3 _ _ _) HK.out honly hv0 (by rw [hl]; exact hown') hgrow hloc hmap3 honly3
          rw [← take_snoc hHr.out] at S
          have b1 := ((hbel.alloc hbel.size (.cells r.arr 34)).alloc (by simp; omega) (.cells #[.string r.obj, .string r.val] 54)).alloc (by simp; omega) (.cells #[.int .i64 (k : Nat)] 3)
          have b2 := Only.below b1 honly (Nat.le_refl _)
          have b3 := b2.grown hgrow b2.size (fun j hj => by have := ((entry_own (hW3 _ _ _) honly hv0).lt j hj).1; omega)
          exact ⟨k + 1, _, by omega, by go_num, S, Only.below b3 honly3 (Nat.le_refl _)⟩
        case measure => simp [intOf]; omega
      · have hkb : (r.kind == 0) = false := by simpa using hkd
        have HK : Hid (¬ r.kind = 0) := hkd
        clear hkd
        go_wp2_with (with_reducible refine here_load 34 _ rfl ?_; refine wpList_load_rc rfl 34 _ rfl b (off + k * 14) rfl r _ hcr' Try.underlying34 rfl Try.size34' ?_)
        go_roundw
        case rel =>
          have S := wr_skip (hW.alloc (.cells r.arr 34)) HK.out
          rw [← take_snoc hHr.out] at S
          exact ⟨k + 1, _, by omega, by go_num, S, hbel.alloc hbel.size _⟩
        case measure => simp [intOf]; omega
    · have ht : rs.take k = rs := List.take_of_length_le (by have := hn.out; omega)
      rw [ht] at hW
      clear hc ht
      go_wp2
      go_ret
      exact ⟨R, rfl, hW, hbel⟩
end Go.Proofs.Qxb6604280a
