import Derived.Test.Qxb6604296aApp
namespace Go.Proofs.Qxb6604296a
open Go.RowKit

structure Inv (w : World) (row : Option Nat) (base n0 : Nat) (xs l : List UInt8) (k st g m cap : Nat) (wr : World) : Prop where
  len : m = n0 + 1 + (esc (l.take st)).length
  own : wr.ownsRow base 5 1 (.slice (some ⟨g, 0, none⟩) m cap) m (bc (xs ++ [34] ++ esc (l.take st)))
  grown : w.grownBy wr row
  row : row = some g ∨ w.heap.size ≤ g
  plain : ∀ c ∈ (l.take k).drop st, plain c
section
variable {w : World} {row : Option Nat} {base n0 : Nat} {xs l : List UInt8} {k st g m cap : Nat} {wr : World}
theorem Inv.baseLe (I : Inv w row base n0 xs l k st g m cap wr) (hb : base ≤ w.heap.size) : base ≤ wr.heap.size := Nat.le_trans hb I.grown.size
theorem Inv.bound (I : Inv w row base n0 xs l k st g m cap wr) : m ≤ n0 + 1 + 6 * st := by
  have h := (esc_len (l.take st)).1
  have := I.len
  have h2 : (l.take st).length ≤ st := by simp; omega
  omega
theorem Inv.alloc (I : Inv w row base n0 xs l k st g m cap wr) (ob : Obj) : Inv w row base n0 xs l k st g m cap (wr.alloc ob) :=
  ⟨I.len, I.own.alloc ob, ⟨I.grown.os, I.grown.tape, I.grown.output, by have := I.grown.size; simp; omega, fun j hj hne => by rw [Below.heap_alloc _ _ _ (by have := I.grown.size; omega)]; exact I.grown.block j hj hne⟩, I.row, I.plain⟩
theorem Inv.drew (I : Inv w row base n0 xs l k st g m cap wr) : Inv w row base n0 xs l k st g m cap wr.drew := ⟨I.len, I.own.drew, ⟨I.grown.os, I.grown.tape, I.grown.output, I.grown.size, I.grown.block⟩, I.row, I.plain⟩
theorem grown_trans {w wr w2 : World} {row : Option Nat} {g : Nat} (h : w.grownBy wr row) (hr : row = some g ∨ w.heap.size ≤ g) (h2 : wr.grownBy w2 (some g)) : w.grownBy w2 row :=
  ⟨h2.os.trans h.os, h2.tape.trans h.tape, h2.output.trans h.output, Nat.le_trans h.size h2.size, fun j hj hne => by
    rw [h2.block j (Nat.lt_of_lt_of_le hj h.size) (fun e => by
      cases e
      rcases hr with hr | hr
      · exact hne hr.symm
      · omega)]
    exact h.block j hj hne⟩
theorem row_trans {row : Option Nat} {a b g g2 : Nat} (hab : a ≤ b) (h : row = some g ∨ a ≤ g) (h2 : some g = some g2 ∨ b ≤ g2) : row = some g2 ∨ a ≤ g2 := by
  rcases h2 with h2 | h2
  · cases h2; exact h
  · exact .inr (by omega)
theorem Inv.flush (I : Inv w row base n0 xs l k st g m cap wr) {w2 : World} {g2 cap2 : Nat} (hst : st ≤ k) (hk : k ≤ l.length) (h : w2.ownsRow base 5 1 (.slice (some ⟨g2, 0, none⟩) (m + (k - st)) cap2) (m + (k - st)) (bc (xs ++ [34] ++ esc (l.take st)) ++ bc ((l.take k).drop st)))
    (hg : wr.grownBy w2 (some g)) (hr : some g = some g2 ∨ wr.heap.size ≤ g2) : Inv w row base n0 xs l k k g2 (m + (k - st)) cap2 w2 := by
  have e : l.take k = l.take st ++ (l.take k).drop st := by
    have := (List.take_append_drop st (l.take k)).symm
    rwa [List.take_take, Nat.min_eq_left hst] at this
  have e2 : esc (l.take k) = esc (l.take st) ++ (l.take k).drop st := by rw [e, esc_append, ← e, esc_plain I.plain]
  refine ⟨?_, ?_, grown_trans I.grown I.row hg, row_trans I.grown.size I.row hr, fun c hc => ?_⟩
  · rw [e2, I.len]; simp; omega
  · rw [e2, ← List.append_assoc, bc_append _ ((l.take k).drop st)]; exact h
  · rw [List.drop_eq_nil_of_le (by simp; omega)] at hc; cases hc
theorem take_snoc {β : Type} {xs : List β} {k : Nat} {x : β} (h : xs[k]? = some x) : xs.take (k + 1) = xs.take k ++ [x] := by
  obtain ⟨hk, e⟩ := List.getElem?_eq_some_iff.1 h
  rw [List.take_succ_eq_append_getElem hk, e]
theorem Inv.push (I : Inv w row base n0 xs l k k g m cap wr) {w2 : World} {g2 cap2 j : Nat} {c : UInt8} {news : List Value} (hc : l[k]? = some c) (hn : news = bc (esc1 c)) (hj : j = (esc1 c).length) (h : w2.ownsRow base 5 1 (.slice (some ⟨g2, 0, none⟩) (m + j) cap2) (m + j) (bc (xs ++ [34] ++ esc (l.take k)) ++ news))
    (hg : wr.grownBy w2 (some g)) (hr : some g = some g2 ∨ wr.heap.size ≤ g2) : Inv w row base n0 xs l (k + 1) (k + 1) g2 (m + j) cap2 w2 := by
  have e2 : esc (l.take (k + 1)) = esc (l.take k) ++ esc1 c := by rw [take_snoc hc, esc_append]; simp [esc]
  refine ⟨?_, ?_, grown_trans I.grown I.row hg, row_trans I.grown.size I.row hr, fun c hc => ?_⟩
  · rw [e2, I.len, hj]; simp; omega
  · rw [e2, ← List.append_assoc, bc_append _ (esc1 c), ← hn]; exact h
  · rw [List.drop_eq_nil_of_le (by simp; omega)] at hc; cases hc
theorem Inv.skip (I : Inv w row base n0 xs l k st g m cap wr) {c : UInt8} (hst : st ≤ k) (hc : l[k]? = some c) (hp : Qxb6604296a.plain c) : Inv w row base n0 xs l (k + 1) st g m cap wr := by
  refine ⟨I.len, I.own, I.grown, I.row, fun d hd => ?_⟩
  have hl := (List.getElem?_eq_some_iff.1 hc).1
  rw [take_snoc hc, List.drop_append_of_le_length (by simp; omega)] at hd
  rcases List.mem_append.1 hd with hd | hd
  · exact I.plain d hd
  · simp at hd; subst hd; exact hp
end
theorem addr_add (N j : Nat) : (⟨N, 0, none⟩ : Addr).add j = ⟨N, j, none⟩ := by unfold Addr.add; split <;> simp_all
theorem src_lit (W : World) (N n : Nat) (vs : List Value) (hn : n = vs.length) (hN : N = W.heap.size) (h1 : ∀ u ∈ vs, u.oneCell' = true) : Src Try.prog 1 22 (.slice (some ⟨N, 0, none⟩) n n) n vs (W.alloc (.cells vs.toArray 5)) := by
  subst hN
  refine Src.ofSlice _ Try.underlying22 _ n n vs (by omega) (fun j u hj => ?_) h1
  rw [addr_add, cell_of_row _ _ _ vs.toArray 5 (0, 0) (heap_alloc_new W _)]
  simpa using hj
theorem src_str (W : World) (s : ByteArray) (t k : Nat) (ht : t ≤ k) (hk : k ≤ s.size) : Src Try.prog 1 9 (.string (s.extract t k)) (k - t) (bc ((s.data.toList.take k).drop t)) W := by
  have h := Src.ofString (P := Try.prog) W Try.underlying9 (s.extract t k)
  have e : (s.extract t k).size = k - t := by rw [ByteArray.size_extract]; omega
  rw [e] at h
  have e2 : byteCells (s.extract t k) = bc ((s.data.toList.take k).drop t) := by
    unfold byteCells bc
    congr 1
    rw [ByteArray.data_extract]
    simp [List.drop_take]
  rw [← e2]
  exact h
theorem byte_at {s : ByteArray} {k : Nat} (h : k < s.size) : s.data.toList[k]? = some s[k] := by
  rw [List.getElem?_eq_getElem (by simpa using h)]
  rfl
end Go.Proofs.Qxb6604296a
