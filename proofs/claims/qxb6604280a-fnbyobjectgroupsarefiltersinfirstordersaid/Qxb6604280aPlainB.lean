import Derived.Test.Qxb6604280aByA
namespace Go.Proofs.Qxb6604280a
/-- The first place of the object before the j-th, or -1. -/
def pf (rs : List Rc) (j : Nat) : Int := if j = 0 then -1 else match (dist (keys rs))[j - 1]? with | some d => (pos (keys rs) d : Nat) | none => -1
/-- The first place of d among the first q, or -1. -/
def fi (rs : List Rc) (d : List UInt8) (q : Nat) : Int := if d ∈ (keys rs).take q then (pos (keys rs) d : Nat) else -1
theorem pf_zero (rs : List Rc) : pf rs 0 = -1 := rfl
theorem pf_succ {rs : List Rc} {j : Nat} {d : List UInt8} (h : (dist (keys rs))[j]? = some d) : pf rs (j + 1) = (pos (keys rs) d : Nat) := by
  simp [pf, h]
theorem pf_lt {rs : List Rc} {j : Nat} {d : List UInt8} (h : (dist (keys rs))[j]? = some d) : pf rs j < (pos (keys rs) d : Nat) := by
  cases j with
  | zero => rw [pf_zero]; omega
  | succ j =>
    have hj : j < (dist (keys rs)).length := by have := (List.getElem?_eq_some_iff.1 h).1; omega
    rw [pf_succ (List.getElem?_eq_getElem hj)]
    have := pos_rises (keys rs) (Nat.lt_succ_self j) (List.getElem?_eq_getElem hj) h
    omega
theorem pf_ge (rs : List Rc) (j : Nat) : -1 ≤ pf rs j := by
  unfold pf
  split
  · omega
  · split <;> omega
theorem pf_le (rs : List Rc) (j : Nat) : pf rs j ≤ rs.length := by
  unfold pf
  split
  · omega
  · split
    · rename_i d h
      have hm : d ∈ keys rs := mem_dist.1 (List.mem_of_getElem? h)
      have := pos_lt hm
      rw [keys_len] at this
      omega
    · omega
theorem fi_zero (rs : List Rc) (d : List UInt8) : fi rs d 0 = -1 := by simp [fi]
theorem fi_ge (rs : List Rc) (d : List UInt8) (q : Nat) : -1 ≤ fi rs d q := by unfold fi; split <;> omega
theorem fi_le (rs : List Rc) (d : List UInt8) (q : Nat) : fi rs d q ≤ rs.length := by
  unfold fi
  split
  · rename_i h
    have := pos_lt (List.mem_of_mem_take h)
    rw [keys_len] at this
    omega
  · omega
theorem fi_miss {rs : List Rc} {d : List UInt8} {q : Nat} {r : Rc} (hr : rs[q]? = some r) (h : ¬ r.key = d) : fi rs d (q + 1) = fi rs d q := by
  have hk : (keys rs)[q]? = some r.key := by simp [keys, hr]
  unfold fi
  rw [take_snoc hk]
  have : (d ∈ (keys rs).take q ++ [r.key]) ↔ d ∈ (keys rs).take q := by
    simp only [List.mem_append, List.mem_singleton]
    exact ⟨fun h' => h'.elim id (fun e => absurd e.symm h), .inl⟩
  simp only [this]
theorem pos_first_gen {α : Type} [DecidableEq α] {xs : List α} {q : Nat} {d : α} (hk : xs[q]? = some d) (hn : ¬ d ∈ xs.take q) : pos xs d = q := by
  obtain ⟨hq, e0⟩ := List.getElem?_eq_some_iff.1 hk
  have e : xs = xs.take q ++ (d :: xs.drop (q + 1)) := by
    have e1 := (List.take_append_drop q xs).symm
    rw [List.drop_eq_getElem_cons hq, e0] at e1
    exact e1
  have hl : (xs.take q).length = q := by simp; omega
  unfold pos
  rw [e, List.idxOf_append, if_neg hn]
  simp [hl]
theorem pos_first {rs : List Rc} {d : List UInt8} {q : Nat} {r : Rc} (hr : rs[q]? = some r) (h : r.key = d) (hn : ¬ d ∈ (keys rs).take q) : pos (keys rs) d = q :=
  pos_first_gen (by simp [keys, hr, h]) hn
theorem fi_hit_new {rs : List Rc} {d : List UInt8} {q : Nat} {r : Rc} (hr : rs[q]? = some r) (h : r.key = d) (hf : fi rs d q < 0) : fi rs d (q + 1) = q := by
  have hk : (keys rs)[q]? = some r.key := by simp [keys, hr]
  have hn : ¬ d ∈ (keys rs).take q := fun hm => by unfold fi at hf; rw [if_pos hm] at hf; omega
  unfold fi
  rw [take_snoc hk, if_pos (by simp [h]), pos_first hr h hn]
theorem fi_hit_old {rs : List Rc} {d : List UInt8} {q : Nat} {r : Rc} (hr : rs[q]? = some r) (hf : 0 ≤ fi rs d q) : fi rs d (q + 1) = fi rs d q := by
  have hk : (keys rs)[q]? = some r.key := by simp [keys, hr]
  have hm : d ∈ (keys rs).take q := by
    refine Classical.byContradiction fun hn => ?_
    unfold fi at hf
    rw [if_neg hn] at hf
    omega
  unfold fi
  rw [take_snoc hk, if_pos (by simp [hm]), if_pos hm]
theorem fi_end {rs : List Rc} {d : List UInt8} (h : d ∈ keys rs) : fi rs d rs.length = (pos (keys rs) d : Nat) := by
  unfold fi
  rw [if_pos (by rw [List.take_of_length_le (by rw [keys_len]; exact Nat.le_refl _)]; exact h)]
theorem grp_at {rs : List Rc} {d : List UInt8} {q : Nat} {r : Rc} (hr : rs[q]? = some r) (h : r.key = d) : (grp rs d)[(grp (rs.take q) d).length]? = some r := by
  obtain ⟨hq, e0⟩ := List.getElem?_eq_some_iff.1 hr
  have e : rs = rs.take q ++ (r :: rs.drop (q + 1)) := by
    have e1 := (List.take_append_drop q rs).symm
    rw [List.drop_eq_getElem_cons hq, e0] at e1
    exact e1
  have e2 : grp rs d = grp (rs.take q) d ++ (r :: grp (rs.drop (q + 1)) d) := by
    have : grp rs d = grp (rs.take q ++ (r :: rs.drop (q + 1))) d := by rw [← e]
    rw [this]
    simp [grp, h]
  rw [e2, List.getElem?_append_right (Nat.le_refl _)]
  simp
theorem grp_len (rs : List Rc) (d : List UInt8) : (grp rs d).length = cnt (keys rs) d := by
  simp only [grp, cnt, keys, List.count, List.countP_map, ← List.countP_eq_length_filter]
  congr 1
theorem grp_hit {rs : List Rc} {d : List UInt8} {q : Nat} {r : Rc} (hr : rs[q]? = some r) (h : r.key = d) : (grp (rs.take (q + 1)) d).length = (grp (rs.take q) d).length + 1 := by
  rw [take_snoc hr, grp_snoc, if_pos h]; simp
theorem grp_miss {rs : List Rc} {d : List UInt8} {q : Nat} {r : Rc} (hr : rs[q]? = some r) (h : ¬ r.key = d) : (grp (rs.take (q + 1)) d).length = (grp (rs.take q) d).length := by
  rw [take_snoc hr, grp_snoc, if_neg h]; simp
theorem grp_key {rs : List Rc} {d : List UInt8} {i : Nat} {r : Rc} (h : (grp rs d)[i]? = some r) : r.key = d ∧ r ∈ rs := by
  have := List.mem_of_getElem? h
  simp [grp] at this
  exact ⟨this.2, this.1⟩
end Go.Proofs.Qxb6604280a
