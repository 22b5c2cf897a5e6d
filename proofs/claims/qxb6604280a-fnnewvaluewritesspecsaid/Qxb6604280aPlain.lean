namespace Go.Proofs.Qxb6604280a
/-- Induction from the end. -/
theorem snoc_ind {α : Type} {p : List α → Prop} (h0 : p []) (h1 : ∀ xs x, p xs → p (xs ++ [x])) (xs : List α) : p xs := by
  suffices h : ∀ n, ∀ ys : List α, ys.length = n → p ys from h _ xs rfl
  intro n
  induction n with
  | zero => intro ys hy; rw [List.length_eq_zero_iff.1 hy]; exact h0
  | succ n ih =>
    intro ys hy
    have hne : ys ≠ [] := by intro e; subst e; simp at hy
    rw [← List.dropLast_concat_getLast hne]
    exact h1 _ _ (ih _ (by simp [hy]))
section
variable {α : Type} [DecidableEq α]

/-- The different elements, in the order of their first places. -/
def add (D : List α) (x : α) : List α := if x ∈ D then D else D ++ [x]
def dist (xs : List α) : List α := xs.foldl add []
theorem dist_snoc (xs : List α) (x : α) : dist (xs ++ [x]) = add (dist xs) x := by simp [dist]
theorem dist_nil : dist ([] : List α) = [] := rfl
theorem dist_in {xs : List α} {x : α} (h : x ∈ dist xs) : dist (xs ++ [x]) = dist xs := by rw [dist_snoc, add, if_pos h]
theorem dist_out {xs : List α} {x : α} (h : ¬ x ∈ dist xs) : dist (xs ++ [x]) = dist xs ++ [x] := by rw [dist_snoc, add, if_neg h]
theorem mem_dist {xs : List α} {x : α} : x ∈ dist xs ↔ x ∈ xs := by
  refine snoc_ind (p := fun xs => x ∈ dist xs ↔ x ∈ xs) (by simp [dist]) (fun ys y ih => ?_) xs
  rw [dist_snoc, add]
  split
  · rename_i h
    simp only [List.mem_append, List.mem_singleton]
    constructor
    · intro h'; exact .inl (ih.1 h')
    · rintro (h' | rfl)
      · exact ih.2 h'
      · exact h
  · simp [ih]
theorem nodup_dist (xs : List α) : (dist xs).Nodup := by
  refine snoc_ind (p := fun xs => (dist xs).Nodup) (by simp [dist]) (fun ys y ih => ?_) xs
  rw [dist_snoc, add]
  split
  · exact ih
  · rename_i h
    refine List.nodup_append.2 ⟨ih, by simp, ?_⟩
    intro a ha b hb e
    simp at hb
    subst hb; subst e
    exact h ha
theorem dist_prefix (xs ys : List α) : ∃ zs, dist (xs ++ ys) = dist xs ++ zs := by
  refine snoc_ind (p := fun ys => ∃ zs, dist (xs ++ ys) = dist xs ++ zs) ⟨[], by simp⟩ (fun zs z ih => ?_) ys
  obtain ⟨us, h⟩ := ih
  rw [← List.append_assoc, dist_snoc, add]
  split
  · exact ⟨us, h⟩
  · exact ⟨us ++ [z], by rw [h, List.append_assoc]⟩
theorem idx_stable {xs : List α} (ys : List α) {x : α} (h : x ∈ xs) : (dist (xs ++ ys)).idxOf x = (dist xs).idxOf x := by
  obtain ⟨zs, e⟩ := dist_prefix xs ys
  rw [e, List.idxOf_append, if_pos (mem_dist.2 h)]
theorem dist_len (xs : List α) : (dist xs).length ≤ xs.length := by
  refine snoc_ind (p := fun xs => (dist xs).length ≤ xs.length) (by simp [dist]) (fun ys y ih => ?_) xs
  rw [dist_snoc, add]
  split <;> simp <;> omega
/-- The first places rise. -/
theorem first_rises (xs : List α) : ∀ i j, (hij : i < j) → (hj : j < (dist xs).length) → xs.idxOf ((dist xs)[i]'(by omega)) < xs.idxOf ((dist xs)[j]'hj) := by
  refine snoc_ind (p := fun xs => ∀ i j, (hij : i < j) → (hj : j < (dist xs).length) → xs.idxOf ((dist xs)[i]'(by omega)) < xs.idxOf ((dist xs)[j]'hj)) (by intro i j _ hj; simp [dist] at hj) (fun ys y ih => ?_) xs
  intro i j hij hj
  have key : ∀ d, d ∈ dist ys → (ys ++ [y]).idxOf d = ys.idxOf d := fun d hd => by rw [List.idxOf_append, if_pos (mem_dist.1 hd)]
  by_cases h : y ∈ dist ys
  · have e := dist_in h
    simp only [e] at hj ⊢
    rw [key _ (List.getElem_mem _), key _ (List.getElem_mem _)]
    exact ih i j hij hj
  · have e := dist_out h
    simp only [e] at hj ⊢
    simp at hj
    have hi : i < (dist ys).length := by omega
    rw [List.getElem_append_left hi, key _ (List.getElem_mem _)]
    by_cases hjl : j < (dist ys).length
    · rw [List.getElem_append_left hjl, key _ (List.getElem_mem _)]
      exact ih i j hij hjl
    · have e3 : j = (dist ys).length := by omega
      subst e3
      rw [List.getElem_append_right (Nat.le_refl _)]
      simp only [Nat.sub_self, List.getElem_cons_zero]
      rw [List.idxOf_append, if_neg (fun q => h (mem_dist.2 q))]
      have := List.idxOf_lt_length_iff.2 (mem_dist.1 (List.getElem_mem hi))
      omega
/-- How often each. -/
def cnts (xs : List α) : List Nat := (dist xs).map (fun d => xs.count d)
theorem sum_plus (D : List α) (f : α → Nat) (x : α) : (D.map (fun d => f d + if x = d then 1 else 0)).sum = (D.map f).sum + D.count x := by
  induction D with
  | nil => simp
  | cons d D ih =>
    simp only [List.map_cons, List.sum_cons, ih, List.count_cons]
    by_cases h : x = d
    · subst h; simp; omega
    · have h' : ¬ d = x := fun e => h e.symm
      simp [h, h']; omega
theorem count_snoc (xs : List α) (x d : α) : (xs ++ [x]).count d = xs.count d + if x = d then 1 else 0 := by
  rw [List.count_append, List.count_cons, List.count_nil]
  simp
theorem count_one {D : List α} (hn : D.Nodup) {x : α} (h : x ∈ D) : D.count x = 1 := by
  induction D with
  | nil => simp at h
  | cons d D ih =>
    simp only [List.nodup_cons] at hn
    rw [List.count_cons]
    by_cases e : d = x
    · subst e; simp [List.count_eq_zero_of_not_mem hn.1]
    · rcases List.mem_cons.1 h with rfl | h'
      · exact absurd rfl e
      · simp [e, ih hn.2 h']
theorem cnts_sum (xs : List α) : (cnts xs).sum = xs.length := by
  refine snoc_ind (p := fun xs => (cnts xs).sum = xs.length) (by simp [cnts, dist]) (fun ys y ih => ?_) xs
  unfold cnts at ih ⊢
  have e0 : (fun d => (ys ++ [y]).count d) = (fun d => ys.count d + if y = d then 1 else 0) := by funext d; exact count_snoc ys y d
  rw [e0]
  by_cases h : y ∈ dist ys
  · rw [dist_in h, sum_plus, ih, count_one (nodup_dist ys) h]
    simp
  · rw [dist_out h, List.map_append, List.sum_append, sum_plus, ih, List.count_eq_zero_of_not_mem h]
    simp [List.count_eq_zero_of_not_mem (fun q => h (mem_dist.2 q))]
theorem cnts_len (xs : List α) : (cnts xs).length = (dist xs).length := by simp [cnts]
theorem cnts_get (xs : List α) {i : Nat} (h : i < (dist xs).length) : (cnts xs)[i]'(by rw [cnts_len]; exact h) = xs.count ((dist xs)[i]) := by simp [cnts]
theorem cnts_pos (xs : List α) {i : Nat} (h : i < (cnts xs).length) : 0 < (cnts xs)[i] := by
  rw [cnts_get xs (by rw [← cnts_len]; exact h)]
  exact List.count_pos_iff.2 (mem_dist.1 (List.getElem_mem _))
theorem cnts_out {ys : List α} {x : α} (h : ¬ x ∈ dist ys) : cnts (ys ++ [x]) = cnts ys ++ [1] := by
  unfold cnts
  rw [dist_out h, List.map_append]
  congr 1
  · refine List.map_congr_left fun d hd => ?_
    rw [count_snoc, if_neg (fun e => h (by rw [e]; exact hd))]
    rfl
  · simp [List.count_eq_zero_of_not_mem (fun q => h (mem_dist.2 q))]
theorem idx_get {D : List α} (hn : D.Nodup) {i : Nat} (hi : i < D.length) : D.idxOf D[i] = i := by
  have h1 : D.idxOf D[i] < D.length := List.idxOf_lt_length_iff.2 (List.getElem_mem hi)
  have h2 := List.getElem_idxOf h1
  exact (List.getElem?_inj h1 hn).1 (by rw [List.getElem?_eq_getElem h1, List.getElem?_eq_getElem hi, h2])
theorem cnts_in {ys : List α} {x : α} (h : x ∈ dist ys) : cnts (ys ++ [x]) = (cnts ys).set ((dist ys).idxOf x) (ys.count x + 1) := by
  have hq : (dist ys).idxOf x < (dist ys).length := List.idxOf_lt_length_iff.2 h
  apply List.ext_getElem
  · rw [List.length_set, cnts_len, cnts_len, dist_in h]
  · intro i h1 h2
    rw [List.getElem_set]
    have hi : i < (dist ys).length := by rw [cnts_len, dist_in h] at h1; exact h1
    have e1 : (cnts (ys ++ [x]))[i] = (ys ++ [x]).count ((dist ys)[i]) := by
      have := cnts_get (ys ++ [x]) (i := i) (by rw [dist_in h]; exact hi)
      rw [this]
      congr 1
      simp only [dist_in h]
    rw [e1, count_snoc]
    by_cases e : (dist ys).idxOf x = i
    · rw [if_pos e]
      have e2 : (dist ys)[i] = x := by
        have := List.getElem_idxOf hq
        simpa [e] using this
      rw [e2, if_pos rfl]
    · have e2 : ¬ x = (dist ys)[i] := fun q => e (by rw [q]; exact idx_get (nodup_dist ys) hi)
      rw [if_neg e, if_neg e2, cnts_get ys hi]
      rfl
theorem cnts_idx {ys : List α} {x : α} (h : x ∈ dist ys) : (cnts ys)[(dist ys).idxOf x]? = some (ys.count x) := by
  have hq : (dist ys).idxOf x < (dist ys).length := List.idxOf_lt_length_iff.2 h
  rw [List.getElem?_eq_getElem (by rw [cnts_len]; exact hq), cnts_get ys hq, List.getElem_idxOf hq]
theorem idx_new {ys : List α} {x : α} (h : ¬ x ∈ dist ys) : (dist (ys ++ [x])).idxOf x = (dist ys).length := by
  rw [dist_out h, List.idxOf_append, if_neg h]
  simp
/-- The same under names of our own. -/
def pos (D : List α) (x : α) : Nat := D.idxOf x
def cnt (xs : List α) (x : α) : Nat := xs.count x
theorem pos_lt {D : List α} {x : α} (h : x ∈ D) : pos D x < D.length := List.idxOf_lt_length_iff.2 h
theorem pos_get {D : List α} {x : α} (h : x ∈ D) : D[pos D x]? = some x := by
  have := pos_lt h
  rw [List.getElem?_eq_getElem this]
  exact congrArg some (List.getElem_idxOf this)
theorem pos_stable {xs : List α} (ys : List α) {x : α} (h : x ∈ xs) : pos (dist (xs ++ ys)) x = pos (dist xs) x := idx_stable ys h
theorem pos_new {ys : List α} {x : α} (h : ¬ x ∈ dist ys) : pos (dist (ys ++ [x])) x = (dist ys).length := idx_new h
theorem pos_rises (xs : List α) {i j : Nat} {d d' : α} (hij : i < j) (hi : (dist xs)[i]? = some d) (hj : (dist xs)[j]? = some d') : pos xs d < pos xs d' := by
  obtain ⟨h1, rfl⟩ := List.getElem?_eq_some_iff.1 hi
  obtain ⟨h2, rfl⟩ := List.getElem?_eq_some_iff.1 hj
  exact first_rises xs i j hij h2
theorem cnts_hit {ys : List α} {x : α} (h : x ∈ dist ys) : cnts (ys ++ [x]) = (cnts ys).set (pos (dist ys) x) (cnt ys x + 1) := cnts_in h
theorem cnts_pos_at {ys : List α} {x : α} (h : x ∈ dist ys) : (cnts ys)[pos (dist ys) x]? = some (cnt ys x) := cnts_idx h
theorem cnts_at {ys : List α} {i : Nat} {d : α} (h : (dist ys)[i]? = some d) : (cnts ys)[i]? = some (cnt ys d) := by
  obtain ⟨h1, rfl⟩ := List.getElem?_eq_some_iff.1 h
  rw [List.getElem?_eq_getElem (by rw [cnts_len]; exact h1), cnts_get ys h1]
  rfl
theorem pos_at {ys : List α} {i : Nat} {d : α} (h : (dist ys)[i]? = some d) : pos (dist ys) d = i := by
  obtain ⟨h1, rfl⟩ := List.getElem?_eq_some_iff.1 h
  exact idx_get (nodup_dist ys) h1
theorem cnt_le (xs : List α) (x : α) : cnt xs x ≤ xs.length := List.count_le_length
end
/-- Where each part begins. -/
def st (cs : List Nat) (i : Nat) : Nat := (cs.take i).sum
theorem st_zero (cs : List Nat) : st cs 0 = 0 := by simp [st]
theorem st_succ (cs : List Nat) {i : Nat} (h : i < cs.length) : st cs (i + 1) = st cs i + cs[i] := by
  unfold st
  rw [List.take_succ_eq_append_getElem h, List.sum_append]
  simp
theorem st_all (cs : List Nat) : st cs cs.length = cs.sum := by simp [st]
theorem st_mono (cs : List Nat) {i j : Nat} (h : i ≤ j) : st cs i ≤ st cs j := by
  unfold st
  induction cs generalizing i j with
  | nil => simp
  | cons c cs ih =>
    cases i with
    | zero => simp
    | succ i =>
      cases j with
      | zero => omega
      | succ j => simp; exact ih (by omega)
theorem st_before (cs : List Nat) {i j : Nat} (h : i < j) (hj : j ≤ cs.length) : st cs i + cs[i]'(by omega) ≤ st cs j := by
  rw [← st_succ cs (by omega)]
  exact st_mono cs (by omega)
theorem st_end (cs : List Nat) {i : Nat} (h : i < cs.length) : st cs i + cs[i] ≤ cs.sum := by
  rw [← st_all]
  exact st_before cs h (Nat.le_refl _)
end Go.Proofs.Qxb6604280a
