import Derived.Test.Qxb6604280aPartsC
namespace Go.Proofs.Qxb6604280a
/-- Does the read of this value find the initial one? -/
def isInit (s : ByteArray) : Bool := (s.toList == [48]) || (s.toList == [110, 105, 108])
/-- Is this a write of the value s to the object o? -/
def hitB (o s : ByteArray) (r : Rc) : Bool := decide (r.kind = 0 ∧ r.obj = o ∧ r.val = s)
/-- The places of the writes of s to o. -/
def idxs (rs : List Rc) (o s : ByteArray) : List Nat := (List.range rs.length).filter fun i => match rs[i]? with | some r => hitB o s r | none => false
theorem idxs_nil (o s : ByteArray) : idxs [] o s = [] := rfl
theorem idxs_snoc (rs : List Rc) (r : Rc) (o s : ByteArray) : idxs (rs ++ [r]) o s = idxs rs o s ++ if hitB o s r = true then [rs.length] else [] := by
  unfold idxs
  rw [List.length_append, List.length_singleton, List.range_succ, List.filter_append]
  congr 1
  · refine List.filter_congr fun i hi => ?_
    have hi' : i < rs.length := by simpa using hi
    rw [List.getElem?_append_left hi']
  · simp [List.filter_cons]
theorem idxs_lt {rs : List Rc} {o s : ByteArray} {i : Nat} (h : i ∈ idxs rs o s) : i < rs.length := by
  unfold idxs at h
  simpa using (List.mem_filter.1 h).1
theorem idxs_len (rs : List Rc) (o s : ByteArray) : (idxs rs o s).length ≤ rs.length := by
  unfold idxs
  have := List.length_filter_le (fun i => match rs[i]? with | some r => hitB o s r | none => false) (List.range rs.length)
  simpa using this
theorem idxs_take_snoc {rs : List Rc} {p : Nat} {r : Rc} (h : rs[p]? = some r) (o s : ByteArray) : idxs (rs.take (p + 1)) o s = idxs (rs.take p) o s ++ if hitB o s r = true then [p] else [] := by
  obtain ⟨hp, e⟩ := List.getElem?_eq_some_iff.1 h
  rw [List.take_succ_eq_append_getElem hp, e, idxs_snoc]
  have : (rs.take p).length = p := by simp; omega
  rw [this]
theorem hitB_self {r : Rc} (h : r.kind = 0) : hitB r.obj r.val r = true := by simp [hitB, h]
/-- In how many ways the read r can have come to its value. -/
def ways (rs : List Rc) (r : Rc) : Nat := (idxs rs r.obj r.val).length + if isInit r.val = true then 1 else 0
/-- The first read among the first a that has more ways than one, or -1. -/
def amb (rs : List Rc) : Nat → Int
  | 0 => -1
  | a + 1 => if amb rs a < 0 ∧ (match rs[a]? with | some r => decide (¬ r.kind = 0 ∧ 1 < ways rs r) | none => false) = true then a else amb rs a
theorem amb_ge (rs : List Rc) : ∀ a, -1 ≤ amb rs a
  | 0 => by simp [amb]
  | a + 1 => by have := amb_ge rs a; rw [amb]; split <;> omega
theorem amb_lt (rs : List Rc) : ∀ a : Nat, amb rs a < a
  | 0 => by simp [amb]
  | a + 1 => by have := amb_lt rs a; rw [amb]; split <;> omega
theorem amb_write {rs : List Rc} {a : Nat} {r : Rc} (h : rs[a]? = some r) (hk : r.kind = 0) : amb rs (a + 1) = amb rs a := by
  rw [amb, if_neg]
  simp [h, hk]
theorem amb_read {rs : List Rc} {a : Nat} {r : Rc} (h : rs[a]? = some r) (hk : ¬ r.kind = 0) (hn : amb rs a < 0) (hw : 1 < ways rs r) : amb rs (a + 1) = a := by
  rw [amb, if_pos]
  simp [h, hk, hn, hw]
theorem amb_keep {rs : List Rc} {a : Nat} {r : Rc} (h : rs[a]? = some r) (hn : 0 ≤ amb rs a ∨ ¬ 1 < ways rs r) : amb rs (a + 1) = amb rs a := by
  rw [amb, if_neg]
  rintro ⟨h1, h2⟩
  rw [h] at h2
  simp at h2
  rcases hn with hn | hn <;> omega
/-- What the place says. -/
theorem amb_at (rs : List Rc) : ∀ a : Nat, 0 ≤ amb rs a → ∃ (p : Nat) (r : Rc), amb rs a = p ∧ p < a ∧ rs[p]? = some r ∧ ¬ r.kind = 0 ∧ 1 < ways rs r
  | 0, h => by simp [amb] at h
  | a + 1, h => by
    by_cases c : amb rs a < 0 ∧ (match rs[a]? with | some r => decide (¬ r.kind = 0 ∧ 1 < ways rs r) | none => false) = true
    · have e : amb rs (a + 1) = a := by rw [amb, if_pos c]
      cases hr : rs[a]? with
      | none => rw [hr] at c; simp at c
      | some r =>
        rw [hr] at c
        simp at c
        exact ⟨a, r, e, by omega, hr, c.2.1, c.2.2⟩
    · have e : amb rs (a + 1) = amb rs a := by rw [amb, if_neg c]
      rw [e] at h
      obtain ⟨p, r, h1, h2, h3⟩ := amb_at rs a h
      exact ⟨p, r, e.trans h1, by omega, h3⟩
theorem amb_first (rs : List Rc) : ∀ (a p : Nat) (r : Rc), p < a → rs[p]? = some r → ¬ r.kind = 0 → 1 < ways rs r → 0 ≤ amb rs a ∧ amb rs a ≤ p
  | 0, p, _, h, _, _, _ => by omega
  | a + 1, p, r, h, hr, hk, hw => by
    by_cases e : p = a
    · subst e
      by_cases hn : amb rs p < 0
      · rw [amb_read hr hk hn hw]; omega
      · have := amb_lt rs p
        rw [amb_keep hr (.inl (by omega))]; omega
    · have ih := amb_first rs a p r (by omega) hr hk hw
      have e2 : amb rs (a + 1) = amb rs a := by rw [amb, if_neg (fun c => by omega)]
      omega
theorem idxs_mono (rs : List Rc) (k : Nat) (o s : ByteArray) : (idxs (rs.take k) o s).length ≤ (idxs rs o s).length := by
  unfold idxs
  rw [← List.countP_eq_length_filter, ← List.countP_eq_length_filter]
  have e : ∀ i ∈ List.range (rs.take k).length, (match (rs.take k)[i]? with | some r => hitB o s r | none => false) = (match rs[i]? with | some r => hitB o s r | none => false) := fun i hi => by
    have hi' : i < (rs.take k).length := by simpa using hi
    have hik : i < k := by simp at hi'; omega
    rw [List.getElem?_take_of_lt hik]
  rw [List.countP_congr (fun i hi => by rw [e i hi])]
  refine List.Sublist.countP_le ?_
  have : List.range (rs.take k).length = (List.range rs.length).take (rs.take k).length := by
    rw [List.take_range]; simp
  rw [this]
  exact List.take_sublist _ _
theorem ways_mono (rs : List Rc) (k : Nat) (r : Rc) : ways (rs.take k) r ≤ ways rs r := by
  unfold ways
  have := idxs_mono rs k r.obj r.val
  omega
end Go.Proofs.Qxb6604280a
