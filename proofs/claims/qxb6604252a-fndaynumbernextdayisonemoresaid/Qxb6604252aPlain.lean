namespace Go.Proofs.Qxb6604252a
namespace Cal
def lpB (y : Int) : Bool := decide (y % 4 = 0 ∧ (y % 100 ≠ 0 ∨ y % 400 = 0))
def ml (y m : Int) : Int := if m = 2 then (if lpB y = true then 29 else 28) else if m = 4 ∨ m = 6 ∨ m = 9 ∨ m = 11 then 30 else 31
def vB (y m d : Int) : Bool := decide (-399 ≤ y ∧ y ≤ 1000000 ∧ 1 ≤ m ∧ m ≤ 12 ∧ 1 ≤ d ∧ d ≤ ml y m)
def dby (y : Int) : Int := 365 * y + y / 4 - y / 100 + y / 400
def dn (y m d : Int) : Int :=
  if m ≤ 2 then dby (y - 1 + 400) + (153 * (m + 12 - 3) + 2) / 5 + d - 1 else dby (y + 400) + (153 * (m - 3) + 2) / 5 + d - 1
def dbm (m : Int) : Int := if m = 2 then 31 else if m = 3 then 59 else if m = 4 then 90 else if m = 5 then 120 else if m = 6 then 151 else if m = 7 then 181 else if m = 8 then 212 else if m = 9 then 243 else if m = 10 then 273 else if m = 11 then 304 else if m = 12 then 334 else 0
def ofj (y m d : Int) : Int := 365 * (y - 1) + (y - 1) / 4 - (y - 1) / 100 + (y - 1) / 400 + dbm m + d + (if 2 < m ∧ lpB y = true then 1 else 0)

theorem vB_iff {y m d : Int} : vB y m d = true ↔ (-399 ≤ y ∧ y ≤ 1000000 ∧ 1 ≤ m ∧ m ≤ 12 ∧ 1 ≤ d ∧ d ≤ ml y m) := by simp [vB]
theorem lp_cases (y : Int) : (lpB y = true ∧ y % 4 = 0 ∧ (y % 100 ≠ 0 ∨ y % 400 = 0)) ∨ (lpB y = false ∧ ¬ (y % 4 = 0 ∧ (y % 100 ≠ 0 ∨ y % 400 = 0))) := by
  unfold lpB
  by_cases h : y % 4 = 0 ∧ (y % 100 ≠ 0 ∨ y % 400 = 0)
  · exact .inl ⟨decide_eq_true h, h⟩
  · exact .inr ⟨decide_eq_false h, h⟩
theorem m_cases {m : Int} (h1 : 1 ≤ m) (h2 : m ≤ 12) : m = 1 ∨ m = 2 ∨ m = 3 ∨ m = 4 ∨ m = 5 ∨ m = 6 ∨ m = 7 ∨ m = 8 ∨ m = 9 ∨ m = 10 ∨ m = 11 ∨ m = 12 := by omega
/-- years: leaping -/
theorem dby_succ (y : Int) : dby (y + 1) = dby y + 365 + (if lpB (y + 1) = true then 1 else 0) := by
  unfold dby
  rcases lp_cases (y + 1) with ⟨h, h1⟩ | ⟨h, h1⟩ <;> simp only [h] <;> simp <;> omega
theorem lp_400 (y : Int) : lpB (y + 400) = lpB y := by
  unfold lpB
  have h1 : (y + 400) % 4 = y % 4 := by omega
  have h2 : (y + 400) % 100 = y % 100 := by omega
  have h3 : (y + 400) % 400 = y % 400 := by omega
  rw [h1, h2, h3]
/-- day of year offset -/
theorem dn_form (y m d : Int) (h1 : 1 ≤ m) (h2 : m ≤ 12) : dn y m d = dby (y - 1 + 400) + 305 + dbm m + d + (if 2 < m ∧ lpB y = true then 1 else 0) := by
  have hs := dby_succ (y - 1 + 400)
  have e : y - 1 + 400 + 1 = y + 400 := by omega
  rw [e, lp_400] at hs
  unfold dn
  rcases m_cases h1 h2 with rfl | rfl | rfl | rfl | rfl | rfl | rfl | rfl | rfl | rfl | rfl | rfl <;>
    simp [dbm] <;> (try rw [hs]) <;> (try split) <;> omega
theorem first_law (y m d : Int) (h : vB y m d = true) : dn y m d = ofj (y + 400) m d + 305 := by
  have h' := vB_iff.1 h
  rw [dn_form y m d h'.2.2.1 h'.2.2.2.1]
  unfold ofj dby
  have e : y + 400 - 1 = y - 1 + 400 := by omega
  rw [e, lp_400]
  omega
def nx (y m d : Int) : Int × Int × Int := if d = ml y m then (if m = 12 then (y + 1, 1, 1) else (y, m + 1, 1)) else (y, m, d + 1)
theorem next_law (y m d : Int) (h : vB y m d = true) : dn (nx y m d).1 (nx y m d).2.1 (nx y m d).2.2 = dn y m d + 1 := by
  have h' := vB_iff.1 h
  unfold nx
  by_cases hd : d = ml y m
  · by_cases hm : m = 12
    · subst hm
      have hs := dby_succ (y - 1 + 400)
      have e : y - 1 + 400 + 1 = y + 400 := by omega
      have e2 : y + 1 - 1 + 400 = y + 400 := by omega
      rw [e, lp_400] at hs
      rw [if_pos hd, if_pos rfl]
      show dn (y + 1) 1 1 = _
      rw [dn_form y 12 d (by omega) (by omega), dn_form (y + 1) 1 1 (by omega) (by omega), e2, hs]
      subst hd
      simp [dbm, ml]; split <;> omega
    · rw [if_pos hd, if_neg hm]
      show dn y (m + 1) 1 = _
      rw [dn_form y m d (by omega) (by omega), dn_form y (m + 1) 1 (by omega) (by omega)]
      subst hd
      rcases m_cases h'.2.2.1 h'.2.2.2.1 with rfl | rfl | rfl | rfl | rfl | rfl | rfl | rfl | rfl | rfl | rfl | rfl <;>
        simp [dbm, ml] at hm ⊢ <;> (try split) <;> omega
  · rw [if_neg hd]
    show dn y m (d + 1) = _
    rw [dn_form y m d (by omega) (by omega), dn_form y m (d + 1) (by omega) (by omega)]
    omega
theorem yday (y m d : Int) (h : vB y m d = true) : 1 ≤ dbm m + d + (if 2 < m ∧ lpB y = true then 1 else 0) ∧ dbm m + d + (if 2 < m ∧ lpB y = true then 1 else 0) ≤ 365 + (if lpB y = true then 1 else 0) := by
  have h' := vB_iff.1 h
  obtain ⟨_, _, hm1, hm2, hd1, hd2⟩ := h'
  rcases lp_cases y with ⟨hl, _⟩ | ⟨hl, _⟩ <;> rcases m_cases hm1 hm2 with rfl | rfl | rfl | rfl | rfl | rfl | rfl | rfl | rfl | rfl | rfl | rfl <;>
    simp [dbm, ml, hl] at hd2 ⊢ <;> omega
theorem dby_le {a b : Int} (h : a ≤ b) : dby a ≤ dby b := by unfold dby; omega
theorem lt_year {y1 m1 d1 y2 m2 d2 : Int} (h1 : vB y1 m1 d1 = true) (h2 : vB y2 m2 d2 = true) (h : y1 < y2) : dn y1 m1 d1 < dn y2 m2 d2 := by
  have a := vB_iff.1 h1
  have b := vB_iff.1 h2
  have u := yday _ _ _ h1
  have v := yday _ _ _ h2
  have hs := dby_succ (y1 - 1 + 400)
  have e : y1 - 1 + 400 + 1 = y1 + 400 := by omega
  rw [e, lp_400] at hs
  have hle : dby (y1 + 400) ≤ dby (y2 - 1 + 400) := dby_le (by omega)
  rw [dn_form y1 m1 d1 (by omega) (by omega), dn_form y2 m2 d2 (by omega) (by omega)]
  generalize (if 2 < m1 ∧ lpB y1 = true then (1 : Int) else 0) = p at *
  generalize (if 2 < m2 ∧ lpB y2 = true then (1 : Int) else 0) = q at *
  generalize (if lpB y1 = true then (1 : Int) else 0) = r at *
  omega
theorem lt_month {y m1 d1 m2 d2 : Int} (h1 : vB y m1 d1 = true) (h2 : vB y m2 d2 = true) (h : m1 < m2) : dn y m1 d1 < dn y m2 d2 := by
  have a := vB_iff.1 h1
  have b := vB_iff.1 h2
  obtain ⟨_, _, hm1, hm2, hd1, hd2⟩ := a
  obtain ⟨_, _, hn1, hn2, he1, he2⟩ := b
  rw [dn_form y m1 d1 (by omega) (by omega), dn_form y m2 d2 (by omega) (by omega)]
  -- step: dbm m1 + ml ≤ dbm m2
  have key : dbm m1 + ml y m1 + (if 2 < m1 ∧ lpB y = true then 1 else 0) ≤ dbm m2 + (if 2 < m2 ∧ lpB y = true then 1 else 0) := by
    rcases lp_cases y with ⟨hl, _⟩ | ⟨hl, _⟩ <;>
    rcases m_cases hm1 hm2 with rfl | rfl | rfl | rfl | rfl | rfl | rfl | rfl | rfl | rfl | rfl | rfl <;>
    rcases m_cases hn1 hn2 with rfl | rfl | rfl | rfl | rfl | rfl | rfl | rfl | rfl | rfl | rfl | rfl <;>
    first | omega | (simp [dbm, ml, hl])
  omega
theorem lt_day {y m d1 d2 : Int} (h : d1 < d2) : dn y m d1 < dn y m d2 := by
  unfold dn; split <;> omega
end Cal
end Go.Proofs.Qxb6604252a
