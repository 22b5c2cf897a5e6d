import Derived.Test.Qxb6604252aRows
import Derived.Test.Qxb6604252aPlain
import Derived.WalkKit
import Derived.WalkSpells
import Derived.WalkLawsBesides
import Derived.ProofKit
namespace Go.Proofs.Qxb6604252a
open Go.ChangeShapes Go.WideShapes Go.ChangeAt Go.RowKit

theorem ret_int {k : IntKind} {a b : Int} (h : a = b) : Ending.returned (.int k a) = .returned (.int k b) := by rw [h]
theorem ret_bool {a b : Bool} (h : a = b) : Ending.returned (.bool a) = .returned (.bool b) := by rw [h]
theorem tm (a b : Int) : a.tmod b = 0 ↔ a % b = 0 := by
  rw [← Int.dvd_iff_tmod_eq_zero, Int.dvd_iff_emod_eq_zero]
theorem lp1 {y : Int} (h : y.tmod 4 = 0) (h2 : y.tmod 100 = 0) : (y.tmod 400 == 0) = Cal.lpB y := by
  rw [tm] at h h2
  unfold Cal.lpB
  by_cases h3 : y.tmod 400 = 0
  · have h4 := (tm _ _).1 h3
    simp [h3, h, h4]
  · have h4 : ¬ y % 400 = 0 := fun e => h3 ((tm _ _).2 e)
    simp [h3, h2, h4]
theorem lp2 {y : Int} (h : y.tmod 4 = 0) (h2 : ¬ y.tmod 100 = 0) : true = Cal.lpB y := by
  rw [tm] at h h2
  simp [Cal.lpB, h, h2]
theorem lp3 {y : Int} (h : ¬ y.tmod 4 = 0) : false = Cal.lpB y := by
  rw [tm] at h
  simp [Cal.lpB, h]

theorem leap_any (y : Int) (w : World) :
    Calls Try.prog 12 #[.int .i64 y] w fun e w' => e = .returned (.bool (Cal.lpB y)) ∧ w' = w := by
  go_enter Try.func12, Try.ntmps12
  go_wp2
  all_goals go_ret
  · exact ⟨ret_bool (lp1 ‹_› ‹_›), rfl⟩
  · exact ⟨ret_bool (lp2 ‹_› ‹_›), rfl⟩
  · exact ⟨ret_bool (lp3 ‹_›), rfl⟩
theorem dby_any (y : Int) (w : World) (h1 : 0 ≤ y) (h2 : y ≤ 2000000) :
    Calls Try.prog 13 #[.int .i64 y] w fun e w' => e = .returned (.int .i64 (Cal.dby y)) ∧ w' = w := by
  go_enter Try.func13, Try.ntmps13
  go_wp2
  go_ret
  exact ⟨rfl, rfl⟩
theorem ml_any (y m : Int) (w : World) :
    Calls Try.prog 9 #[.int .i64 y, .int .i64 m] w fun e w' => e = .returned (.int .i64 (Cal.ml y m)) ∧ w' = w := by
  by_cases c2 : m = 2
  · subst c2
    go_enter Try.func9, Try.ntmps9
    go_wp2_with (go_at_call 12; refine (leap_any _ _).mono ?_; rintro e w' ⟨rfl, rfl⟩)
    all_goals go_ret
    all_goals exact ⟨ret_int (by simp [Cal.ml, *]), rfl⟩
  · by_cases c : m = 4 ∨ m = 6 ∨ m = 9 ∨ m = 11
    · have e : Cal.ml y m = 30 := by rw [Cal.ml, if_neg c2, if_pos c]
      rw [e]
      rcases c with rfl | rfl | rfl | rfl
      all_goals
        go_enter Try.func9, Try.ntmps9
        go_wp2
        go_ret
        exact ⟨rfl, rfl⟩
    · have e : Cal.ml y m = 31 := by rw [Cal.ml, if_neg c2, if_neg c]
      rw [e]
      have c4 : (m == 4) = false := by simp; omega
      have c6 : (m == 6) = false := by simp; omega
      have c9 : (m == 9) = false := by simp; omega
      have c11 : (m == 11) = false := by simp; omega
      clear c e
      go_enter Try.func9, Try.ntmps9
      go_wp2
      go_ret
      exact ⟨rfl, rfl⟩
theorem dn_any (y m d : Int) (w : World) (h1 : -399 ≤ y) (h2 : y ≤ 1000001) (h3 : 1 ≤ m) (h4 : m ≤ 12) (h5 : 1 ≤ d) (h6 : d ≤ 32) :
    Calls Try.prog 7 #[.int .i64 y, .int .i64 m, .int .i64 d] w fun e w' => e = .returned (.int .i64 (Cal.dn y m d)) ∧ w' = w := by
  have hb1 : ∀ y, 0 ≤ y → y ≤ 2000000 → 0 ≤ Cal.dby y ∧ Cal.dby y ≤ 1000000000 := by intro y _ _; unfold Cal.dby; omega
  by_cases c : m ≤ 2
  · have hb := hb1 (y - 1 + 400) (by omega) (by omega)
    clear hb1
    go_enter Try.func7, Try.ntmps7
    go_wp2_with (first | (go_at_call 13; refine (dby_any _ _ (by omega) (by omega)).mono ?_; rintro e w' ⟨rfl, rfl⟩) | go_in)
    go_ret
    exact ⟨ret_int (by rw [Cal.dn, if_pos c]), rfl⟩
  · have hb := hb1 (y + 400) (by omega) (by omega)
    clear hb1
    go_enter Try.func7, Try.ntmps7
    go_wp2_with (first | (go_at_call 13; refine (dby_any _ _ (by omega) (by omega)).mono ?_; rintro e w' ⟨rfl, rfl⟩) | go_in)
    go_ret
    exact ⟨ret_int (by rw [Cal.dn, if_neg (by omega)]), rfl⟩
theorem v_any (y m d : Int) (w : World) :
    Calls Try.prog 6 #[.int .i64 y, .int .i64 m, .int .i64 d] w fun e w' => e = .returned (.bool (Cal.vB y m d)) ∧ w' = w := by
  by_cases h : Cal.vB y m d = true
  · obtain ⟨h1, h2, h3, h4, h5, h6⟩ := Cal.vB_iff.1 h
    go_enter Try.func6, Try.ntmps6
    go_wp2_with (go_at_call 9; refine (ml_any _ _ _).mono ?_; rintro e w' ⟨rfl, rfl⟩)
    go_ret
    exact ⟨ret_bool (by simp [h]), rfl⟩
  · have h' : Cal.vB y m d = false := by simpa using h
    rw [h']
    by_cases g : -399 ≤ y ∧ y ≤ 1000000 ∧ 1 ≤ m ∧ m ≤ 12 ∧ 1 ≤ d
    · have h6 : Cal.ml y m < d := by
        have := mt Cal.vB_iff.2 h
        omega
      obtain ⟨h1, h2, h3, h4, h5⟩ := g
      clear h h'
      go_enter Try.func6, Try.ntmps6
      go_wp2_with (go_at_call 9; refine (ml_any _ _ _).mono ?_; rintro e w' ⟨rfl, rfl⟩)
      go_ret
      exact ⟨ret_bool (by simp; omega), rfl⟩
    · clear h h'
      go_enter Try.func6, Try.ntmps6
      go_wp2_with (go_at_call 9; refine (ml_any _ _ _).mono ?_; rintro e w' ⟨rfl, rfl⟩)
      all_goals (try (exfalso; omega))
      all_goals go_ret
      all_goals exact ⟨rfl, rfl⟩
theorem dbm_any (m : Int) (w : World) (h1 : 1 ≤ m) (h2 : m ≤ 12) :
    Calls Try.prog 11 #[.int .i64 m] w fun e w' => e = .returned (.int .i64 (Cal.dbm m)) ∧ w' = w := by
  rcases Cal.m_cases h1 h2 with rfl | rfl | rfl | rfl | rfl | rfl | rfl | rfl | rfl | rfl | rfl | rfl
  all_goals
    go_enter Try.func11, Try.ntmps11
    go_wp2
    go_ret
    exact ⟨rfl, rfl⟩
theorem ofj_any (y m d : Int) (w : World) (h1 : 1 ≤ y) (h2 : y ≤ 1000400) (h3 : 1 ≤ m) (h4 : m ≤ 12) (h5 : 1 ≤ d) (h6 : d ≤ 31) :
    Calls Try.prog 8 #[.int .i64 y, .int .i64 m, .int .i64 d] w fun e w' => e = .returned (.int .i64 (Cal.ofj y m d)) ∧ w' = w := by
  have hb : 0 ≤ Cal.dbm m ∧ Cal.dbm m ≤ 334 := by
    rcases Cal.m_cases h3 h4 with rfl | rfl | rfl | rfl | rfl | rfl | rfl | rfl | rfl | rfl | rfl | rfl <;> decide
  by_cases c : 2 < m
  · by_cases hl : Cal.lpB y = true
    · have e : Cal.ofj y m d = 365 * (y - 1) + (y - 1) / 4 - (y - 1) / 100 + (y - 1) / 400 + Cal.dbm m + d + 1 := by rw [Cal.ofj, if_pos ⟨c, hl⟩]
      rw [e]; clear e
      go_enter Try.func8, Try.ntmps8
      go_wp2_with (first | (go_at_call 11; refine (dbm_any _ _ (by omega) (by omega)).mono ?_; rintro e w' ⟨rfl, rfl⟩) | (go_at_call 12; refine (leap_any _ _).mono ?_; rintro e w' ⟨rfl, rfl⟩))
      go_ret
      exact ⟨rfl, rfl⟩
    · have e : Cal.ofj y m d = 365 * (y - 1) + (y - 1) / 4 - (y - 1) / 100 + (y - 1) / 400 + Cal.dbm m + d := by rw [Cal.ofj, if_neg (fun h => hl h.2)]; omega
      have hl' : Cal.lpB y = false := by simpa using hl
      rw [e]; clear e hl
      go_enter Try.func8, Try.ntmps8
      go_wp2_with (first | (go_at_call 11; refine (dbm_any _ _ (by omega) (by omega)).mono ?_; rintro e w' ⟨rfl, rfl⟩) | (go_at_call 12; refine (leap_any _ _).mono ?_; rintro e w' ⟨rfl, rfl⟩))
      go_ret
      exact ⟨rfl, rfl⟩
  · have e : Cal.ofj y m d = 365 * (y - 1) + (y - 1) / 4 - (y - 1) / 100 + (y - 1) / 400 + Cal.dbm m + d := by rw [Cal.ofj, if_neg (fun h => c h.1)]; omega
    rw [e]; clear e
    go_enter Try.func8, Try.ntmps8
    go_wp2_with (first | (go_at_call 11; refine (dbm_any _ _ (by omega) (by omega)).mono ?_; rintro e w' ⟨rfl, rfl⟩))
    go_ret
    exact ⟨rfl, rfl⟩
theorem ml_le (y m : Int) : Cal.ml y m ≤ 31 := by unfold Cal.ml; split <;> split <;> omega
end Go.Proofs.Qxb6604252a
