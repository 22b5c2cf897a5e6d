import Derived.Test.Qxb6604280aPlainC
import Derived.WalkSpells
import Derived.WalkLawsBesides
import Derived.Outline
namespace Go.Proofs.Qxb6604280a
open Go.RowKit
theorem ret_bool {a b : Bool} (h : a = b) : Ending.returned (.bool a) = .returned (.bool b) := by rw [h]
theorem isInitial_any (s : ByteArray) (w : World) : Calls Try.prog 18 #[.string s] w fun e w' => e = .returned (.bool (isInit s)) ∧ w' = w := by
  by_cases h : (s.toList == [48]) = true
  · go_enter Try.func18, Try.ntmps18
    go_wp2
    go_ret
    exact ⟨ret_bool (by simp [isInit, h]), rfl⟩
  · have h' : (s.toList == [48]) = false := by simpa using h
    clear h
    go_enter Try.func18, Try.ntmps18
    go_wp2
    go_ret
    exact ⟨ret_bool (by simp [isInit, h']), rfl⟩
def sevB (len : Nat) (s : ByteArray) : Bool := decide (1 < len + if isInit s = true then 1 else 0)
theorem sev_in {len : Nat} {s : ByteArray} (h : isInit s = true) : decide ((1 : Int) < (len : Int) + 1) = sevB len s := by
  rw [sevB, if_pos h]; congr 1; simp; omega
theorem sev_out {len : Nat} {s : ByteArray} (h : isInit s = false) : decide ((1 : Int) < (len : Int)) = sevB len s := by
  rw [sevB, if_neg (by simp [h])]; congr 1; simp; omega
theorem several_any (V OF b off n oc oc' a len c : Nat) (oa : Option Addr) (s : ByteArray) (w : World) (ha : a < n) (hl : len ≤ 6898)
    (h1 : w.cell? ⟨V, 1, none⟩ = some (.slice (some ⟨OF, 0, none⟩) n oc')) (h2 : w.cell? ⟨OF, a, none⟩ = some (.slice oa len c)) (h3 : w.cell? ⟨V, 0, none⟩ = some (.slice (some ⟨b, off, none⟩) n oc))
    (h4 : w.cell? ⟨b, off + a * 14 + 5, none⟩ = some (.string s)) :
    Calls Try.prog 17 #[.pointer (some ⟨V, 0, none⟩), .int .i64 a] w fun e w' => e = .returned (.bool (sevB len s)) ∧ w' = w := by
  by_cases hi : isInit s = true
  · go_enter Try.func17, Try.ntmps17
    go_wp2_with (go_at_call 18; refine (isInitial_any _ _).mono ?_; rintro e w' ⟨rfl, rfl⟩)
    go_ret
    exact ⟨ret_bool (sev_in hi), rfl⟩
  · have hi' : isInit s = false := by simpa using hi
    clear hi
    go_enter Try.func17, Try.ntmps17
    go_wp2_with (go_at_call 18; refine (isInitial_any _ _).mono ?_; rintro e w' ⟨rfl, rfl⟩)
    go_ret
    exact ⟨ret_bool (sev_out hi'), rfl⟩
/-! The map of writers: its keys are pairs of strings. -/
theorem laid80 : laidOutB Try.prog = true := by kernel_rfl
theorem row54 : 54 < Try.prog.types.size := of_decide_eq_true (by kernel_rfl)
theorem wide54 : (match Try.prog.underlying 54 with | some (.array _ _) | some (.struct _) => true | _ => false) = true := by kernel_rfl
theorem law54 : WideMaps.KeyLaw Try.prog 54 := deep_law_laid laid80 (m := 2) (by omega) row54 (by kernel_rfl) wide54
theorem keyType54 : Try.prog.keyType 54 = true := by kernel_rfl
theorem cells54 : Try.prog.cellsOf 54 = 2 := by kernel_rfl
theorem cells9' : Try.prog.cellsOf 9 = 1 := by kernel_rfl
theorem types80 : ∃ d, Try.prog.types.size + 1 = d + 2 := ⟨Try.prog.types.size - 1, by have := row54; omega⟩
theorem key54 (o s : ByteArray) (ho : o.size ≤ maxLen) (hs : s.size ≤ maxLen) : ∃ l, keyOf Try.prog 54 (.agg #[.string o, .string s]) = some l := by
  obtain ⟨d, hd⟩ := types80
  have hk : ∃ ls, Try.prog.keyLits (d + 2) 54 [.string o, .string s] = some ls := by
    simp [Program.keyLits, Try.underlying54, cells54, cells9', Try.underlying9, ho, hs]
  obtain ⟨ls, hk⟩ := hk
  refine ⟨.string (keyBytes ls), ?_⟩
  have hf : (Value.agg #[.string o, .string s]).formed Try.prog 54 = true := by
    unfold Value.formed
    rw [Try.underlying54, cells54]
    rfl
  unfold keyOf
  rw [Try.underlying54, keyType54, hf, hd]
  show (if (true && true) = true then (Try.prog.keyLits (d + 2) 54 [.string o, .string s]).map _ else none) = _
  rw [hk]
  rfl
end Go.Proofs.Qxb6604280a
