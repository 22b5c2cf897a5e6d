import Derived.Test.Qxb6604280aNvD
namespace Go.Proofs.Qxb6604280a
theorem bit_of {W t : Nat} (hW : W < 2 ^ 64) : bits .and .u64 ((W : Int) / 2 ^ t) 1 = if W.testBit t = true then 1 else 0 := by
  have e64 : (2 : Nat) ^ 64 = 18446744073709551616 := by decide
  have e : ((W : Int) / 2 ^ t) = ((W / 2 ^ t : Nat) : Int) := by simp
  have hle : W / 2 ^ t ≤ W := Nat.div_le_self _ _
  have h1 := u64_and_nat (W / 2 ^ t) 1 (by omega) (by omega)
  rw [e]
  have h2 : bits .and .u64 ((W / 2 ^ t : Nat) : Int) 1 = (((W / 2 ^ t) &&& 1 : Nat) : Int) := h1
  rw [h2, Nat.and_one_is_mod, Nat.testBit_eq_decide_div_mod_eq]
  by_cases h : W / 2 ^ t % 2 = 1
  · simp [h]
  · have : W / 2 ^ t % 2 = 0 := by omega
    simp [this]
def kz (rs : List Rc) (q : Nat) : Bool := match rs[q]? with | some r => decide (r.kind = 0) | none => false
theorem word_succ (rs : List Rc) (a j : Nat) : word rs (a + 1) j = if a / 64 = j ∧ kz rs a = true then word rs a j ||| 2 ^ (a % 64) else word rs a j := rfl
theorem word_bit (rs : List Rc) (q : Nat) : ∀ a, (word rs a (q / 64)).testBit (q % 64) = (decide (q < a) && kz rs q)
  | 0 => by simp [word]
  | a + 1 => by
    have ih := word_bit rs q a
    by_cases c : a / 64 = q / 64 ∧ kz rs a = true
    · rw [word_succ, if_pos c, Nat.testBit_or, ih, Nat.testBit_two_pow]
      by_cases e : q = a
      · subst e
        simp [c.2]
      · have h1 : ¬ a % 64 = q % 64 := by omega
        by_cases h2 : q < a
        · have h3 : q < a + 1 := by omega
          simp [h1, h2, h3]
        · have h3 : ¬ q < a + 1 := by omega
          simp [h1, h2, h3]
    · rw [word_succ, if_neg c, ih]
      by_cases e : q = a
      · subst e
        have : kz rs q = false := by
          cases hk : kz rs q with
          | false => rfl
          | true => exact absurd ⟨rfl, hk⟩ c
        simp [this]
      · by_cases h2 : q < a
        · have h3 : q < a + 1 := by omega
          simp [h2, h3]
        · have h3 : ¬ q < a + 1 := by omega
          simp [h2, h3]
theorem bit_write {rs : List Rc} {n q : Nat} {r : Rc} (hr : rs[q]? = some r) (hq : q < n) (hk : r.kind = 0) : bits .and .u64 ((word rs n (q / 64) : Nat) / 2 ^ (q % 64)) 1 = 1 := by
  rw [bit_of (word_lt rs n _), word_bit, if_pos]
  simp [hq, kz, hr, hk]
theorem bit_read {rs : List Rc} {n q : Nat} {r : Rc} (hr : rs[q]? = some r) (hk : ¬ r.kind = 0) : bits .and .u64 ((word rs n (q / 64) : Nat) / 2 ^ (q % 64)) 1 = 0 := by
  rw [bit_of (word_lt rs n _), word_bit, if_neg]
  simp [kz, hr, hk]
theorem bit_beyond {rs : List Rc} {n q : Nat} (hq : n ≤ q) : bits .and .u64 ((word rs n (q / 64) : Nat) / 2 ^ (q % 64)) 1 = 0 := by
  rw [bit_of (word_lt rs n _), word_bit, if_neg]
  have : ¬ q < n := by omega
  simp [this]
end Go.Proofs.Qxb6604280a
