import Derived.Test.Qxb6604296aWalkA
import Derived.Deep.QuietTactic
namespace Go.Proofs.Qxb6604296a
open Go.RowKit

set_option maxHeartbeats 1000000 in
theorem zz9 (a b : ByteArray) (w : World) (ha : a.size ≤ maxLen) (hb : b.size ≤ maxLen) :
    Calls Try.prog 9 #[.string a, .string b] w fun e w' => (∃ t, e = .returned (.bool t)) ∧ w' = w := by
  unfold maxLen at ha hb
  go_enter Try.func9, Try.ntmps9
  go_wp2
  all_goals (go_ret; refine ⟨?_, rfl⟩; exact ⟨_, rfl⟩)

theorem add_toList (a b : ByteArray) : (a ++ b).data.toList = a.data.toList ++ b.data.toList := by simp

theorem lit_len (l : List UInt8) : (lit l).length = (esc l).length + 2 := by simp [lit]
theorem lit_left (x y : List UInt8) (k : Nat) (hk : k + 1 < (lit x).length) : (bc (lit (x ++ y)))[k]? = (bc (lit x))[k]? := by
  rw [lit_len] at hk
  simp only [bc, List.getElem?_map]
  congr 1
  have e : lit (x ++ y) = ([34] ++ esc x) ++ (esc y ++ [34]) := by simp [lit, esc_append]
  rw [e]
  unfold lit
  rw [List.getElem?_append_left (by simp; omega), List.getElem?_append_left (l₁ := [34] ++ esc x) (by simp; omega)]
theorem lit_right (x y : List UInt8) (k A : Nat) (hk : 0 < k) (hx : (lit x).length - 1 = A) : (bc (lit (x ++ y)))[A + (k - 1)]? = (bc (lit y))[k]? := by
  rw [lit_len] at hx
  simp only [bc, List.getElem?_map]
  congr 1
  have e : lit (x ++ y) = ([34] ++ esc x) ++ (esc y ++ [34]) := by simp [lit, esc_append]
  have e2 : lit y = [34] ++ (esc y ++ [34]) := by simp [lit]
  have hA : ([34] ++ esc x).length = A := by simp; omega
  rw [e, e2, List.getElem?_append_right (by omega), List.getElem?_append_right (l₁ := [34]) (by simp; omega), hA]
  congr 1
  simp

/-- What the two loops read. -/
structure Read (w : World) (x y : List UInt8) (g1 g2 g3 c1 c2 c3 L1 L2 L3 : Nat) (wr : World) : Prop where
  one : wr.ownsRow w.heap.size 5 1 (.slice (some ⟨g1, 0, none⟩) L1 c1) L1 (bc (lit (x ++ y)))
  two : wr.ownsRow w.heap.size 5 1 (.slice (some ⟨g2, 0, none⟩) L2 c2) L2 (bc (lit x))
  three : wr.ownsRow w.heap.size 5 1 (.slice (some ⟨g3, 0, none⟩) L3 c3) L3 (bc (lit y))
  bel : Below w.heap.size w wr
theorem Read.drew {w : World} {x y : List UInt8} {g1 g2 g3 c1 c2 c3 L1 L2 L3 : Nat} {wr : World} (R : Read w x y g1 g2 g3 c1 c2 c3 L1 L2 L3 wr) : Read w x y g1 g2 g3 c1 c2 c3 L1 L2 L3 wr.drew := ⟨R.one.drew, R.two.drew, R.three.drew, R.bel.drew⟩
theorem Read.left {w : World} {x y : List UInt8} {g1 g2 g3 c1 c2 c3 L1 L2 L3 : Nat} {wr : World} (R : Read w x y g1 g2 g3 c1 c2 c3 L1 L2 L3 wr) (h2 : L2 = (lit x).length) (h12 : L1 + 2 = L2 + L3) (h3 : 2 ≤ L3) {k : Nat} (hk : k + 1 < L2) :
    ∃ v : Nat, v < 256 ∧ wr.cell? ⟨g1, k, none⟩ = some (.int .u8 v) ∧ wr.cell? ⟨g2, k, none⟩ = some (.int .u8 v) := by
  have h := lit_left x y k (by omega)
  have e1 := R.one.cellAt k (by omega)
  have e2 := R.two.cellAt k (by omega)
  have hl : k < (lit x).length := by omega
  have e3 : (bc (lit x))[k]? = some (.int .u8 ((lit x)[k]'hl).toNat) := by simp [bc, List.getElem?_eq_getElem hl]
  exact ⟨_, UInt8.toNat_lt _, by rw [e1, h, e3], by rw [e2, e3]⟩
theorem Read.right {w : World} {x y : List UInt8} {g1 g2 g3 c1 c2 c3 L1 L2 L3 : Nat} {wr : World} (R : Read w x y g1 g2 g3 c1 c2 c3 L1 L2 L3 wr) (h2 : L2 = (lit x).length) (h3 : L3 = (lit y).length) (h12 : L1 + 2 = L2 + L3) (hL : 2 ≤ L2) {k : Nat} (h0 : 0 < k) (hk : k < L3) :
    ∃ v : Nat, v < 256 ∧ wr.cell? ⟨g1, L2 - 1 + (k - 1), none⟩ = some (.int .u8 v) ∧ wr.cell? ⟨g3, k, none⟩ = some (.int .u8 v) := by
  have h := lit_right x y k h0 (A := L2 - 1) (by omega)
  have e1 := R.one.cellAt (L2 - 1 + (k - 1)) (by omega)
  have e2 := R.three.cellAt k (by omega)
  have hl : k < (lit y).length := by omega
  have e3 : (bc (lit y))[k]? = some (.int .u8 ((lit y)[k]'hl).toNat) := by simp [bc, List.getElem?_eq_getElem hl]
  exact ⟨_, UInt8.toNat_lt _, by rw [e1, h, e3], by rw [e2, e3]⟩
theorem kept_none {w w' : World} {base e size n : Nat} {v : Value} {xs : List Value} (h : w.ownsRow base e size v n xs) (hg : w.grownBy w' none) : w'.ownsRow base e size v n xs :=
  h.kept hg (by cases v.ownBlock <;> simp)
theorem read_of {w w1 w2 w3 : World} {x y z : List UInt8} {g1 g2 g3 c1 c2 c3 L1 L2 L3 : Nat} (hz : z = x ++ y) (h1 : w1.ownsRow w.heap.size 5 1 (.slice (some ⟨g1, 0, none⟩) L1 c1) L1 (bc (lit z))) (k1 : w.grownBy w1 none)
    (h2 : w2.ownsRow w.heap.size 5 1 (.slice (some ⟨g2, 0, none⟩) L2 c2) L2 (bc (lit x))) (k2 : w1.grownBy w2 none)
    (h3 : w3.ownsRow w.heap.size 5 1 (.slice (some ⟨g3, 0, none⟩) L3 c3) L3 (bc (lit y))) (k3 : w2.grownBy w3 none) : Read w x y g1 g2 g3 c1 c2 c3 L1 L2 L3 w3 := by
  rw [hz] at h1
  exact ⟨kept_none (kept_none h1 k2) k3, kept_none h2 k3, h3, (((Below.refl _ _).grown k1 (Nat.le_refl _) (by simp)).grown k2 k1.size (by simp)).grown k3 (Nat.le_trans k1.size k2.size) (by simp)⟩
theorem nil_own (w : World) (base : Nat) : w.ownsRow base 5 1 (.slice none 0 0) 0 (bc []) := World.ownsRow_nil w base 5 1

theorem below_drewN {B : Nat} {w w' : World} (h : Below B w w') (u : Nat) : Below B w (w'.drewN u) := by
  exact ⟨h.os, h.tape, h.output, h.size, h.block⟩
/-- AppendString upon nil, said of the bytes. -/
theorem append_nil (base : Nat) (s : ByteArray) (l : List UInt8) (L : Nat) (w : World) (hl : Hid (l = s.data.toList)) (hL : Hid (L = (lit l).length)) (hbase : base ≤ w.heap.size) (hs : s.size ≤ 1048576) :
    Calls Try.prog 7 #[.slice none 0 0, .string s] w fun e w' => ∃ g cap : Nat, e = .returned (.slice (some ⟨g, 0, none⟩) L cap) ∧ w'.ownsRow base 5 1 (.slice (some ⟨g, 0, none⟩) L cap) L (bc (lit l)) ∧ w.grownBy w' none := by
  have h := appendString_any base none 0 0 [] s w (nil_own _ _) hbase (by omega) hs
  rw [← hl.out, ← hL.out, Nat.zero_add] at h
  exact h.mono fun e w' ⟨g, c, h1, h2, h3, _⟩ => ⟨g, c, h1, h2, h3⟩

set_option maxHeartbeats 1000000 in
theorem splits_small (a b ab : ByteArray) (x y z : List UInt8) (w : World) (hs : a.size + b.size ≤ 1048576) (hab : Hid (ab = a ++ b)) (hx : Hid (x = a.data.toList)) (hy : Hid (y = b.data.toList)) (hz : Hid (z = ab.data.toList)) (L1 L2 L3 : Nat)
    (hL1 : Hid (L1 = (lit z).length)) (hL2 : Hid (L2 = (lit x).length)) (hL3 : Hid (L3 = (lit y).length)) (hsz : ab.size ≤ 1048576)
    (h12 : L1 + 2 = L2 + L3) (hb2 : 2 ≤ L2) (hb3 : 2 ≤ L3) (hb4 : L2 ≤ 7000000) (hb5 : L3 ≤ 7000000) :
    Calls Try.prog 4 #[.string a, .string b] w fun e w' => e = .returned (.bool true) ∧ Below w.heap.size w w' := by
  have hadd : ∀ W, (Op.stringOp .add a b).run Try.prog W = .ok (.string ab) W := fun W => by rw [hab.out]; exact run_string_add_sum (P := Try.prog) W a b (by omega)
  have hne : ((L1 : Int) != (L2 : Int) + (L3 : Int) - 2) = false := by simp; omega
  go_enter Try.func4, Try.ntmps4
  go_wp2_with (first
    | (go_at_call 9; refine (zz9 a b _ (by unfold maxLen; omega) (by unfold maxLen; omega)).mono ?_; rintro e w' ⟨⟨t, rfl⟩, hw⟩; obtain rfl := hw.symm; rcases t)
    | (go_at_call 7; refine (append_nil w.heap.size b y L3 w2 hy hL3 (Nat.le_trans k1.size k2.size) (by omega)).mono ?_; rintro e w3 ⟨g3, c3, rfl, o3, k3⟩)
    | (go_at_call 7; refine (append_nil w.heap.size a x L2 w1 hx hL2 k1.size (by omega)).mono ?_; rintro e w2 ⟨g2, c2, rfl, o2, k2⟩)
    | (go_at_call 7; refine (append_nil w.heap.size ab z L1 w hz hL1 (Nat.le_refl _) hsz).mono ?_; rintro e w1 ⟨g1, c1, rfl, o1, k1⟩))
  · go_ret
    exact ⟨rfl, Below.refl _ _⟩
  have R := hid (read_of (by rw [hz.out, hab.out, hx.out, hy.out, add_toList]) o1 k1 o2 k2 o3 k3)
  clear o1 k1 o2 k2 o3 k3 hadd hab hx hy hz hL1
  go_loopw [8, 9] (fun at_ i wr => ∃ (k u : Nat), k + 1 ≤ L2 ∧ at_ = .int .i64 k ∧ i = .int .i64 k ∧ wr = w3.drewN u) (fun _ i _ => L2 - (intOf i).toNat)
  case atStart => exact ⟨0, 0, by omega, rfl, rfl, rfl⟩
  case round =>
    obtain ⟨k, u, hk, rfl, rfl, rfl⟩ := hrel
    by_cases hlt : k + 1 < L2
    · obtain ⟨v, hv, e1, e2⟩ := R.out.left hL2.out h12 hb3 hlt
      have i1 : k < L1 := by omega
      have i2 : k < L2 := by omega
      go_wp2
      go_quiet (fail)
      go_wp2
      go_roundw
      case rel => first | exact ⟨k + 1, _, by omega, by go_num, by go_num, rfl⟩ | ((repeat (apply Exists.intro)); refine ⟨?_, rfl⟩; exact ⟨k + 1, _, by omega, by go_num, by go_num, rfl⟩)
      case measure => simp [intOf]; omega
    · obtain rfl : L2 = k + 1 := by omega
      go_wp2
      go_loopw [8, 10] (fun at_ i wr => ∃ (p q u : Nat), 1 ≤ p ∧ p ≤ L3 ∧ q + 1 = k + p ∧ at_ = .int .i64 q ∧ i = .int .i64 p ∧ wr = w3.drewN u) (fun _ i _ => L3 - (intOf i).toNat)
      case atStart => exact ⟨1, k, _, by omega, by omega, by omega, rfl, rfl, rfl⟩
      case round =>
        obtain ⟨p, q, uu, hp, hp2, hq, rfl, rfl, rfl⟩ := hrel
        by_cases hpl : p < L3
        · obtain ⟨v, hv, e1, e2⟩ := R.out.right hL2.out hL3.out h12 hb2 (k := p) (by omega) hpl
          rw [show k + 1 - 1 + (p - 1) = q by omega] at e1
          have i1 : q < L1 := by omega
          go_wp2
          go_quiet (fail)
          go_wp2
          go_roundw
          case rel => first | exact ⟨p + 1, q + 1, _, by omega, by omega, by omega, by go_num, by go_num, rfl⟩ | ((repeat (apply Exists.intro)); refine ⟨?_, rfl⟩; exact ⟨p + 1, q + 1, _, by omega, by omega, by omega, by go_num, by go_num, rfl⟩)
          case measure => simp [intOf]; omega
        · go_wp2
          go_ret
          exact ⟨rfl, by simpa using below_drewN R.out.bel _⟩

theorem splits_big (a b : ByteArray) (w : World) (ha : a.size ≤ maxLen) (hb : b.size ≤ maxLen) (hs : ¬ a.size + b.size ≤ 1048576) :
    Calls Try.prog 4 #[.string a, .string b] w fun e w' => e = .returned (.bool true) ∧ Below w.heap.size w w' := by
  have ha' := ha
  have hb' := hb
  unfold maxLen at ha' hb'
  by_cases h1 : a.size ≤ 1048576
  · by_cases h2 : b.size ≤ 1048576
    · go_enter Try.func4, Try.ntmps4
      go_wp2_with (go_at_call 9; refine (zz9 a b _ ha hb).mono ?_; rintro e w' ⟨⟨t, rfl⟩, hw⟩; obtain rfl := hw.symm; rcases t)
      all_goals (go_ret; exact ⟨rfl, Below.refl _ _⟩)
    · go_enter Try.func4, Try.ntmps4
      go_wp2_with (go_at_call 9; refine (zz9 a b _ ha hb).mono ?_; rintro e w' ⟨⟨t, rfl⟩, hw⟩; obtain rfl := hw.symm; rcases t)
      all_goals (go_ret; exact ⟨rfl, Below.refl _ _⟩)
  · go_enter Try.func4, Try.ntmps4
    go_wp2_with (go_at_call 9; refine (zz9 a b _ ha hb).mono ?_; rintro e w' ⟨⟨t, rfl⟩, hw⟩; obtain rfl := hw.symm; rcases t)
    all_goals (go_ret; exact ⟨rfl, Below.refl _ _⟩)
theorem splits_any (a b : ByteArray) (w : World) (ha : a.size ≤ maxLen) (hb : b.size ≤ maxLen) :
    Calls Try.prog 4 #[.string a, .string b] w fun e w' => e = .returned (.bool true) ∧ Below w.heap.size w w' := by
  by_cases hs : a.size + b.size ≤ 1048576
  · have hla := lit_len a.data.toList
    have hlb := lit_len b.data.toList
    have hlab := lit_len (a ++ b).data.toList
    have hea : (esc (a ++ b).data.toList).length = (esc a.data.toList).length + (esc b.data.toList).length := by rw [add_toList, esc_append, List.length_append]
    have bla := (esc_len a.data.toList).1
    have blb := (esc_len b.data.toList).1
    rw [show a.data.toList.length = a.size by simp] at bla
    rw [show b.data.toList.length = b.size by simp] at blb
    exact splits_small a b (a ++ b) _ _ _ w hs rfl rfl rfl rfl _ _ _ rfl rfl rfl (by simp; omega) (by omega) (by omega) (by omega) (by omega) (by omega)
  · exact splits_big a b w ha hb hs
end Go.Proofs.Qxb6604296a
