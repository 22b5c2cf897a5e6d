import Derived.Test.Qxb6604296aDec
import Derived.Test.Qxb6604296aClone
import Derived.Laws.BytesArg
namespace Go.Proofs.Qxb6604296a
open Go.RowKit

set_option maxHeartbeats 1000000 in
theorem zz5 (a : Option Addr) (n c : Nat) (s : ByteArray) (w : World) (hn : n ≤ maxLen) (hs : s.size ≤ maxLen) :
    Calls Try.prog 5 #[.slice a n c, .string s] w fun e w' => (∃ t, e = .returned (.bool t)) ∧ w' = w := by
  unfold maxLen at hn hs
  go_enter Try.func5, Try.ntmps5
  go_wp2
  all_goals (go_ret; exact ⟨⟨_, rfl⟩, rfl⟩)

theorem owns_cap {w : World} {base n g cap : Nat} {xs : List Value} (h : w.ownsRow base 5 1 (.slice (some ⟨g, 0, none⟩) n cap) n xs) : n ≤ cap ∧ cap ≤ maxLen := by
  rcases h.2 with ⟨hv, _⟩ | ⟨g', cap', cur, hv, _, _, h1, h2, _⟩
  · cases hv
  · simp only [Value.slice.injEq, true_and] at hv
    obtain ⟨_, rfl⟩ := hv
    exact ⟨h1, h2⟩

/-- What the law's loop reads. -/
structure Two (w : World) (n : Nat) (xs l : List UInt8) (g cap N : Nat) (a2 : Option Addr) (c2 : Nat) (w3 : World) : Prop where
  out : w3.ownsRow w.heap.size 5 1 (.slice (some ⟨g, 0, none⟩) (n + (N + 1)) cap) (n + (N + 1)) (bc (xs ++ lit l))
  want : w3.ownsRow w.heap.size 5 1 (.slice a2 n c2) n (bc xs)
  bel : Below w.heap.size w w3
theorem two_of {w w1 w2 w3 : World} {n c1 c2 g cap N : Nat} {a1 a2 : Option Addr} {xs l : List UInt8} (o1 : w1.ownsRow w.heap.size 5 1 (.slice a1 n c1) n (bc xs)) (k1 : w.grownBy w1 none) (o2 : w2.ownsRow w1.heap.size 5 1 (.slice a2 n c2) n (bc xs)) (k2 : w1.grownBy w2 none)
    (o3 : w3.ownsRow w.heap.size 5 1 (.slice (some ⟨g, 0, none⟩) (n + (N + 1)) cap) (n + (N + 1)) (bc (xs ++ lit l))) (k3 : w2.grownBy w3 (Value.slice a1 n c1).ownBlock) : Two w n xs l g cap N a2 c2 w3 := by
  refine ⟨o3, ?_, ?_⟩
  · have h : w3.ownsRow w1.heap.size 5 1 (.slice a2 n c2) n (bc xs) := by
      refine o2.kept k3 ?_
      cases hb : (Value.slice a2 n c2).ownBlock with
      | none => exact .inl rfl
      | some q =>
        refine .inr fun e => ?_
        have h1 := (o2.lt q hb).1
        have h2 := (o1.lt q e.symm).2
        omega
    refine ⟨h.1, h.2.imp_right fun ⟨g', cap', cur, hv, hb, r⟩ => ⟨g', cap', cur, hv, Nat.le_trans k1.size hb, r⟩⟩
  · exact (((Below.refl _ _).grown k1 (Nat.le_refl _) (by simp)).grown k2 k1.size (by simp)).grown k3 (Nat.le_trans k1.size k2.size) (fun j hj => (o1.lt j hj).1)
theorem Two.pair {w w3 : World} {n c2 g cap N : Nat} {a2 : Option Addr} {xs l : List UInt8} (T : Two w n xs l g cap N a2 c2 w3) (hx : xs.length = n) {k : Nat} (hk : k < n) :
    ∃ g2 v : Nat, a2 = some ⟨g2, 0, none⟩ ∧ v < 256 ∧ w3.cell? ⟨g, k, none⟩ = some (.int .u8 v) ∧ w3.cell? ⟨g2, k, none⟩ = some (.int .u8 v) := by
  rcases T.want.2 with ⟨_, h⟩ | ⟨g2, cap', cur, hv, _⟩
  · omega
  · simp only [Value.slice.injEq, true_and] at hv
    obtain ⟨rfl, rfl⟩ := hv
    have e1 := T.out.cellAt k (by omega)
    have e2 := T.want.cellAt k (by omega)
    have e3 : (bc xs)[k]? = some (.int .u8 (xs[k]'(by omega)).toNat) := by simp [bc, List.getElem?_eq_getElem (show k < xs.length by omega)]
    refine ⟨g2, _, rfl, UInt8.toNat_lt _, ?_, by rw [e2, e3]⟩
    rw [e1, bc_append, List.getElem?_append_left (by rw [bc_length]; omega), e3]
theorem Two.lit {w w3 : World} {n c2 g cap N : Nat} {a2 : Option Addr} {xs l : List UInt8} (T : Two w n xs l g cap N a2 c2 w3) (hx : xs.length = n) (hN : N + 1 = (Qxb6604296a.lit l).length) (j : Nat) (v : Value) (hj : (bc (Qxb6604296a.lit l))[j]? = some v) : w3.cell? ⟨g, n + j, none⟩ = some v := by
  have hl := (List.getElem?_eq_some_iff.1 hj).1
  rw [bc_length] at hl
  rw [T.out.cellAt (n + j) (by omega), bc_append, List.getElem?_append_right (by rw [bc_length]; omega), bc_length, hx, Nat.add_sub_cancel_left, hj]

theorem conv_back {w : World} {base n c : Nat} {a : Option Addr} {l : List UInt8} {s : ByteArray} (hl : l = s.data.toList) (hn : n = l.length) (h : w.ownsRow base 5 1 (.slice a n c) n (bc l)) : (convert 22 9 (.slice a n c)).run Try.prog w = .ok (.string s) w := by
  have es : (⟨l.toArray⟩ : ByteArray) = s := by rw [hl]
  rcases h.2 with ⟨hv, h0⟩ | ⟨g, cap', cur, hv, _⟩
  · simp only [Value.slice.injEq] at hv
    obtain ⟨rfl, rfl, rfl⟩ := hv
    obtain rfl : l = [] := List.eq_nil_of_length_eq_zero hn.symm
    rw [← es]
    exact run_convert_bytes_nil w 22 5 Try.underlying22 Try.underlying5 0 0 9 Try.underlying9
  · simp only [Value.slice.injEq, true_and] at hv
    obtain ⟨rfl, rfl⟩ := hv
    rw [hn, run_convert_bytes_back w 22 9 5 ⟨g, 0, none⟩ c l Try.underlying22 Try.underlying5 Try.underlying9 (fun j hj => ?_), es]
    exact h.cells (g := g) rfl j _ (by simp [bc, List.getElem?_eq_getElem hj])

/-- The decoder, in a world that draws have come to. -/
theorem decode_at {w w3 : World} {n c2 g cap N : Nat} {a2 : Option Addr} {xs l : List UInt8} (T : Two w n xs l g cap N a2 c2 w3) (hx : xs.length = n) (hN : N + 1 = (Qxb6604296a.lit l).length) (hN2 : N ≤ 14000000) (u c : Nat) (s : ByteArray) (hl : l = s.data.toList) :
    Calls Try.prog 8 #[.slice (some ⟨g, n, none⟩) (N + 1) c] (w3.drewN u) fun e w' => ∃ (oa : Option Addr) (om oc : Nat), e = .returned (.tuple #[.slice oa om oc, .bool true]) ∧ (convert 22 9 (.slice oa om oc)).run Try.prog w' = .ok (.string s) w' ∧ Below w.heap.size w w' := by
  have hlen := lit_len l
  have hc : ∀ j v, (bc (Qxb6604296a.lit l))[j]? = some v → (w3.drewN u).cell? ⟨g, n + j, none⟩ = some v := fun j v hj => by
    have := T.lit hx hN j v hj
    simpa using this
  have hb : g < (w3.drewN u).heap.size := by have := (T.out.lt g rfl).2; simpa using this
  have c0 : (w3.drewN u).cell? ⟨g, n, none⟩ = some (.int .u8 34) := hc 0 _ (by simp [Qxb6604296a.lit, bc])
  have c1 : (w3.drewN u).cell? ⟨g, n + N, none⟩ = some (.int .u8 34) := hc N _ (by
    rw [bc, List.getElem?_map]
    unfold Qxb6604296a.lit
    rw [List.getElem?_append_right (by simp; omega)]
    simp
    have : N - ((esc l).length + 1) = 0 := by omega
    simp [this])
  refine (decode_any g n N c l (w3.drewN u) hN (by omega) hN2 hc hb c0 c1).mono fun e w' ⟨oa, oc, h1, h2, h3⟩ => ⟨oa, l.length, oc, h1, conv_back hl rfl h2, ?_⟩
  have hB := below_drewN T.bel u
  exact hB.trans (h3.mono (by have := hB.size; exact this))

set_option maxHeartbeats 2000000 in
theorem decodes_small (a : Option Addr) (n c N : Nat) (xs l : List UInt8) (s : ByteArray) (w : World) (hrow : Hid (RowB w a n c xs)) (hs : n + s.size ≤ 1048576) (hl : Hid (l = s.data.toList)) (hN : Hid (N + 1 = (lit l).length)) (hN1 : 1 ≤ N) (hN2 : N ≤ 7000000) :
    Calls Try.prog 3 #[.slice a n c, .string s] w fun e w' => e = .returned (.bool true) ∧ Below w.heap.size w w' := by
  have hA : Hid (∀ (a1 : Option Addr) (c1 : Nat) (W : World), W.ownsRow w.heap.size 5 1 (.slice a1 n c1) n (bc xs) → w.heap.size ≤ W.heap.size → Calls Try.prog 7 #[.slice a1 n c1, .string s] W fun e w' => ∃ g cap : Nat, e = .returned (.slice (some ⟨g, 0, none⟩) (n + (N + 1)) cap) ∧ w'.ownsRow w.heap.size 5 1 (.slice (some ⟨g, 0, none⟩) (n + (N + 1)) cap) (n + (N + 1)) (bc (xs ++ lit l)) ∧ W.grownBy w' (Value.slice a1 n c1).ownBlock) := by
    intro a1 c1 W h1 h2
    have h := appendString_any w.heap.size a1 n c1 xs s W h1 h2 (by omega) (by omega)
    rw [← hl.out, ← hN.out] at h
    exact h.mono fun e w' ⟨g, cap, e1, e2, e3, _⟩ => ⟨g, cap, e1, e2, e3⟩
  have hx : Hid (xs.length = n) := hrow.out.1
  go_enter Try.func3, Try.ntmps3
  go_wp2_with (first
    | (go_at_call 5; refine (zz5 a n c s _ (by unfold maxLen; omega) (by unfold maxLen; omega)).mono ?_; rintro e w' ⟨⟨t, rfl⟩, hw⟩; obtain rfl := hw.symm; rcases t)
    | (go_at_call 7; refine (hA.out a1 c1 w2 (kept_none o1 k2) (Nat.le_trans k1.size k2.size)).mono ?_; rintro e w3 ⟨g, cap, rfl, o3, k3⟩; have T := hid (two_of o1 k1 o2 k2 o3 k3); obtain ⟨hcap, hcm⟩ := owns_cap o3; unfold maxLen at hcm; clear o1 k1 o2 k2 o3 k3)
    | (go_at_call 6; refine (clone_any a1 n c1 w1.heap.size xs w1 (rowB_of o1) (Nat.le_refl _) (by omega)).mono ?_; rintro e w2 ⟨a2, c2, rfl, o2, k2⟩)
    | (go_at_call 6; refine (clone_any a n c w.heap.size xs w hrow (Nat.le_refl _) (by omega)).mono ?_; rintro e w1 ⟨a1, c1, rfl, o1, k1⟩))
  · go_ret
    exact ⟨rfl, Below.refl _ _⟩
  go_loopw [7] (fun i wr => ∃ (k u : Nat), k ≤ n ∧ i = .int .i64 k ∧ wr = w3.drewN u) (fun i _ => n - (intOf i).toNat)
  case atStart => exact ⟨0, 0, Nat.zero_le _, rfl, rfl⟩
  case round =>
    obtain ⟨k, u, hk, rfl, rfl⟩ := hrel
    by_cases hlt : k < n
    · obtain ⟨g2, v, rfl, hv, e1, e2⟩ := T.out.pair hx.out hlt
      have i1 : k < n + (N + 1) := by omega
      have i2 : (k : Int) < (n : Int) + ((N : Int) + 1) := by omega
      go_wp2
      go_quiet (fail)
      go_wp2
      go_roundw
      case rel => first | exact ⟨k + 1, _, by omega, by go_num, rfl⟩ | ((repeat (apply Exists.intro)); refine ⟨?_, rfl⟩; exact ⟨k + 1, _, by omega, by go_num, rfl⟩)
      case measure => simp [intOf]; omega
    · obtain rfl : k = n := by omega
      go_wp2_with (go_at_call 8; refine (decode_at T.out hx.out hN.out (by omega) _ _ s hl.out).mono ?_; rintro e w4 ⟨oa, om, oc, rfl, hconv, hbel⟩)
      go_ret
      exact ⟨by simp, hbel⟩

theorem decodes_big (a : Option Addr) (n c : Nat) (s : ByteArray) (w : World) (hn : n ≤ maxLen) (hs : s.size ≤ maxLen) (hb : ¬ n + s.size ≤ 1048576) :
    Calls Try.prog 3 #[.slice a n c, .string s] w fun e w' => e = .returned (.bool true) ∧ Below w.heap.size w w' := by
  have hn' := hn
  have hs' := hs
  unfold maxLen at hn' hs'
  by_cases h1 : n ≤ 1048576
  · by_cases h2 : s.size ≤ 1048576
    · go_enter Try.func3, Try.ntmps3
      go_wp2_with (go_at_call 5; refine (zz5 a n c s _ hn hs).mono ?_; rintro e w' ⟨⟨t, rfl⟩, hw⟩; obtain rfl := hw.symm; rcases t)
      all_goals (go_ret; exact ⟨rfl, Below.refl _ _⟩)
    · go_enter Try.func3, Try.ntmps3
      go_wp2_with (go_at_call 5; refine (zz5 a n c s _ hn hs).mono ?_; rintro e w' ⟨⟨t, rfl⟩, hw⟩; obtain rfl := hw.symm; rcases t)
      all_goals (go_ret; exact ⟨rfl, Below.refl _ _⟩)
  · go_enter Try.func3, Try.ntmps3
    go_wp2_with (go_at_call 5; refine (zz5 a n c s _ hn hs).mono ?_; rintro e w' ⟨⟨t, rfl⟩, hw⟩; obtain rfl := hw.symm; rcases t)
    all_goals (go_ret; exact ⟨rfl, Below.refl _ _⟩)
theorem decodes_any (a : Option Addr) (n c : Nat) (xs : List UInt8) (s : ByteArray) (w : World) (hrow : RowB w a n c xs) (hn : n ≤ maxLen) (hs : s.size ≤ maxLen) :
    Calls Try.prog 3 #[.slice a n c, .string s] w fun e w' => e = .returned (.bool true) ∧ Below w.heap.size w w' := by
  by_cases hb : n + s.size ≤ 1048576
  · have hla := lit_len s.data.toList
    have bla := (esc_len s.data.toList).1
    rw [show s.data.toList.length = s.size by simp] at bla
    exact decodes_small a n c ((esc s.data.toList).length + 1) xs _ s w hrow hb rfl (by show _ = _; omega) (by omega) (by omega)
  · exact decodes_big a n c s w hn hs hb
end Go.Proofs.Qxb6604296a
