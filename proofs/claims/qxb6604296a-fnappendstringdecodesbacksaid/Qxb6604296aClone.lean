import Derived.Test.Qxb6604296aLawA
import Derived.Laws.CopyOwn
namespace Go.Proofs.Qxb6604296a
open Go.RowKit

/-- A slice of bytes: nil, or bytes behind an address. -/
def RowB (w : World) (a : Option Addr) (n c : Nat) (xs : List UInt8) : Prop :=
  xs.length = n ∧ ((a = none ∧ n = 0 ∧ c = 0) ∨ ∃ x, a = some x ∧ ∀ j v, (bc xs)[j]? = some v → w.cell? (x.add j) = some v)
theorem rowB_of {w : World} {base n c : Nat} {a : Option Addr} {xs : List UInt8} (h : w.ownsRow base 5 1 (.slice a n c) n (bc xs)) : RowB w a n c xs := by
  refine ⟨by have := h.1; rw [bc_length] at this; omega, ?_⟩
  rcases h.2 with ⟨hv, h0⟩ | ⟨g, cap, cur, hv, _⟩
  · simp only [Value.slice.injEq] at hv
    exact .inl hv
  · simp only [Value.slice.injEq, true_and] at hv
    obtain ⟨rfl, rfl⟩ := hv
    exact .inr ⟨_, rfl, h.cells (g := g) rfl⟩
theorem made_block {w1 : World} {base g n : Nat} {ys : List Value} (h : w1.ownsRow base 5 1 (.slice (some ⟨g, 0, none⟩) n n) n ys) : ∃ cur : Array Value, cur.size = n ∧ w1.heap[g]? = some (.cells cur 5 (0, 0)) := by
  rcases h.2 with ⟨hv, _⟩ | ⟨g', cap, cur, hv, _, hg, _, _, hs, _⟩
  · cases hv
  · simp only [Value.slice.injEq, Option.some.injEq, Addr.mk.injEq, true_and, and_true] at hv
    obtain ⟨rfl, rfl⟩ := hv
    exact ⟨cur, by omega, hg⟩
theorem clone_row {w w1 : World} {base n : Nat} {xs : List UInt8} {cur : Array Value} (hl : xs.length = n) (hbase : base ≤ w.heap.size) (hn : n ≤ 1048576) (hg : w1.heap[w.heap.size]? = some (.cells cur 5 (0, 0))) (hcs : cur.size = n) (hgrow : w.grownBy w1 none) :
    (w1.setRow w.heap.size (cur.toList.take 0 ++ (bc xs ++ cur.toList.drop (0 + (bc xs).length))).toArray).ownsRow base 5 1 (.slice (some ⟨w.heap.size, 0, none⟩) n n) n (bc xs) ∧
      w.grownBy (w1.setRow w.heap.size (cur.toList.take 0 ++ (bc xs ++ cur.toList.drop (0 + (bc xs).length))).toArray) none := by
  have hb := bc_length xs
  refine ⟨⟨by rw [hb]; omega, .inr ⟨w.heap.size, n, _, rfl, hbase, setRow_heap w1 _ cur _ 5 _ hg, Nat.le_refl _, by unfold maxLen; omega, ?_, ?_⟩⟩, ⟨hgrow.os, hgrow.tape, hgrow.output, by have := hgrow.size; simpa [World.setRow] using this, fun k hk hne => ?_⟩⟩
  · simp [hb]; omega
  · simp
    rw [List.take_append_of_le_length (by rw [hb]; omega), List.take_of_length_le (by rw [hb]; omega)]
  · rw [setRow_other w1 _ k _ (by omega)]
    exact hgrow.block k hk hne
set_option maxHeartbeats 1000000 in
theorem clone_some (x : Addr) (n c base : Nat) (xs : List UInt8) (w : World) (hl : xs.length = n) (hbase : base ≤ w.heap.size) (hn : n ≤ 1048576) (hc : Hid (∀ j v, (bc xs)[j]? = some v → w.cell? (x.add j) = some v)) :
    Calls Try.prog 6 #[.slice (some x) n c] w fun e w' => e = .returned (.slice (some ⟨w.heap.size, 0, none⟩) n n) ∧ w'.ownsRow base 5 1 (.slice (some ⟨w.heap.size, 0, none⟩) n n) n (bc xs) ∧ w.grownBy w' none := by
  obtain ⟨i, h1, h2, h3, h4⟩ := info_parts Try.info5
  have hi1 : (Try.prog.info? 5).map (·.size) = some 1 := by rw [h1]; simp [h3]
  have heq := fun (wx : World) (a : Option Addr) (n c : Nat) => Lib.run_eql_slice_nil (P := Try.prog) wx 22 5 a n c 0 0 Try.underlying22
  go_enter Try.func6, Try.ntmps6
  go_wp2_with (first
    | (at_make; refine wpList_make_full _ rfl _ _ 22 rfl base 5 i _ 1 Try.underlying22 h1 h2 h3 .i64 .i64 _ _ n rfl rfl rfl rfl (by rw [h4]; omega) (by unfold maxLen; omega) hbase ?_; intro w1 hown hgrow; obtain ⟨cur, hcs, hg⟩ := made_block hown)
    | (refine wpList_copy_own rfl (.tmp 9) (.tmp 10) 22 22 rfl 5 Try.underlying22 hi1 w.heap.size 0 n n x n c rfl rfl cur 5 hg (bc xs) (by rw [bc_length, hl]; exact (Nat.min_self n).symm) (fun j v hj => hgrow.cell (hc.out j v hj) (by simp)) (by rw [bc_length]; omega) (fun v hv => by simp only [bc, List.mem_map] at hv; obtain ⟨_, _, rfl⟩ := hv; rfl) ?_))
  go_ret
  obtain ⟨r1, r2⟩ := clone_row hl hbase hn hg hcs hgrow
  simp only [List.take_zero, List.nil_append, Nat.zero_add] at r1 r2
  exact ⟨rfl, r1, r2⟩
theorem clone_nil (w : World) :
    Calls Try.prog 6 #[.slice none 0 0] w fun e w' => e = .returned (.slice none 0 0) ∧ w' = w := by
  have heq := fun (wx : World) (a : Option Addr) (n c : Nat) => Lib.run_eql_slice_nil (P := Try.prog) wx 22 5 a n c 0 0 Try.underlying22
  go_enter Try.func6, Try.ntmps6
  go_wp2
  go_ret
  exact ⟨rfl, rfl⟩
theorem clone_any (a : Option Addr) (n c base : Nat) (xs : List UInt8) (w : World) (h : Hid (RowB w a n c xs)) (hbase : base ≤ w.heap.size) (hn : n ≤ 1048576) :
    Calls Try.prog 6 #[.slice a n c] w fun e w' => ∃ (a' : Option Addr) (c' : Nat), e = .returned (.slice a' n c') ∧ w'.ownsRow base 5 1 (.slice a' n c') n (bc xs) ∧ w.grownBy w' none := by
  obtain ⟨hl, h | ⟨x, rfl, hc⟩⟩ := h.out
  · obtain ⟨rfl, rfl, rfl⟩ := h
    obtain rfl : xs = [] := List.eq_nil_of_length_eq_zero hl
    exact (clone_nil w).mono fun e w' ⟨h1, h2⟩ => ⟨none, 0, h1, by subst h2; exact nil_own _ _, by subst h2; exact World.grownBy.refl _ _⟩
  · exact (clone_some x n c base xs w hl hbase hn hc).mono fun e w' ⟨h1, h2, h3⟩ => ⟨_, _, h1, h2, h3⟩
end Go.Proofs.Qxb6604296a
