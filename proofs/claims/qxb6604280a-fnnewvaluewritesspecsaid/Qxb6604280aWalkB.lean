import Derived.Test.Qxb6604280aWalkA
import Derived.Test.Qxb6604280aPartsB
import Derived.Outline
namespace Go.Proofs.Qxb6604280a
open Go.RowKit
theorem Try.size43 : (Try.prog.info? 43).map (·.size) = some 14 := by kernel_rfl
theorem Try.size34 : (Try.prog.info? 34).map (·.size) = some 14 := by kernel_rfl
theorem Try.info34 : (Try.prog.info? 34).map (fun i => (i.zero, i.size, i.bytes)) = some (some (.agg #[.string ⟨#[]⟩, .string ⟨#[]⟩, .int .i64 0, .string ⟨#[]⟩, .string ⟨#[]⟩, .string ⟨#[]⟩, .int .i64 0, .int .i64 0, .int .i64 0, .int .i64 0, .bool false, .int .u64 0, .int .u64 0, .int .i64 0]), 14, 152) := by kernel_rfl

theorem there_of_owns {w : World} {base e size n c : Nat} {g : Nat} {xs : List Value} (h : w.ownsRow base e size (.slice (some ⟨g, 0, none⟩) n c) n xs) : w.there g 0 (n * size) := by
  obtain ⟨hl, h⟩ := h
  rcases h with ⟨h, _⟩ | ⟨g', cap, cur, hv, hb, hh, hc, _, hsz, ht⟩
  · cases h
  · simp only [Value.slice.injEq, Option.some.injEq, Addr.mk.injEq, true_and, and_true] at hv
    obtain ⟨rfl, rfl⟩ := hv
    intro j hj
    have hjs : j < cur.size := by rw [hsz]; exact Nat.lt_of_lt_of_le hj (Nat.mul_le_mul_right _ hc)
    refine ⟨?_, ?_⟩
    · rw [cell_of_row w g _ cur _ _ hh]; simp [hjs]
    · exact frozen_of_row w g _ cur _ hh

set_option maxHeartbeats 400000 in
theorem toOps_some (x : Addr) (b off n c : Nat) (rs : List Rc) (w : World) (ha : Hid (0 < n → x = ⟨b, off, none⟩)) (hn : Hid (n = rs.length)) (hs : n ≤ 6898) (hc : RowAt w b off rs) (hb : Hid (0 < n → b < w.heap.size)) :
    Calls Try.prog 8 #[.slice (some x) n c] w fun e w' => e = .returned (.slice (some ⟨w.heap.size, 0, none⟩) n n) ∧ RowAt w' w.heap.size 0 rs ∧ Below w.heap.size w w' := by
  obtain ⟨i0, hi, hz0, hz1, hz2⟩ := info_parts Try.info34
  have heq := fun (wx : World) (a : Option Addr) (n c : Nat) => Lib.run_eql_slice_nil (P := Try.prog) wx 22 43 a n c 0 0 Try.underlying22
  go_enter Try.func8, Try.ntmps8
  go_wp2_with (at_make; refine wpList_make_full _ rfl _ _ 25 rfl 0 34 i0 _ 14 Try.underlying25 hi hz0 hz1 .i64 .i64 _ _ n rfl rfl rfl rfl (by rw [hz2]; omega) (by unfold maxLen; omega) (by omega) ?_; intro w1 hown hgrow)
  have hth := there_of_owns hown
  have hbel : Below w.heap.size w w1 := (Below.refl _ _).grown hgrow (Nat.le_refl _) (fun k h => by cases h)
  clear hown hgrow hz0 hz1 hz2 hi heq
  go_loopw [4] (fun i wr => ∃ k : Nat, k ≤ n ∧ i = .int .i64 k ∧ RowAt wr w.heap.size 0 (rs.take k) ∧ wr.there w.heap.size 0 (n * 14) ∧ Below w.heap.size w wr) (fun i _ => n - (intOf i).toNat)
  case atStart => exact ⟨0, Nat.zero_le _, rfl, fun i r h => by simp at h, hth, hbel⟩
  case round =>
    clear hth hbel
    obtain ⟨k, hk, rfl, hrow, hth, hbel⟩ := hrel
    by_cases hlt : k < n
    · obtain rfl := ha.out (by omega)
      have hb' := hb.out (by omega)
      obtain ⟨r, hm, hr, hcr⟩ := hc.get (k := k) (by rw [← hn.out]; exact hlt)
      have hHr : Hid (rs[k]? = some r) := hr
      have hcr' : wr.rangeAt b (off + k * 14) r.cells := fun j v hj => by rw [hbel.cell (p := ⟨b, _, none⟩) hb']; exact hcr j v hj
      clear hcr hr hc hm
      have hth2 := fun ob => there_sub (World.there_alloc hth ob) (k * 14) 14 (rows_lt hlt)
      go_wp2_with (first | (with_reducible refine here_store 34 _ _ rfl ?_; refine wpList_store_rc rfl 34 _ _ rfl w.heap.size (k * 14) r rfl rfl ?_ Try.size34 ?_; exact hth2 _) | (with_reducible refine here_load 43 _ rfl ?_; refine wpList_load_rc rfl 43 _ rfl b (off + k * 14) rfl r _ hcr' Try.underlying43 rfl Try.size43 ?_))
      go_roundw
      case rel =>
        have R := row_push hrow hth hlt hHr.out (.cells r.cells.toArray 43)
        exact ⟨k + 1, by omega, by go_num, R.1, R.2, below_setCells (Nat.le_refl _) _ _ _ (hbel.alloc hbel.size _)⟩
      case measure => simp [intOf]; omega
    · go_wp2
      go_ret
      exact ⟨rfl, by have := hn.out; rwa [List.take_of_length_le (by omega)] at hrow, hbel⟩
theorem toOps_nil (c : Nat) (w : World) : Calls Try.prog 8 #[.slice none 0 c] w fun e w' => e = .returned (.slice none 0 0) ∧ w' = w := by
  have heq := fun (wx : World) (a : Option Addr) (n c : Nat) => Lib.run_eql_slice_nil (P := Try.prog) wx 22 43 a n c 0 0 Try.underlying22
  go_enter Try.func8, Try.ntmps8
  go_wp2
  go_ret
  exact ⟨rfl, rfl⟩
/-- Every slice that may come in. -/
theorem toOps_any (a : Option Addr) (b off n c : Nat) (rs : List Rc) (w : World) (ha : Hid (0 < n → a = some ⟨b, off, none⟩)) (h0 : a = none → n = 0) (hn : Hid (n = rs.length)) (hs : n ≤ 6898) (hc : RowAt w b off rs) (hb : Hid (0 < n → b < w.heap.size)) :
    Calls Try.prog 8 #[.slice a n c] w fun e w' => ∃ (oa : Option Addr) (oc : Nat), e = .returned (.slice oa n oc) ∧ Hid (0 < n → oa = some ⟨w.heap.size, 0, none⟩) ∧ Hid (0 < n → w.heap.size < w'.heap.size) ∧ RowAt w' w.heap.size 0 rs ∧ n ≤ oc ∧ Below w.heap.size w w' := by
  cases a with
  | none =>
    obtain rfl := h0 rfl
    refine (toOps_nil c w).mono ?_
    rintro e w' ⟨rfl, rfl⟩
    exact ⟨none, 0, rfl, fun h => absurd h (by omega), fun h => absurd h (by omega), fun i r h => by have := hn.out; rw [List.length_eq_zero_iff.1 this.symm] at h; simp at h, Nat.le_refl _, Below.refl _ _⟩
  | some x =>
    refine (toOps_some x b off n c rs w (fun h => by have := ha.out h; simpa using this) hn hs hc hb).mono ?_
    rintro e w' ⟨rfl, hrow, hbel⟩
    refine ⟨_, n, rfl, fun _ => rfl, fun h => ?_, hrow, Nat.le_refl _, hbel⟩
    have hl := hn.out
    have := hrow 0 (rs[0]'(by omega)) (by simp) 0 _ rfl
    exact block_lt_of_cell this
end Go.Proofs.Qxb6604280a
