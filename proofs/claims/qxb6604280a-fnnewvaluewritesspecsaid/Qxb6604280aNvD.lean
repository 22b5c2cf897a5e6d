import Derived.Test.Qxb6604280aNvC
namespace Go.Proofs.Qxb6604280a
open Go.RowKit
theorem NV.drewN {w wr : World} {rs : List Rc} {sv : Value} {n nw OF WR V M a : Nat} {R : Value → Value → Prop} (N : NV w rs sv n nw OF WR V M R a wr) (q : Nat) : NV w rs sv n nw OF WR V M R a (wr.drewN q) :=
  ⟨N.st, N.of, N.wt, ⟨N.map.map.of_block rfl, N.map.own, N.map.has, N.map.apart⟩, ⟨N.bel.os, N.bel.tape, N.bel.output, N.bel.size, N.bel.block⟩, N.hOF, N.hWR, N.hV, N.ne⟩

set_option maxRecDepth 20000 in
set_option maxHeartbeats 1000000 in
theorem zznv_any (a : Option Addr) (b off n c nw : Nat) (rs : List Rc) (w : World) (ha : Hid (0 < n → a = some ⟨b, off, none⟩)) (hn : Hid (n = rs.length)) (hs : n ≤ 6898) (hnw : Hid (nw = (n + 63) / 64)) (hc : RowAt w b off rs) (hb : Hid (0 < n → b < w.heap.size)) (hok : ∀ r ∈ rs, r.ok) :
    Calls Try.prog 11 #[.slice a n c] w fun e w' => ∃ OF WR V M R, e = .returned (.tuple #[.slice a n c, .slice (some ⟨OF, 0, none⟩) n n, .int .i64 (amb rs n), .slice (some ⟨WR, 0, none⟩) nw nw]) ∧ NV w rs (.slice a n c) n nw OF WR V M R n w' := by
  go_enter Try.func11, Try.ntmps11
  go_wp2_with (go_at_call 15; refine (nvw_any a b off n c nw rs _ ha hn hs hnw hc hb hok).mono ?_; rintro e w1 ⟨OF, WR, V, M, R, rfl, N⟩)
  have v0 : w1.cell? ⟨V, 0, none⟩ = some (.slice a n c) := by rw [cell_of_row _ _ _ _ _ _ N.st]; rfl
  have v1 : w1.cell? ⟨V, 1, none⟩ = some (.slice (some ⟨OF, 0, none⟩) n n) := by rw [cell_of_row _ _ _ _ _ _ N.st]; rfl
  have v2 : w1.cell? ⟨V, 2, none⟩ = some (.int .i64 (amb rs n)) := by rw [cell_of_row _ _ _ _ _ _ N.st]; rfl
  have v3 : w1.cell? ⟨V, 3, none⟩ = some (.slice (some ⟨WR, 0, none⟩) nw nw) := by rw [cell_of_row _ _ _ _ _ _ N.st]; rfl
  have HN : Hid (NV w rs (.slice a n c) n nw OF WR V M R n w1) := N
  clear N hc hok
  go_quiet (fail)
  go_wp2
  exact bodyPost_ret (v := .tuple #[.slice a n c, .slice (some ⟨OF, 0, none⟩) n n, .int .i64 (amb rs n), .slice (some ⟨WR, 0, none⟩) nw nw]) (by simp [results, Try.results11, go_sem]) rfl ⟨OF, WR, V, M, R, rfl, HN.out.drewN _⟩
end Go.Proofs.Qxb6604280a
