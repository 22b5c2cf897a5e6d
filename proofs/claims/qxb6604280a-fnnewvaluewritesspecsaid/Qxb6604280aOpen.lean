import Derived.Test.Qxb6604280aPartsC
import Derived.ProofKit
import Derived.Deep.Slices
namespace Go.Proofs.Qxb6604280a
open Go.RowKit Go.ChangeShapes Go.WideShapes
theorem Try.cells43 : Try.prog.cellsOf 43 = 14 := by kernel_rfl
theorem Try.cells9 : Try.prog.cellsOf 9 = 1 := by kernel_rfl
theorem Try.cells3 : Try.prog.cellsOf 3 = 1 := by kernel_rfl
theorem Try.cells4 : Try.prog.cellsOf 4 = 1 := by kernel_rfl
theorem Try.cells32 : Try.prog.cellsOf 32 = 1 := by kernel_rfl
/-- Fourteen cells that read as a ZOp are a record. -/
theorem rc_of {H : Type} {enc : TypeId × Value → H} {w : World} {base : Nat} {spare : Nat → Bool} {held : Bool} {fuel : Nat} {cs : List Value} {x : DataW H × List MemPlace} (hl : cs.length = 14)
    (h : DataW.trod enc Try.prog w base spare held fuel 43 cs = some x) : ∃ r : Rc, cs = r.cells ∧ r.ok := by
  obtain ⟨xs, n, rfl, _, _, h3, h4⟩ := DataW.trod_struct Try.underlying43 h
  have h3' : xs.length = 14 := h3
  have hx : ∀ i, i < 14 → ∃ y, xs[i]? = some y := fun i hi => ⟨xs[i]'(by omega), List.getElem?_eq_getElem (by omega)⟩
  clear h h3
  match cs, hl with
  | [c0, c1, c2, c3, c4, c5, c6, c7, c8, c9, c10, c11, c12, c13], _ =>
    have f0 := h4 0 _ rfl
    obtain ⟨y0, g0⟩ := hx 0 (by omega)
    rw [g0] at f0
    obtain ⟨v0, e0, _, o0⟩ := DataW.trod_string Try.underlying9 f0
    simp [Try.cells9] at e0
    subst e0
    have f1 := h4 1 _ rfl
    obtain ⟨y1, g1⟩ := hx 1 (by omega)
    rw [g1] at f1
    obtain ⟨v1, e1, _, o1⟩ := DataW.trod_string Try.underlying9 f1
    simp [Try.cells9] at e1
    subst e1
    have f2 := h4 2 _ rfl
    obtain ⟨y2, g2⟩ := hx 2 (by omega)
    rw [g2] at f2
    obtain ⟨v2, e2, _, _⟩ := DataW.trod_int Try.underlying3 f2
    simp [Try.cells3] at e2
    subst e2
    have f3 := h4 3 _ rfl
    obtain ⟨y3, g3⟩ := hx 3 (by omega)
    rw [g3] at f3
    obtain ⟨v3, e3, _, o3⟩ := DataW.trod_string Try.underlying9 f3
    simp [Try.cells9] at e3
    subst e3
    have f4 := h4 4 _ rfl
    obtain ⟨y4, g4⟩ := hx 4 (by omega)
    rw [g4] at f4
    obtain ⟨v4, e4, _, o4⟩ := DataW.trod_string Try.underlying9 f4
    simp [Try.cells9] at e4
    subst e4
    have f5 := h4 5 _ rfl
    obtain ⟨y5, g5⟩ := hx 5 (by omega)
    rw [g5] at f5
    obtain ⟨v5, e5, _, o5⟩ := DataW.trod_string Try.underlying9 f5
    simp [Try.cells9] at e5
    subst e5
    have f6 := h4 6 _ rfl
    obtain ⟨y6, g6⟩ := hx 6 (by omega)
    rw [g6] at f6
    obtain ⟨v6, e6, _, _⟩ := DataW.trod_int Try.underlying3 f6
    simp [Try.cells3] at e6
    subst e6
    have f7 := h4 7 _ rfl
    obtain ⟨y7, g7⟩ := hx 7 (by omega)
    rw [g7] at f7
    obtain ⟨v7, e7, _, _⟩ := DataW.trod_int Try.underlying3 f7
    simp [Try.cells3] at e7
    subst e7
    have f8 := h4 8 _ rfl
    obtain ⟨y8, g8⟩ := hx 8 (by omega)
    rw [g8] at f8
    obtain ⟨v8, e8, _, _⟩ := DataW.trod_int Try.underlying3 f8
    simp [Try.cells3] at e8
    subst e8
    have f9 := h4 9 _ rfl
    obtain ⟨y9, g9⟩ := hx 9 (by omega)
    rw [g9] at f9
    obtain ⟨v9, e9, _, _⟩ := DataW.trod_int Try.underlying3 f9
    simp [Try.cells3] at e9
    subst e9
    have f10 := h4 10 _ rfl
    obtain ⟨y10, g10⟩ := hx 10 (by omega)
    rw [g10] at f10
    obtain ⟨v10, e10, _⟩ := DataW.trod_bool Try.underlying4 f10
    simp [Try.cells4] at e10
    subst e10
    have f11 := h4 11 _ rfl
    obtain ⟨y11, g11⟩ := hx 11 (by omega)
    rw [g11] at f11
    obtain ⟨v11, e11, _, _⟩ := DataW.trod_int Try.underlying32 f11
    simp [Try.cells32] at e11
    subst e11
    have f12 := h4 12 _ rfl
    obtain ⟨y12, g12⟩ := hx 12 (by omega)
    rw [g12] at f12
    obtain ⟨v12, e12, _, _⟩ := DataW.trod_int Try.underlying32 f12
    simp [Try.cells32] at e12
    subst e12
    have f13 := h4 13 _ rfl
    obtain ⟨y13, g13⟩ := hx 13 (by omega)
    rw [g13] at f13
    obtain ⟨v13, e13, _, _⟩ := DataW.trod_int Try.underlying3 f13
    simp [Try.cells3] at e13
    subst e13
    exact ⟨⟨v0, v1, v2, v3, v4, v5, v6, v7, v8, v9, v10, v11, v12, v13⟩, rfl, ⟨o0, o1, o3, o4, o5⟩⟩
/-- The argument opened. -/
theorem open_ops {H : Type} {enc : TypeId × Value → H} {W : World} {base : Nat} {spare : Nat → Bool} {held : Bool} {fuel : Nat} {a0 : Option Addr} {len cap : Nat} {x : DataW H × List MemPlace}
    (h : DataW.trod enc Try.prog W base spare held fuel 22 [.slice a0 len cap] = some x) :
    ∃ (b off : Nat) (rs : List Rc), len = rs.length ∧ (0 < len → a0 = some ⟨b, off, none⟩) ∧ (0 < len → b < W.heap.size) ∧ RowAt W b off rs ∧ (∀ r ∈ rs, r.ok) ∧ (a0 = none → len = 0) ∧ len ≤ 9223372036854775807 := by
  rcases Deep.open_slice Try.underlying22 h with ⟨hcs, _⟩ | ⟨a, l, c, m, n, D, Pl, hcs, _, hlc, hcm, hm, _, hel⟩
  · simp only [List.cons.injEq, Value.slice.injEq, and_true] at hcs
    obtain ⟨rfl, rfl, rfl⟩ := hcs
    exact ⟨0, 0, [], rfl, fun h => absurd h (by omega), fun h => absurd h (by omega), fun i r h => by simp at h, fun r h => by simp at h, fun _ => rfl, by omega⟩
  · simp only [List.cons.injEq, Value.slice.injEq, and_true] at hcs
    obtain ⟨rfl, rfl, rfl⟩ := hcs
    have hlm : len ≤ m := by rw [hm]; split <;> omega
    have hmax : len ≤ 9223372036854775807 := by unfold maxLen at hcm; omega
    by_cases h0 : len = 0
    · subst h0
      exact ⟨0, 0, [], rfl, fun h => absurd h (by omega), fun h => absurd h (by omega), fun i r h => by simp at h, fun r h => by simp at h, (fun e => by cases e), by omega⟩
    have hx : ∀ i, i < len → ∃ r : Rc, (∀ j, j < 14 → W.cell? ((a.add (i * 14)).add j) = r.cells[j]?) ∧ r.ok := fun i hi => by
      obtain ⟨cs', h1, h2⟩ := hel i (by omega)
      rw [Try.cells43] at h1
      obtain ⟨_, hlen, hc⟩ := World.cells?_some h1
      obtain ⟨r, rfl, hok⟩ := rc_of hlen h2
      exact ⟨r, hc, hok⟩
    obtain ⟨b, off, spot⟩ := a
    have hspot : spot = none := by
      obtain ⟨r, hc, _⟩ := hx 0 (by omega)
      have := hc 0 (by omega)
      have e : r.cells[0]? = some (.string r.ses) := rfl
      rw [e] at this
      simpa [Addr.add] using World.cell?_spot this
    subst hspot
    have hx' : ∀ i, i < len → ∃ r : Rc, W.rangeAt b (off + i * 14) r.cells ∧ r.ok := fun i hi => by
      obtain ⟨r, hc, hok⟩ := hx i hi
      refine ⟨r, fun j v hj => ?_, hok⟩
      have hj14 : j < 14 := by have := (List.getElem?_eq_some_iff.1 hj).1; exact this
      have := hc j hj14
      rw [hj, Addr.add_mid, Addr.add_mid] at this
      exact this
    have hI : Inhabited Rc := ⟨⟨default, default, 0, default, default, default, 0, 0, 0, 0, false, 0, 0, 0⟩⟩
    obtain ⟨R, hR⟩ := Deep.choose_lt (α := Rc) (p := fun i r => W.rangeAt b (off + i * 14) r.cells ∧ r.ok) hx'
    refine ⟨b, off, (List.range len).map R, by simp, fun _ => rfl, fun h => ?_, fun i r hi => ?_, fun r hr => ?_, (fun e => by cases e), hmax⟩
    · have := (hR 0 h).1 0 _ rfl
      exact block_lt_of_cell this
    · have hil : i < len := by have := (List.getElem?_eq_some_iff.1 hi).1; simpa using this
      simp [hil] at hi
      rw [← hi]
      exact (hR i hil).1
    · obtain ⟨i, hi, rfl⟩ := List.mem_map.1 hr
      exact (hR i (by simpa using hi)).2
end Go.Proofs.Qxb6604280a
