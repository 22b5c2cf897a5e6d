import Derived.Test.Qxb6604280aNvB
import Derived.Deep.OwnRows
import Derived.Deep.QuietTactic
import Derived.BigQuiet
import Derived.Deep.DeepCutAuto
import Derived.Outline
import Derived.Laws.BitsAllLaws
namespace Go.Proofs.Qxb6604280a
open Go.RowKit
theorem Try.info40 : (Try.prog.info? 40).map (fun i => (i.zero, i.size, i.bytes)) = some (some (.slice none 0 0), 1, 24) := by kernel_rfl
theorem Try.info32 : (Try.prog.info? 32).map (fun i => (i.zero, i.size, i.bytes)) = some (some (.int .u64 0), 1, 8) := by kernel_rfl

/-- The cells of the answer's struct. -/
abbrev vcells (sv : Value) (OF WR n nw : Nat) (am : Int) : Array Value := #[sv, .slice (some ⟨OF, 0, none⟩) n n, .int .i64 am, .slice (some ⟨WR, 0, none⟩) nw nw]
/-- The writes among the first a, as bits of word j. -/
def word (rs : List Rc) : Nat → Nat → Nat
  | 0, _ => 0
  | a + 1, j => if a / 64 = j ∧ (match rs[a]? with | some r => decide (r.kind = 0) | none => false) = true then word rs a j ||| 2 ^ (a % 64) else word rs a j
/-- What stands at a read's place: its writers, or nil. -/
def OfOk (R : Value → Value → Prop) (r : Rc) (v : Value) : Prop :=
  if r.kind = 0 then v = .slice none 0 0 else (R (kv r.obj r.val) v ∨ ((∀ x, ¬ R (kv r.obj r.val) x) ∧ v = .slice none 0 0))
structure NV (w : World) (rs : List Rc) (sv : Value) (n nw OF WR V M : Nat) (R : Value → Value → Prop) (a : Nat) (wr : World) : Prop where
  st : wr.heap[V]? = some (.cells (vcells sv OF WR n nw (amb rs a)) 48 (0, 0))
  of : ∃ f : Nat → Value, wr.rowIs OF 40 n f ∧ ∀ (i : Nat) (r : Rc), rs[i]? = some r → (i < a → OfOk R r (f i)) ∧ (a ≤ i → f i = .slice none 0 0)
  wt : wr.rowIs WR 32 nw (fun j => .int .u64 (word rs a j : Nat))
  map : WrOk rs M R wr
  bel : Below w.heap.size w wr
  hOF : w.heap.size ≤ OF ∧ OF < M
  hWR : w.heap.size ≤ WR ∧ WR < M
  hV : w.heap.size ≤ V ∧ V < M
  ne : OF ≠ WR ∧ OF ≠ V ∧ WR ≠ V
structure NV0 (w : World) (sv : Value) (n nw OF WR V : Nat) (wr : World) : Prop where
  st : wr.heap[V]? = some (.cells (vcells sv OF WR n nw (-1)) 48 (0, 0))
  of : wr.rowIs OF 40 n (fun _ => .slice none 0 0)
  wt : wr.rowIs WR 32 nw (fun _ => .int .u64 0)
  bel : Below w.heap.size w wr
  hOF : w.heap.size ≤ OF ∧ OF < wr.heap.size
  hWR : w.heap.size ≤ WR ∧ WR < wr.heap.size
  hV : w.heap.size ≤ V ∧ V < wr.heap.size
  ne : OF ≠ WR ∧ OF ≠ V ∧ WR ≠ V
theorem nv0_one (w : World) (sv : Value) (n nw : Nat) : NV0 w sv n nw w.heap.size (w.heap.size + 1) (w.heap.size + 1 + 1) (((w.alloc (.cells (madeCells #[.slice none 0 0] n) 40)).alloc (.cells (madeCells #[.int .u64 0] nw) 32)).alloc (.cells (vcells sv w.heap.size (w.heap.size + 1) n nw (-1)) 48)).drew := by
  have s1 : (w.alloc (.cells (madeCells #[.slice none 0 0] n) 40)).heap.size = w.heap.size + 1 := by simp
  have s2 : ((w.alloc (.cells (madeCells #[.slice none 0 0] n) 40)).alloc (.cells (madeCells #[.int .u64 0] nw) 32)).heap.size = w.heap.size + 1 + 1 := by simp
  refine ⟨?_, ?_, ?_, ?_, ⟨by omega, by simp; omega⟩, ⟨by omega, by simp⟩, ⟨by omega, by simp⟩, by omega, by omega, by omega⟩
  · rw [← s2]; exact heap_alloc_new _ _
  · exact ((World.rowIs_made w _ n 40).alloc _).alloc _
  · have := (World.rowIs_made (w.alloc (.cells (madeCells #[.slice none 0 0] n) 40)) (.int .u64 0) nw 32).alloc (.cells (vcells sv w.heap.size (w.heap.size + 1) n nw (-1)) 48)
    rw [s1] at this
    exact this
  · exact ((((Below.refl _ _).alloc (Nat.le_refl _) _).alloc (by simp) _).alloc (by simp; omega) _).drew
theorem nv0_two (w : World) (sv : Value) (n nw : Nat) : NV0 w sv n nw (w.heap.size + 1) w.heap.size (w.heap.size + 1 + 1) (((w.alloc (.cells (madeCells #[.int .u64 0] nw) 32)).alloc (.cells (madeCells #[.slice none 0 0] n) 40)).alloc (.cells (vcells sv (w.heap.size + 1) w.heap.size n nw (-1)) 48)).drew := by
  have s1 : (w.alloc (.cells (madeCells #[.int .u64 0] nw) 32)).heap.size = w.heap.size + 1 := by simp
  have s2 : ((w.alloc (.cells (madeCells #[.int .u64 0] nw) 32)).alloc (.cells (madeCells #[.slice none 0 0] n) 40)).heap.size = w.heap.size + 1 + 1 := by simp
  refine ⟨?_, ?_, ?_, ?_, ⟨by omega, by simp⟩, ⟨by omega, by simp; omega⟩, ⟨by omega, by simp⟩, by omega, by omega, by omega⟩
  · rw [← s2]; exact heap_alloc_new _ _
  · have := (World.rowIs_made (w.alloc (.cells (madeCells #[.int .u64 0] nw) 32)) (.slice none 0 0) n 40).alloc (.cells (vcells sv (w.heap.size + 1) w.heap.size n nw (-1)) 48)
    rw [s1] at this
    exact this
  · exact ((World.rowIs_made w _ nw 32).alloc _).alloc _
  · exact ((((Below.refl _ _).alloc (Nat.le_refl _) _).alloc (by simp) _).alloc (by simp; omega) _).drew
theorem nv_start {w w0 w1 : World} {rs : List Rc} {sv : Value} {n nw OF WR V : Nat} {R : Value → Value → Prop} (h : NV0 w sv n nw OF WR V w0) (hm : WrOk rs w0.heap.size R w1) (hb : Below w0.heap.size w0 w1) : NV w rs sv n nw OF WR V w0.heap.size R 0 w1 := by
  refine ⟨?_, ⟨_, h.of.of_block (hb.block _ h.hOF.2), fun i r _ => ⟨fun hi => absurd hi (by omega), fun _ => rfl⟩⟩, ?_, hm, h.bel.trans (hb.mono h.bel.size), h.hOF, h.hWR, h.hV, h.ne⟩
  · rw [hb.block _ h.hV.2]; exact h.st
  · exact h.wt.of_block (hb.block _ h.hWR.2)

/-! Bits. -/
theorem word_lt (rs : List Rc) : ∀ a j, word rs a j < 2 ^ 64
  | 0, _ => by simp [word]
  | a + 1, j => by
    have ih := word_lt rs a j
    by_cases c : a / 64 = j ∧ (match rs[a]? with | some r => decide (r.kind = 0) | none => false) = true
    · rw [word, if_pos c]
      exact Nat.or_lt_two_pow ih (Nat.pow_lt_pow_right (a := 2) (by omega) (Nat.mod_lt _ (by omega)))
    · rw [word, if_neg c]
      exact ih
theorem or_word {W t : Nat} (hW : W < 2 ^ 64) (ht : t < 64) : bits .or .u64 (W : Int) (IntKind.u64.wrap (2 ^ t)) = ((W ||| 2 ^ t : Nat) : Int) := by
  have h2 : (2 : Nat) ^ t < 2 ^ 64 := Nat.pow_lt_pow_right (by omega) ht
  have e64 : (2 : Nat) ^ 64 = 18446744073709551616 := by decide
  have e : IntKind.u64.wrap (2 ^ t) = ((2 ^ t : Nat) : Int) := by
    have h3 : ((2 : Int) ^ t) = ((2 ^ t : Nat) : Int) := by simp
    rw [IntKind.wrap_u64, h3]
    clear h3
    generalize (2 : Nat) ^ t = q at *
    omega
  rw [e, u64_or_nat W (2 ^ t) (by omega) (by omega)]
theorem WrOk.drew {rs : List Rc} {M : Nat} {R : Value → Value → Prop} {wr : World} (h : WrOk rs M R wr) : WrOk rs M R wr.drew :=
  ⟨h.map.of_block rfl, fun x v hv => by obtain ⟨o, s, h1, h2, h3⟩ := h.own x v hv; exact ⟨o, s, h1, h2, h3.drew⟩, h.has, h.apart⟩
theorem WrOk.setCell {rs : List Rc} {M : Nat} {R : Value → Value → Prop} {wr : World} (h : WrOk rs M R wr) {p : Addr} (hp : p.block < M) (u : Value) : WrOk rs M R (wr.setCell p u) :=
  ⟨h.map.of_block (Below.heap_setCell _ _ _ _ (by omega)), fun x v hv => by obtain ⟨o, s, h1, h2, h3⟩ := h.own x v hv; exact ⟨o, s, h1, h2, ownsRow_setCell_below h3 (by omega) u⟩, h.has, h.apart⟩
theorem NV.alloc {w wr : World} {rs : List Rc} {sv : Value} {n nw OF WR V M a : Nat} {R : Value → Value → Prop} (N : NV w rs sv n nw OF WR V M R a wr) (ob : Obj) : NV w rs sv n nw OF WR V M R a (wr.alloc ob).drew := by
  obtain ⟨f, f1, f2⟩ := N.of
  refine ⟨?_, ⟨f, f1.alloc ob, f2⟩, N.wt.alloc ob, (N.map.alloc ob).drew, (N.bel.alloc N.bel.size ob).drew, N.hOF, N.hWR, N.hV, N.ne⟩
  show (wr.alloc ob).heap[V]? = _
  rw [Below.heap_alloc _ _ _ (Array.getElem?_eq_some_iff.1 N.st).1]; exact N.st
theorem nv_write {w wr : World} {rs : List Rc} {sv : Value} {n nw OF WR V M k : Nat} {R : Value → Value → Prop} {r : Rc} (N : NV w rs sv n nw OF WR V M R k wr) (hr : rs[k]? = some r) (hk : r.kind = 0) :
    NV w rs sv n nw OF WR V M R (k + 1) (wr.setCell ⟨WR, k / 64, none⟩ (.int .u64 (bits .or .u64 (word rs k (k / 64) : Nat) (IntKind.u64.wrap (2 ^ (k % 64)))))) := by
  obtain ⟨f, f1, f2⟩ := N.of
  obtain ⟨n1, n2, n3⟩ := N.ne
  have hV := N.hV
  have hWR := N.hWR
  refine ⟨?_, ⟨f, f1.setOther (a := ⟨WR, k / 64, none⟩) (by show OF ≠ WR; omega) _, fun i r' hr' => ⟨fun hi => ?_, fun hi => (f2 i r' hr').2 (by omega)⟩⟩, ?_, N.map.setCell (p := ⟨WR, k / 64, none⟩) (by show WR < M; omega) _, N.bel.setCell (p := ⟨WR, k / 64, none⟩) (by show w.heap.size ≤ WR; omega) _, N.hOF, N.hWR, N.hV, N.ne⟩
  · rw [Below.heap_setCell _ _ _ _ (by show V ≠ WR; omega), N.st, amb_write hr hk]
  · by_cases e : i = k
    · subst e
      rw [hr] at hr'
      cases hr'
      rw [OfOk, if_pos hk]
      exact (f2 i r hr).2 (Nat.le_refl _)
    · exact (f2 i r' hr').1 (by omega)
  · refine (N.wt.set (k / 64) _).congr fun j _ => ?_
    rw [or_word (word_lt rs k _) (by omega), word]
    by_cases e : j = k / 64
    · subst e
      rw [if_pos rfl, if_pos ⟨rfl, by rw [hr]; simp [hk]⟩]
    · rw [if_neg e, if_neg (fun h => e h.1.symm)]
theorem nv_read {w wr : World} {rs : List Rc} {sv v : Value} {n nw OF WR V M k : Nat} {R : Value → Value → Prop} {r : Rc} (N : NV w rs sv n nw OF WR V M R k wr) (hr : rs[k]? = some r) (hk : ¬ r.kind = 0)
    (hv : R (kv r.obj r.val) v ∨ ((∀ x, ¬ R (kv r.obj r.val) x) ∧ v = .slice none 0 0)) (ham : amb rs (k + 1) = amb rs k) :
    NV w rs sv n nw OF WR V M R (k + 1) (wr.setCell ⟨OF, k, none⟩ v) := by
  obtain ⟨f, f1, f2⟩ := N.of
  obtain ⟨n1, n2, n3⟩ := N.ne
  have hV := N.hV
  have hOF := N.hOF
  refine ⟨?_, ⟨_, f1.set k v, fun i r' hr' => ⟨fun hi => ?_, fun hi => ?_⟩⟩, (N.wt.setOther (a := ⟨OF, k, none⟩) (by show WR ≠ OF; omega) _).congr fun j _ => ?_, N.map.setCell (p := ⟨OF, k, none⟩) (by show OF < M; omega) _, N.bel.setCell (p := ⟨OF, k, none⟩) (by show w.heap.size ≤ OF; omega) _, N.hOF, N.hWR, N.hV, N.ne⟩
  · rw [Below.heap_setCell _ _ _ _ (by show V ≠ OF; omega), N.st, ham]
  · by_cases e : i = k
    · subst e
      rw [hr] at hr'
      cases hr'
      rw [OfOk, if_neg hk, if_pos rfl]
      exact hv
    · rw [if_neg e]
      exact (f2 i r' hr').1 (by omega)
  · rw [if_neg (by omega)]
    exact (f2 i r' hr').2 (by omega)
  · rw [word, if_neg]
    rintro ⟨_, h⟩
    rw [hr] at h
    simp [hk] at h
theorem nv_amb {w wr : World} {rs : List Rc} {sv v : Value} {n nw OF WR V M k : Nat} {R : Value → Value → Prop} {r : Rc} (N : NV w rs sv n nw OF WR V M R k wr) (hr : rs[k]? = some r) (hk : ¬ r.kind = 0)
    (hv : R (kv r.obj r.val) v ∨ ((∀ x, ¬ R (kv r.obj r.val) x) ∧ v = .slice none 0 0)) (ham : amb rs (k + 1) = (k : Nat)) :
    NV w rs sv n nw OF WR V M R (k + 1) ((wr.setCell ⟨OF, k, none⟩ v).setCell ⟨V, 2, none⟩ (.int .i64 (k : Nat))) := by
  obtain ⟨f, f1, f2⟩ := N.of
  obtain ⟨n1, n2, n3⟩ := N.ne
  have hV := N.hV
  have hOF := N.hOF
  refine ⟨?_, ⟨_, (f1.set k v).setOther (a := ⟨V, 2, none⟩) (by show OF ≠ V; omega) _, fun i r' hr' => ⟨fun hi => ?_, fun hi => ?_⟩⟩, ((N.wt.setOther (a := ⟨OF, k, none⟩) (by show WR ≠ OF; omega) _).setOther (a := ⟨V, 2, none⟩) (by show WR ≠ V; omega) _).congr fun j _ => ?_, (N.map.setCell (p := ⟨OF, k, none⟩) (by show OF < M; omega) _).setCell (p := ⟨V, 2, none⟩) (by show V < M; omega) _, (N.bel.setCell (p := ⟨OF, k, none⟩) (by show w.heap.size ≤ OF; omega) _).setCell (p := ⟨V, 2, none⟩) (by show w.heap.size ≤ V; omega) _, N.hOF, N.hWR, N.hV, N.ne⟩
  · have h1 : (wr.setCell ⟨OF, k, none⟩ v).heap[V]? = some (.cells (vcells sv OF WR n nw (amb rs k)) 48 (0, 0)) := by rw [Below.heap_setCell _ _ _ _ (by show V ≠ OF; omega), N.st]
    rw [heap_setCell_same _ V 2 _ 48 _ h1, ham]
    rfl
  · by_cases e : i = k
    · subst e
      rw [hr] at hr'
      cases hr'
      rw [OfOk, if_neg hk, if_pos rfl]
      exact hv
    · rw [if_neg e]
      exact (f2 i r' hr').1 (by omega)
  · rw [if_neg (by omega)]
    exact (f2 i r' hr').2 (by omega)
  · rw [word, if_neg]
    rintro ⟨_, h⟩
    rw [hr] at h
    simp [hk] at h
theorem row_bel {w w' : World} {b off : Nat} {rs : List Rc} (h : RowAt w b off rs) (hb : Below w.heap.size w w') : RowAt w' b off rs := fun i r hi j v hj => by
  have h1 := h i r hi j v hj
  rw [hb.cell (p := ⟨b, _, none⟩) (block_lt_of_cell h1)]
  exact h1

theorem stored_other {wr : World} {OF k : Nat} {v x : Value} {ob : Obj} {p : Addr} (h : wr.cell? p = some x) (hne : ¬ p.block = OF) : ((wr.setCell ⟨OF, k, none⟩ v).alloc ob).drew.cell? p = some x := by
  have h1 : (wr.setCell ⟨OF, k, none⟩ v).cell? p = some x := by
    rw [World.cell?_of_block (w := wr) (Below.heap_setCell _ _ _ _ hne)]; exact h
  rw [World.cell?_drew, World.cell?_alloc_lt _ _ _ (block_lt_of_cell h1)]; exact h1
theorem stored_same {wr : World} {OF k : Nat} {v x : Value} {ob : Obj} (h : wr.cell? ⟨OF, k, none⟩ = some x) : ((wr.setCell ⟨OF, k, none⟩ v).alloc ob).drew.cell? ⟨OF, k, none⟩ = some v := by
  have h1 : (wr.setCell ⟨OF, k, none⟩ v).cell? ⟨OF, k, none⟩ = some v := World.cell?_setCell_same _ _ _ h
  rw [World.cell?_drew, World.cell?_alloc_lt _ _ _ (block_lt_of_cell h1)]; exact h1
/-- What the look-up at a read gives. -/
theorem look_of {rs : List Rc} {M : Nat} {R : Value → Value → Prop} {wr : World} (h : WrOk rs M R wr) {o s : ByteArray} {kl : Lit} (hkey : keyOf Try.prog 54 (kv o s) = some kl) :
    ∃ (va : Option Addr) (vl vc : Nat), Hid (R (kv o s) (.slice va vl vc) ∨ ((∀ x, ¬ R (kv o s) x) ∧ Value.slice va vl vc = .slice none 0 0)) ∧ Hid (vl = (idxs rs o s).length) ∧
      ∀ W : World, W.heap[M]? = wr.heap[M]? → (Instr.lookup 51 (.map (some M)) (kv o s) false).run Try.prog W = .ok (.slice va vl vc) W := by
  by_cases hx : ∃ v, R (kv o s) v
  · obtain ⟨v, hv⟩ := hx
    obtain ⟨o', s', h1, h2, h3⟩ := h.own _ _ hv
    obtain ⟨rfl, rfl⟩ := kv_inj h1
    rcases h3.2 with ⟨rfl, h4⟩ | ⟨g, cap, cur, rfl, _⟩
    · exact absurd (List.length_eq_zero_iff.1 h4) h2
    · exact ⟨_, _, _, .inl hv, rfl, fun W hW => (h.map.of_block hW).look_hit law54 Try.underlying51 hkey hv false⟩
  · have hx' : ∀ v, ¬ R (kv o s) v := fun v hv => hx ⟨v, hv⟩
    refine ⟨none, 0, 0, .inr ⟨hx', rfl⟩, ?_, fun W hW => (h.map.of_block hW).look_miss law54 Try.underlying51 hkey hx' (zero40 W) false⟩
    have : idxs rs o s = [] := Classical.byContradiction fun hne => hx (h.has o s hne)
    show 0 = _
    rw [this]; rfl
theorem sev_ways {rs : List Rc} {r : Rc} {vl : Nat} (h : vl = (idxs rs r.obj r.val).length) : sevB vl r.val = decide (1 < ways rs r) := by
  rw [sevB, ways, h]

set_option maxRecDepth 20000 in
set_option maxHeartbeats 4000000 in
theorem nvw_any (a : Option Addr) (b off n c nw : Nat) (rs : List Rc) (w : World) (ha : Hid (0 < n → a = some ⟨b, off, none⟩)) (hn : Hid (n = rs.length)) (hs : n ≤ 6898) (hnw : Hid (nw = (n + 63) / 64)) (hc : RowAt w b off rs) (hb : Hid (0 < n → b < w.heap.size)) (hok : ∀ r ∈ rs, r.ok) :
    Calls Try.prog 15 #[.slice a n c] w fun e w' => ∃ OF WR V M R, e = .returned (.pointer (some ⟨V, 0, none⟩)) ∧ NV w rs (.slice a n c) n nw OF WR V M R n w' := by
  have hmk1 := fun w => run_make_row' (P := Try.prog) 35 40 (.slice none 0 0) 24 Try.underlying35 Try.info40 rfl .i64 .i64 n (by omega) (by omega) w
  have hmk2 := fun w => run_make_row' (P := Try.prog) 36 32 (.int .u64 0) 8 Try.underlying36 Try.info32 rfl .i64 .i64 nw (by have := hnw.out; omega) (by have := hnw.out; omega) w
  have hnw2 : ((nw : Nat) : Int) = ((n : Int) + 63) / 64 := by have := hnw.out; omega
  rw [hnw2] at hmk2
  clear hnw2
  go_enter Try.func15, Try.ntmps15
  go_wp2
  go_cut [3] (fun v wr => ∃ OF WR V, v = .pointer (some ⟨V, 0, none⟩) ∧ NV0 w (.slice a n c) n nw OF WR V wr)
  case first =>
    go_region
    · go_wp2_with fail
      go_meet
      case rel => exact ⟨_, _, _, rfl, nv0_one w _ n nw⟩
    · go_wp2_with fail
      go_meet
      case rel => exact ⟨_, _, _, rfl, nv0_two w _ n nw⟩
  case rest =>
    obtain ⟨OF, WR, V, rfl, h0⟩ := hcut
    clear hmk1 hmk2
    have hc2 := row_bel hc h0.bel
    have hb2 : Hid (0 < n → b < wc.heap.size) := fun h => Nat.lt_of_lt_of_le (hb.out h) h0.bel.size
    go_wp2_with (go_at_call 16; refine (writers_any a b off n c rs _ ha hn hs hc2 hb2 hok).mono ?_; rintro e w1 ⟨R, rfl, hW, hbel⟩)
    have N0 := nv_start h0 hW hbel
    clear h0 hW hbel hc2 hb2
    generalize wc.heap.size = M at N0 ⊢
    go_loopw [22] (fun i wr => ∃ k : Nat, k ≤ n ∧ i = .int .i64 k ∧ NV w rs (.slice a n c) n nw OF WR V M R k wr) (fun i _ => n - (intOf i).toNat)
    case atStart => exact ⟨0, Nat.zero_le _, rfl, N0⟩
    case round =>
      clear N0
      obtain ⟨k, hk, rfl, N⟩ := hrel
      by_cases hlt : k < n
      · obtain rfl := ha.out (by omega)
        have hb' := hb.out (by omega)
        obtain ⟨r, hmem, hr, hcr⟩ := hc.get (k := k) (by rw [← hn.out]; exact hlt)
        have hHr : Hid (rs[k]? = some r) := hr
        have hcr' : wr.rangeAt b (off + k * 14) r.cells := fun j v hj => by rw [N.bel.cell (p := ⟨b, _, none⟩) hb']; exact hcr j v hj
        have ho1 : r.obj.size ≤ maxLen := (hok r hmem).obj
        have ho2 : r.val.size ≤ maxLen := (hok r hmem).val
        obtain ⟨kl, hkey⟩ := key54 r.obj r.val ho1 ho2
        clear hcr hr hc hmem hok ho1 ho2
        have v0 : wr.cell? ⟨V, 0, none⟩ = some (.slice (some ⟨b, off, none⟩) n c) := by rw [cell_of_row _ _ _ _ _ _ N.st]; rfl
        have v1 : wr.cell? ⟨V, 1, none⟩ = some (.slice (some ⟨OF, 0, none⟩) n n) := by rw [cell_of_row _ _ _ _ _ _ N.st]; rfl
        have v2 : wr.cell? ⟨V, 2, none⟩ = some (.int .i64 (amb rs k)) := by rw [cell_of_row _ _ _ _ _ _ N.st]; rfl
        have v3 : wr.cell? ⟨V, 3, none⟩ = some (.slice (some ⟨WR, 0, none⟩) nw nw) := by rw [cell_of_row _ _ _ _ _ _ N.st]; rfl
        have hVlt : V < wr.heap.size := (Array.getElem?_eq_some_iff.1 N.st).1
        by_cases hkd : r.kind = 0
        · have hkb : (r.kind == 0) = true := by simpa using hkd
          have HK : Hid (r.kind = 0) := hkd
          have hkw : k / 64 < nw := by have := hnw.out; omega
          have hkw2 : (k : Int) / 64 < (nw : Int) := by omega
          have x1 : wr.cell? ⟨WR, k / 64, none⟩ = some (.int .u64 (word rs k (k / 64) : Nat)) := N.wt.cell hkw
          have x2 : wr.frozen? ⟨WR, k / 64, none⟩ = false := N.wt.frozen _
          have hWlt : WR < wr.heap.size := N.wt.lt
          have HN : Hid (NV w rs (.slice (some ⟨b, off, none⟩) n c) n nw OF WR V M R k wr) := N
          clear N hkd
          go_wp2_with (with_reducible refine here_load 34 _ rfl ?_; refine wpList_load_rc rfl 34 _ rfl b (off + k * 14) rfl r _ hcr' Try.underlying34 rfl Try.size34' ?_)
          go_region
          go_wp2
          go_roundw
          case rel => exact ⟨k + 1, by omega, by go_num, (nv_write HN.out hHr.out HK.out).alloc _⟩
          case measure => simp [intOf]; omega
        · have hkb : (r.kind == 0) = false := by simpa using hkd
          have HK : Hid (¬ r.kind = 0) := hkd
          obtain ⟨va, vl, vc, hv, hvl, hlook0⟩ := look_of N.map hkey
          have hlook := hlook0 (wr.alloc (.cells r.arr 34)).drew (Below.heap_alloc wr _ _ N.map.map.lt)
          have hvn : vl ≤ 6898 := by
            have h1 := hvl.out
            have h2 := idxs_len rs r.obj r.val
            rw [← h1, ← hn.out] at h2
            omega
          obtain ⟨f, f1, _⟩ := N.of
          have x1 : wr.cell? ⟨OF, k, none⟩ = some (f k) := f1.cell hlt
          have x2 : wr.frozen? ⟨OF, k, none⟩ = false := f1.frozen _
          have hOlt : OF < wr.heap.size := f1.lt
          have y5 := (cells_fields hcr').2.2.2.2.2
          have hOV : ¬ OF = V := by have := N.ne; omega
          have hVO : ¬ V = OF := by have := N.ne; omega
          have hM : M < wr.heap.size := N.map.map.lt
          have hg1 := amb_ge rs k
          have hg2 := amb_lt rs k
          have hbO : ¬ b = OF := by have := N.hOF; omega
          have vf : wr.frozen? ⟨V, 2, none⟩ = false := frozen_of_row _ _ _ _ _ N.st
          have HN : Hid (NV w rs (.slice (some ⟨b, off, none⟩) n c) n nw OF WR V M R k wr) := N
          clear N hkd hlook0 f1
          go_wp2_with (with_reducible refine here_load 34 _ rfl ?_; refine wpList_load_rc rfl 34 _ rfl b (off + k * 14) rfl r _ hcr' Try.underlying34 rfl Try.size34' ?_)
          go_region
          have d1 : ((wr.setCell ⟨OF, k, none⟩ (.slice va vl vc)).alloc (.cells r.arr 34)).drew.cell? ⟨V, 1, none⟩ = _ := stored_other v1 hVO
          have d0 : ((wr.setCell ⟨OF, k, none⟩ (.slice va vl vc)).alloc (.cells r.arr 34)).drew.cell? ⟨V, 0, none⟩ = _ := stored_other v0 hVO
          have d2 : ((wr.setCell ⟨OF, k, none⟩ (.slice va vl vc)).alloc (.cells r.arr 34)).drew.cell? ⟨OF, k, none⟩ = _ := stored_same x1
          have d5 : ((wr.setCell ⟨OF, k, none⟩ (.slice va vl vc)).alloc (.cells r.arr 34)).drew.cell? ⟨b, off + k * 14 + 5, none⟩ = _ := stored_other y5 hbO
          have D0 : Hid _ := d0
          have D1 : Hid _ := d1
          have D2 : Hid _ := d2
          have D5 : Hid _ := d5
          clear d0 d1 d2 d5 hlook
          by_cases hA : amb rs k < 0
          · by_cases hS : sevB vl r.val = true
            · go_wp2_with (go_at_call 17; refine (several_any V OF b off n c n k vl vc va r.val _ hlt hvn D1.out D2.out D0.out D5.out).mono ?_; rintro e w' ⟨rfl, hw⟩; obtain rfl := hw)
              go_roundw
              case rel => exact ⟨k + 1, by omega, by go_num, (nv_amb HN.out hHr.out HK.out hv.out (amb_read hHr.out HK.out hA (by have := sev_ways hvl.out; rw [hS] at this; simpa using this.symm))).alloc _⟩
              case measure => simp [intOf]; omega
            · have hS' : sevB vl r.val = false := by simpa using hS
              clear hS
              go_wp2_with (go_at_call 17; refine (several_any V OF b off n c n k vl vc va r.val _ hlt hvn D1.out D2.out D0.out D5.out).mono ?_; rintro e w' ⟨rfl, hw⟩; obtain rfl := hw)
              go_roundw
              case rel => exact ⟨k + 1, by omega, by go_num, (nv_read HN.out hHr.out HK.out hv.out (amb_keep hHr.out (.inr (by have := sev_ways hvl.out; rw [hS'] at this; simpa using this.symm)))).alloc _⟩
              case measure => simp [intOf]; omega
          · go_wp2
            go_roundw
            case rel => exact ⟨k + 1, by omega, by go_num, (nv_read HN.out hHr.out HK.out hv.out (amb_keep hHr.out (.inl (by omega)))).alloc _⟩
            case measure => simp [intOf]; omega
      · obtain rfl : k = n := by omega
        clear hc hok
        go_wp2
        go_ret
        exact ⟨OF, WR, V, M, R, rfl, N⟩
end Go.Proofs.Qxb6604280a
