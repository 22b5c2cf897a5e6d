import Derived.Test.Qxb6604280aParts
namespace Go.Proofs.Qxb6604280a
open Go.RowKit
theorem below_setCells {B b : Nat} {a : World} (hb : B ≤ b) : ∀ (vs : List Value) (o : Nat) (w : World), Below B a w → Below B a (w.setCells b o vs)
  | [], _, _, h => h
  | v :: r, o, w, h => by rw [World.setCells]; exact below_setCells hb r (o + 1) _ (h.setCell (p := ⟨b, o, none⟩) hb v)
theorem size_setCells (b : Nat) : ∀ (vs : List Value) (o : Nat) (w : World), (w.setCells b o vs).heap.size = w.heap.size
  | [], _, _ => rfl
  | v :: r, o, w => by rw [World.setCells, size_setCells b r]; simp [World.setCell]
theorem there_sub {w : World} {g m : Nat} (h : w.there g 0 m) (o n : Nat) (hn : o + n ≤ m) : w.there g o n := fun j hj => by
  have := h (o + j) (by omega)
  simpa using this
theorem Rc.len (r : Rc) : r.cells.length = 14 := rfl
theorem rows_lt {k n : Nat} (h : k < n) : k * 14 + 14 ≤ n * 14 := by omega
theorem row_push {wr : World} {G k n : Nat} {rs : List Rc} {r : Rc} (hrow : RowAt wr G 0 (rs.take k)) (hth : wr.there G 0 (n * 14)) (hk : k < n) (hr : rs[k]? = some r) (ob : Obj) :
    RowAt ((wr.alloc ob).setCells G (k * 14) r.cells) G 0 (rs.take (k + 1)) ∧ ((wr.alloc ob).setCells G (k * 14) r.cells).there G 0 (n * 14) := by
  have hth2 := World.there_alloc hth ob
  refine ⟨fun i q hi => ?_, World.there_setCells hth2 _ _ _⟩
  have hil : i < k + 1 := by
    have := (List.getElem?_eq_some_iff.1 hi).1
    simp at this
    omega
  by_cases e : i = k
  · subst e
    rw [List.getElem?_take_of_lt (by omega), hr] at hi
    cases hi
    have := World.rangeAt_setCells_same (wr.alloc ob) G (i * 14) r.cells (there_sub hth2 _ _ (by rw [Rc.len]; omega))
    simpa using this
  · rw [List.getElem?_take_of_lt (by omega)] at hi
    have h1 := hrow i q (by rw [List.getElem?_take_of_lt (by omega)]; exact hi)
    refine World.rangeAt_setCells_apart (World.rangeAt_alloc h1 ob) _ _ _ (Or.inr (Or.inl ?_))
    rw [Rc.len]
    omega
/-! Two guards for the walk: is the next operation a load (a store) of this type? -/
theorem here_load {P : Program} {ops : Array Oper} {rest : List Oper} {op : Oper} {a : Act} {w : World} {Q : Exit → Act → World → Prop} (ty : TypeId) (x : Operand) (_ : op.op = .load ty x)
    (h : wpList P ops Q (op :: rest) a w) : wpList P ops Q (op :: rest) a w := h
theorem here_store {P : Program} {ops : Array Oper} {rest : List Oper} {op : Oper} {a : Act} {w : World} {Q : Exit → Act → World → Prop} (ty : TypeId) (x y : Operand) (_ : op.op = .store ty x y)
    (h : wpList P ops Q (op :: rest) a w) : wpList P ops Q (op :: rest) a w := h
/-! A record loaded and stored whole. -/
abbrev Rc.arr (r : Rc) : Array Value := #[.string r.ses, .string r.obj, .int .i64 r.kind, .string r.nm, .string r.arg, .string r.val, .int .i64 r.out, .int .i64 r.line, .int .i64 r.id, .int .i64 r.lev, .bool r.timed, .int .u64 r.st, .int .u64 r.en, .int .i64 r.tx]
theorem Rc.one (r : Rc) : r.arr.all (·.oneCell') = true := by simp [Rc.arr, Value.oneCell']
theorem wpList_load_rc {P : Program} {ops : Array Oper} {rest : List Oper} {op : Oper} {a : Act} {w : World} {Q : Exit → Act → World → Prop} (hgd : op.guard = none) (ty : TypeId) (x : Operand) (ho : op.op = .load ty x)
    (b o : Nat) (hx : a.eval x = .pointer (some ⟨b, o, none⟩)) (r : Rc) (d : TypeDesc) (hc : w.rangeAt b o r.cells)
    (hu : P.underlying ty = some d) (hd : d.isRow = true) (hi : (P.info? ty).map (·.size) = some 14)
    (h : wpList P ops Q rest (a.put op.dst (.agg r.arr)) w) : wpList P ops Q (op :: rest) a w :=
  wpList_load_mid hgd ty x ho b o hx r.cells d hc hu hd hi h
theorem wpList_store_rc {P : Program} {ops : Array Oper} {rest : List Oper} {op : Oper} {a : Act} {w : World} {Q : Exit → Act → World → Prop} (hgd : op.guard = none) (ty : TypeId) (x y : Operand) (ho : op.op = .store ty x y)
    (b o : Nat) (r : Rc) (hx : a.eval x = .pointer (some ⟨b, o, none⟩)) (hy : a.eval y = .agg r.arr)
    (ht : w.there b o 14) (hi : (P.info? ty).map (·.size) = some 14)
    (h : wpList P ops Q rest (a.put op.dst undef) (w.setCells b o r.cells)) : wpList P ops Q (op :: rest) a w :=
  wpList_store_mid hgd ty x y ho b o r.arr hx hy ht hi r.one h
end Go.Proofs.Qxb6604280a
