import Derived.WalkKit
import Derived.Maps.OwnOps
import Derived.WideKeyEntry
import Derived.DeepKeys4
namespace Go.Proofs.Qxb6604280a
open Go.RowKit Go.MapKept Go.ChangeMaps Go.WideMaps

/-- Block M alone has turned between w and w'. -/
structure Only (M : Nat) (w w' : World) : Prop where
  os : w'.os = w.os
  tape : w'.tape = w.tape
  output : w'.output = w.output
  size : w'.heap.size = w.heap.size
  block : ∀ k, k ≠ M → w'.heap[k]? = w.heap[k]?
theorem Only.below {B M : Nat} {a w w' : World} (h : Below B a w) (o : Only M w w') (hB : B ≤ M) : Below B a w' :=
  h.trans ⟨o.os, o.tape, o.output, by rw [o.size]; exact Nat.le_refl _, fun k hk => o.block k (by omega)⟩
theorem only_setBlock {w : World} {M : Nat} {es es' : Array MapEntry} {c c' : Nat} (hb : w.heap[M]? = some (.map es c)) : Only M w (setBlock w M (.map es' c')) :=
  ⟨rfl, rfl, rfl, by simp [setBlock], fun k hk => heap_setBlock_other hb _ hk⟩

/-- Block M is a map; R x v: the value v stands at the key x. -/
def MapOk (P : Program) (k : TypeId) (w : World) (M : Nat) (R : Value → Value → Prop) : Prop :=
  ∃ es clock, w.heap[M]? = some (.map es clock) ∧ Stamped es clock ∧ (∀ e ∈ es.toList, ∃ l, keyOf P k e.key = some l) ∧
    (∀ e ∈ es.toList, R e.key e.val) ∧ ∀ x v, R x v → ∃ e ∈ es.toList, e.key = x ∧ e.val = v
/-- The map with v at the key x. -/
def upd (R : Value → Value → Prop) (x v : Value) : Value → Value → Prop := fun x' v' => (x' = x ∧ v' = v) ∨ (x' ≠ x ∧ R x' v')

theorem MapOk.of_block {P : Program} {k : TypeId} {w w' : World} {M : Nat} {R : Value → Value → Prop} (h : MapOk P k w M R) (hb : w'.heap[M]? = w.heap[M]?) : MapOk P k w' M R := by
  obtain ⟨es, c, h1, r⟩ := h
  exact ⟨es, c, by rw [hb]; exact h1, r⟩
theorem MapOk.lt {P : Program} {k : TypeId} {w : World} {M : Nat} {R : Value → Value → Prop} (h : MapOk P k w M R) : M < w.heap.size := by
  obtain ⟨es, c, h1, _⟩ := h
  exact (Array.getElem?_eq_some_iff.1 h1).1
theorem MapOk.congr {P : Program} {k : TypeId} {w : World} {M : Nat} {R R' : Value → Value → Prop} (h : MapOk P k w M R) (e : ∀ x v, R x v ↔ R' x v) : MapOk P k w M R' := by
  obtain ⟨es, c, h1, h2, h3, h4, h5⟩ := h
  exact ⟨es, c, h1, h2, h3, fun x hx => (e _ _).1 (h4 x hx), fun x v hv => h5 x v ((e _ _).2 hv)⟩
theorem mapOk_made (w : World) (P : Program) (k : TypeId) : MapOk P k (w.alloc (.map #[] 0)) w.heap.size (fun _ _ => False) :=
  ⟨#[], 0, (MapKept.heap_alloc w _).1, stamped_empty 0, by simp, by simp, by simp⟩

theorem eq_of_key : ∀ {l : List MapEntry}, (l.map (·.key)).Nodup → ∀ {a b : MapEntry}, a ∈ l → b ∈ l → a.key = b.key → a = b
  | [], _, _, _, ha, _, _ => by simp at ha
  | x :: l, hn, a, b, ha, hb, e => by
    simp only [List.map_cons, List.nodup_cons] at hn
    rcases List.mem_cons.1 ha with rfl | ha' <;> rcases List.mem_cons.1 hb with rfl | hb'
    · rfl
    · exact absurd (List.mem_map.2 ⟨b, hb', e.symm⟩) hn.1
    · exact absurd (List.mem_map.2 ⟨a, ha', e⟩) hn.1
    · exact eq_of_key hn.2 ha' hb' e
/-- What the entries are behind a change of the value at place j. -/
theorem mem_modify {es : Array MapEntry} {j : Nat} {f : MapEntry → MapEntry} {x : MapEntry} (h : x ∈ (es.modify j f).toList) : (∃ e0, es.toList[j]? = some e0 ∧ x = f e0) ∨ ∃ i, i ≠ j ∧ es.toList[i]? = some x := by
  obtain ⟨i, hi⟩ := List.mem_iff_getElem?.1 h
  rw [Array.getElem?_toList, Array.getElem?_modify] at hi
  by_cases e : j = i
  · subst e
    rw [if_pos rfl] at hi
    cases he : es[j]? with
    | none => rw [he] at hi; simp at hi
    | some e0 => rw [he] at hi; simp at hi; exact .inl ⟨e0, by rw [Array.getElem?_toList]; exact he, hi.symm⟩
  · rw [if_neg e] at hi
    exact .inr ⟨i, fun q => e q.symm, by rw [Array.getElem?_toList]; exact hi⟩
theorem modify_mem {es : Array MapEntry} {j : Nat} {f : MapEntry → MapEntry} {e0 : MapEntry} (h : es.toList[j]? = some e0) : f e0 ∈ (es.modify j f).toList := by
  refine List.mem_iff_getElem?.2 ⟨j, ?_⟩
  rw [Array.getElem?_toList] at h ⊢
  rw [Array.getElem?_modify, if_pos rfl, h]; rfl
theorem modify_mem_other {es : Array MapEntry} {j i : Nat} {f : MapEntry → MapEntry} {e0 : MapEntry} (h : es.toList[i]? = some e0) (hij : i ≠ j) : e0 ∈ (es.modify j f).toList := by
  refine List.mem_iff_getElem?.2 ⟨i, ?_⟩
  rw [Array.getElem?_toList] at h ⊢
  rw [Array.getElem?_modify, if_neg (fun e => hij e.symm), h]

section
variable {P : Program} {k e t : TypeId} {w : World} {M : Nat} {R : Value → Value → Prop}

theorem MapOk.look_hit (h : MapOk P k w M R) (K : KeyLaw P k) (ht : P.underlying t = some (.map k e)) {x v : Value} {kl : Lit} (hkey : keyOf P k x = some kl) (hv : R x v) (c : Bool) :
    (Instr.lookup t (.map (some M)) x c).run P w = .ok (if c then .tuple #[v, .bool true] else v) w := by
  obtain ⟨es, clock, hb, hs, hk, hr, hr'⟩ := h
  obtain ⟨e0, he0, hk0, hv0⟩ := hr' x v hv
  rcases K.find w hkey es.toList hk with ⟨_, h2⟩ | ⟨j, e1, h1, h2, h3⟩
  · exact absurd hk0 (h2 e0 he0)
  · have : e1 = e0 := eq_of_key hs.2.2 (List.mem_of_getElem? h2) he0 (by rw [h3, hk0])
    subst this
    simp [Instr.lookup, run_underlying ht, MapKept.run_getObj_map hb, K.check w _ hkey, h1, Result.andThen, hv0]
theorem MapOk.look_miss (h : MapOk P k w M R) (K : KeyLaw P k) (ht : P.underlying t = some (.map k e)) {x z : Value} {kl : Lit} (hkey : keyOf P k x = some kl) (hv : ∀ v, ¬ R x v) (hz : (zeroValue e).run P w = .ok z w) (c : Bool) :
    (Instr.lookup t (.map (some M)) x c).run P w = .ok (if c then .tuple #[z, .bool false] else z) w := by
  obtain ⟨es, clock, hb, hs, hk, hr, hr'⟩ := h
  rcases K.find w hkey es.toList hk with ⟨h1, h2⟩ | ⟨j, e1, h1, h2, h3⟩
  · simp [Instr.lookup, run_underlying ht, MapKept.run_getObj_map hb, K.check w _ hkey, h1, Result.andThen, hz]
  · have := hr e1 (List.mem_of_getElem? h2)
    rw [h3] at this
    exact absurd this (hv _)
/-- A new key's entry pushed. -/
theorem mapOk_push {es : Array MapEntry} {clock : Nat} (hs : Stamped es clock) (hk : ∀ e ∈ es.toList, ∃ l, keyOf P k e.key = some l) (hr : ∀ e ∈ es.toList, R e.key e.val) (hr' : ∀ x v, R x v → ∃ e ∈ es.toList, e.key = x ∧ e.val = v)
    {x : Value} {kl : Lit} (hkey : keyOf P k x = some kl) (h2 : ∀ e ∈ es.toList, e.key ≠ x) (v : Value) {w' : World} (hb : w'.heap[M]? = some (.map (es.push ⟨x, v, clock⟩) (clock + 1))) : MapOk P k w' M (upd R x v) := by
  refine ⟨_, _, hb, stamped_push hs h2, fun e he => ?_, fun e he => ?_, fun x' v' h => ?_⟩
  · simp only [Array.toList_push, List.mem_append, List.mem_singleton] at he
    rcases he with he | rfl
    · exact hk e he
    · exact ⟨_, hkey⟩
  · simp only [Array.toList_push, List.mem_append, List.mem_singleton] at he
    rcases he with he | rfl
    · exact .inr ⟨h2 e he, hr e he⟩
    · exact .inl ⟨rfl, rfl⟩
  · rcases h with ⟨rfl, rfl⟩ | ⟨hne, h⟩
    · exact ⟨⟨x', v', clock⟩, by simp, rfl, rfl⟩
    · obtain ⟨e0, he0, r⟩ := hr' x' v' h
      exact ⟨e0, by simp [Array.mem_toList_iff.1 he0], r⟩
/-- The value at an entry's key changed. -/
theorem mapOk_modify {es : Array MapEntry} {clock : Nat} (hs : Stamped es clock) (hk : ∀ e ∈ es.toList, ∃ l, keyOf P k e.key = some l) (hr : ∀ e ∈ es.toList, R e.key e.val) (hr' : ∀ x v, R x v → ∃ e ∈ es.toList, e.key = x ∧ e.val = v)
    {x : Value} {j : Nat} {e1 : MapEntry} (h2 : es.toList[j]? = some e1) (h3 : e1.key = x) (v : Value) {w' : World} (hb : w'.heap[M]? = some (.map (es.modify j fun e' => { e' with key := x, val := v }) clock)) : MapOk P k w' M (upd R x v) := by
  have hj : es[j]? = some e1 := by rw [← Array.getElem?_toList]; exact h2
  refine ⟨_, _, hb, stamped_modify hs j _ (fun _ _ => rfl) (fun e _ h => by rw [hj] at h; cases h; exact h3.symm), fun e he => ?_, fun e he => ?_, fun x' v' h => ?_⟩
  · rcases mem_modify he with ⟨e0, h0, rfl⟩ | ⟨i, _, hi⟩
    · rw [h2] at h0; cases h0
      have := hk e1 (List.mem_of_getElem? h2)
      rw [h3] at this
      exact this
    · exact hk e (List.mem_of_getElem? hi)
  · rcases mem_modify he with ⟨e0, h0, rfl⟩ | ⟨i, hij, hi⟩
    · exact .inl ⟨rfl, rfl⟩
    · refine .inr ⟨fun q => hij ?_, hr e (List.mem_of_getElem? hi)⟩
      have h4 := hs.2.2
      have hi1 : i < es.toList.length := (List.getElem?_eq_some_iff.1 hi).1
      have hj1 : j < es.toList.length := (List.getElem?_eq_some_iff.1 h2).1
      have e1' : (es.toList.map (·.key))[i]? = some x := by rw [List.getElem?_map, hi]; simp [q]
      have e2' : (es.toList.map (·.key))[j]? = some x := by rw [List.getElem?_map, h2]; simp [h3]
      exact (List.getElem?_inj (by simpa using hi1) h4).1 (by rw [e1', e2'])
  · rcases h with ⟨rfl, rfl⟩ | ⟨hne, h⟩
    · exact ⟨_, modify_mem h2, rfl, rfl⟩
    · obtain ⟨e0, he0, hk0, hv0⟩ := hr' x' v' h
      obtain ⟨i, hi⟩ := List.mem_iff_getElem?.1 he0
      refine ⟨e0, modify_mem_other hi (fun q => hne ?_), hk0, hv0⟩
      subst q
      rw [h2] at hi
      cases hi
      rw [← hk0, h3]
theorem MapOk.update (h : MapOk P k w M R) (K : KeyLaw P k) (ht : P.underlying t = some (.map k e)) {x : Value} {kl : Lit} (hkey : keyOf P k x = some kl) (v : Value) :
    ∃ w', (Instr.mapUpdate t (.map (some M)) x v).run P w = .ok () w' ∧ MapOk P k w' M (upd R x v) ∧ Only M w w' := by
  obtain ⟨es, clock, hb, hs, hk, hr, hr'⟩ := h
  rcases K.find w hkey es.toList hk with ⟨h1, h2⟩ | ⟨j, e1, h1, h2, h3⟩
  · refine ⟨setBlock w M (.map (es.push ⟨x, v, clock⟩) (clock + 1)), ?_, mapOk_push hs hk hr hr' hkey h2 v (heap_setBlock_same hb _), only_setBlock hb⟩
    simp [Instr.mapUpdate, run_underlying ht, MapKept.run_getObj_map hb, K.check w false hkey, h1, MapKept.run_setObj_map _ hb, Result.andThen, setBlock]
  · have hj : es[j]? = some e1 := by simpa using h2
    refine ⟨setBlock w M (.map (es.modify j fun e' => { e' with key := x, val := v }) clock), ?_, mapOk_modify hs hk hr hr' h2 h3 v (heap_setBlock_same hb _), only_setBlock hb⟩
    simp [Instr.mapUpdate, run_underlying ht, MapKept.run_getObj_map hb, K.check w false hkey, h1, hj, h3, K.stays w hkey, MapKept.run_setObj_map _ hb, Result.andThen, setBlock]
/-- 'm[x] = .. m[x] ..': the entry first, its store later. -/
theorem MapOk.entry (h : MapOk P k w M R) (K : KeyLaw P k) (ht : P.underlying t = some (.map k e)) {z : Value} (hz : ∀ u : World, (zeroValue e).run P u = .ok z u) {x : Value} {kl : Lit} (hkey : keyOf P k x = some kl) :
    ∃ (v0 : Value) (st : Int) (w1 : World), (Instr.mapEntry t (.map (some M)) x).run P w = .ok (.tuple #[v0, .int .i64 st]) w1 ∧ Only M w w1 ∧ (R x v0 ∨ ((∀ v, ¬ R x v) ∧ v0 = z)) ∧
      ∀ (w2 : World) (val : Value), w2.heap[M]? = w1.heap[M]? → ∃ w3, (Instr.entryStore t (.map (some M)) (.int .i64 st) val).run P w2 = .ok () w3 ∧ MapOk P k w3 M (upd R x val) ∧ Only M w2 w3 := by
  obtain ⟨es, clock, hb, hs, hk, hr, hr'⟩ := h
  obtain ⟨s1, s2, s3⟩ := hs
  have hs : Stamped es clock := ⟨s1, s2, s3⟩
  rcases K.find w hkey es.toList hk with ⟨h1, h2⟩ | ⟨j, e1, h1, h2, h3⟩
  · refine ⟨z, clock, setBlock w M (.map (es.push ⟨x, z, clock⟩) (clock + 1)), ?_, only_setBlock hb, .inr ⟨fun v hv => ?_, rfl⟩, fun w2 val hw2 => ?_⟩
    · simp [Instr.mapEntry, run_underlying ht, MapKept.run_getObj_map hb, K.check w false hkey, h1, hz, MapKept.run_setObj_map _ hb, Result.andThen, setBlock, goInt]
    · obtain ⟨e0, he0, hk0, _⟩ := hr' x v hv
      exact h2 e0 he0 hk0
    · rw [heap_setBlock_same hb] at hw2
      have hidx : (es.push ⟨x, z, clock⟩).findIdx? (fun e => ((e.born : Nat) : Int) == ((clock : Nat) : Int)) = some es.size := by
        rw [WideElems.findIdx_arr]
        exact WideElems.findIdx_born (l := (es.push ⟨x, z, clock⟩).toList) (j := es.size) (e0 := ⟨x, z, clock⟩) ((stamped_push hs h2).2.1) (by simp)
      have hmod : (es.push ⟨x, z, clock⟩).modify es.size (fun e => { e with val := val }) = es.push ⟨x, val, clock⟩ := by
        apply Array.ext'
        rw [Array.toList_modify, Array.toList_push, Array.toList_push, ← Array.length_toList, WideElems.modify_last]
      refine ⟨setBlock w2 M (.map (es.push ⟨x, val, clock⟩) (clock + 1)), ?_, mapOk_push hs hk hr hr' hkey h2 val (heap_setBlock_same hw2 _), only_setBlock hw2⟩
      simp [Instr.entryStore, MapKept.run_getObj_map hw2, asInt, asIntOf, hidx, hmod, MapKept.run_setObj_map _ hw2, Result.andThen, setBlock]
  · have hj : es[j]? = some e1 := by simpa using h2
    have hsame : es.modify j (fun e => { e with key := x }) = es := by
      apply Array.ext'
      rw [Array.toList_modify, modify_eq_set _ _ _ _ h2]
      have : ({ e1 with key := x } : MapEntry) = e1 := by rw [← h3]
      rw [this]
      exact WideElems.set_self _ _ _ h2
    refine ⟨e1.val, e1.born, setBlock w M (.map es clock), ?_, only_setBlock hb, .inl ?_, fun w2 val hw2 => ?_⟩
    · simp [Instr.mapEntry, run_underlying ht, MapKept.run_getObj_map hb, K.check w false hkey, h1, hj, h3, K.stays w hkey, hsame, MapKept.run_setObj_map _ hb, Result.andThen, setBlock, goInt]
    · have := hr e1 (List.mem_of_getElem? h2)
      rwa [h3] at this
    · rw [heap_setBlock_same hb] at hw2
      have hidx : es.findIdx? (fun e => ((e.born : Nat) : Int) == ((e1.born : Nat) : Int)) = some j := by
        rw [WideElems.findIdx_arr]
        exact WideElems.findIdx_born s2 h2
      have hmod : es.modify j (fun e => { e with val := val }) = es.modify j (fun e' => { e' with key := x, val := val }) := by
        apply Array.ext'
        rw [Array.toList_modify, Array.toList_modify, modify_eq_set _ _ _ _ h2, modify_eq_set _ _ _ _ h2, ← h3]
      refine ⟨setBlock w2 M (.map (es.modify j fun e' => { e' with key := x, val := val }) clock), ?_, mapOk_modify hs hk hr hr' h2 h3 val (heap_setBlock_same hw2 _), only_setBlock hw2⟩
      simp [Instr.entryStore, MapKept.run_getObj_map hw2, asInt, asIntOf, hidx, hmod, MapKept.run_setObj_map _ hw2, Result.andThen, setBlock]

/-! At the operations. -/
section
variable {ops : Array Oper} {rest : List Oper} {o : Oper} {a : Act} {Q : Exit → Act → World → Prop}
theorem wpList_look_hit (w : World) (hg : o.guard = none) (m x : Operand) (t : TypeId) (hop : o.op = Op.lookup t m x true) (K : KeyLaw P k) (ht : P.underlying t = some (.map k e)) (M : Nat) (hm : a.eval m = .map (some M))
    (h : MapOk P k w M R) (key v : Value) (kl : Lit) (hx : a.eval x = key) (hkey : keyOf P k key = some kl) (hv : R key v)
    (hK : wpList P ops Q rest (a.put o.dst (.tuple #[v, .bool true])) w) : wpList P ops Q (o :: rest) a w := by
  refine wpList_plain hg fun K' hK' => ?_
  unfold Oper.wp
  simp [execOp, hop, hm, hx, h.look_hit K ht hkey hv true, Result.andThen]
  exact hK' _ _ hK
theorem wpList_look_miss (w : World) (hg : o.guard = none) (m x : Operand) (t : TypeId) (hop : o.op = Op.lookup t m x true) (K : KeyLaw P k) (ht : P.underlying t = some (.map k e)) (M : Nat) (hm : a.eval m = .map (some M))
    (h : MapOk P k w M R) (key z : Value) (kl : Lit) (hx : a.eval x = key) (hkey : keyOf P k key = some kl) (hv : ∀ v, ¬ R key v) (hz : (zeroValue e).run P w = .ok z w)
    (hK : wpList P ops Q rest (a.put o.dst (.tuple #[z, .bool false])) w) : wpList P ops Q (o :: rest) a w := by
  refine wpList_plain hg fun K' hK' => ?_
  unfold Oper.wp
  simp [execOp, hop, hm, hx, h.look_miss K ht hkey hv hz true, Result.andThen]
  exact hK' _ _ hK
theorem wpList_mupd (w : World) (hg : o.guard = none) (m x v : Operand) (t : TypeId) (hop : o.op = Op.mapUpdate t m x v) (K : KeyLaw P k) (ht : P.underlying t = some (.map k e)) (M : Nat) (hm : a.eval m = .map (some M))
    (h : MapOk P k w M R) (key val : Value) (kl : Lit) (hx : a.eval x = key) (hv : a.eval v = val) (hkey : keyOf P k key = some kl)
    (hK : ∀ w', MapOk P k w' M (upd R key val) → Only M w w' → wpList P ops Q rest (a.put o.dst undef) w') : wpList P ops Q (o :: rest) a w := by
  refine wpList_plain hg fun K' hK' => ?_
  obtain ⟨w', hrun, r1, r2⟩ := h.update K ht hkey val
  unfold Oper.wp
  simp [execOp, hop, hm, hx, hv, hrun, Result.andThen]
  exact hK' _ _ (hK w' r1 r2)
theorem wpList_mentry (w : World) (hg : o.guard = none) (m x : Operand) (t : TypeId) (hop : o.op = Op.mapEntry t m x) (K : KeyLaw P k) (ht : P.underlying t = some (.map k e)) (M : Nat) (hm : a.eval m = .map (some M))
    (h : MapOk P k w M R) (key z : Value) (kl : Lit) (hx : a.eval x = key) (hkey : keyOf P k key = some kl) (hz : ∀ u : World, (zeroValue e).run P u = .ok z u)
    (hK : ∀ v0 st w1, Only M w w1 → (R key v0 ∨ ((∀ v, ¬ R key v) ∧ v0 = z)) →
      (∀ (w2 : World) (val : Value), w2.heap[M]? = w1.heap[M]? → ∃ w3, (Instr.entryStore t (.map (some M)) (.int .i64 st) val).run P w2 = .ok () w3 ∧ MapOk P k w3 M (upd R key val) ∧ Only M w2 w3) →
      wpList P ops Q rest (a.put o.dst (.tuple #[v0, .int .i64 st])) w1) : wpList P ops Q (o :: rest) a w := by
  refine wpList_plain hg fun K' hK' => ?_
  obtain ⟨v0, st, w1, hrun, r1, r2, r3⟩ := h.entry K ht hz hkey
  unfold Oper.wp
  simp [execOp, hop, hm, hx, hrun, Result.andThen]
  exact hK' _ _ (hK v0 st w1 r1 r2 r3)
theorem wpList_estore (w : World) (hg : o.guard = none) (m s v : Operand) (t : TypeId) (hop : o.op = Op.entryStore t m s v) (M : Nat) (hm : a.eval m = .map (some M)) (st : Int) (hs : a.eval s = .int .i64 st) (val : Value) (hv : a.eval v = val)
    (w' : World) (hrun : (Instr.entryStore t (.map (some M)) (.int .i64 st) val).run P w = .ok () w')
    (hK : wpList P ops Q rest (a.put o.dst undef) w') : wpList P ops Q (o :: rest) a w := by
  refine wpList_plain hg fun K' hK' => ?_
  unfold Oper.wp
  simp [execOp, hop, hm, hs, hv, hrun, Result.andThen]
  exact hK' _ _ hK
/-- Guards: which operation comes next? -/
theorem here_entry (t : TypeId) (m x : Operand) (_ : o.op = Op.mapEntry t m x) (h : wpList P ops Q (o :: rest) a w) : wpList P ops Q (o :: rest) a w := h
theorem here_estore (t : TypeId) (m s v : Operand) (_ : o.op = Op.entryStore t m s v) (h : wpList P ops Q (o :: rest) a w) : wpList P ops Q (o :: rest) a w := h
end
end
end Go.Proofs.Qxb6604280a
