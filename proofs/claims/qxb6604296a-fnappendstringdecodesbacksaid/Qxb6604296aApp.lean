import Derived.Test.Qxb6604296aRows
import Derived.WalkKit
import Derived.WalkSpells
import Derived.WalkLawsBesides
import Derived.Below
import Derived.Deep.AppendSrc
namespace Go.Proofs.Qxb6604296a
open Go.RowKit

/-- append onto a row of the call's own, one cell an element, whatever is appended. -/
theorem run_append_src {P : Program} (w : World) (base : Nat) (t tx ty e : TypeId) (i : TypeInfo) (z : Value) (ht : P.underlying t = some (.slice e)) (hi : P.info? e = some i) (hz : i.zero = some z)
    (hsize : i.size = 1) (hby : i.bytes = 1) (hzs : z.cells.size = 1)
    (v : Value) (n : Nat) (xs : List Value) (hown : w.ownsRow base e 1 v n xs)
    (x : Value) (m : Nat) (news : List Value) (hs : Src P 1 tx x m news w) (hb : n + m ≤ 140737488355328) (hbase : base ≤ w.heap.size) (hne : v ≠ .slice none 0 0 ∨ 0 < m) :
    ∃ g cap w', (Builtin.append_ #[t, tx] ty #[v, x]).run P w = .ok (.slice (some ⟨g, 0, none⟩) (n + m) cap) w' ∧ w'.ownsRow base e 1 (.slice (some ⟨g, 0, none⟩) (n + m) cap) (n + m) (xs ++ news) ∧ w.grownBy w' v.ownBlock ∧ (v.ownBlock = some g ∨ w.heap.size ≤ g) := by
  have h63 : n + m ≤ maxLen := by simp only [maxLen]; omega
  have hl : news.length = m := by have := hs.newsLen; omega
  have hlen : (xs ++ news).length = (n + m) * 1 := by rw [List.length_append, hown.1, hl]; omega
  have hs' : Src P i.size tx x m news w := by rw [hsize]; exact hs
  have grown : ∀ (old : Nat), old < n + m → ∀ (row : Option Nat),
      (w.drew.alloc (.cells ((xs ++ news).toArray ++ Builtin.zeroCells z.cells (grownCap w (n + m) old e - (n + m))) e)).ownsRow base e 1
        (.slice (some ⟨w.heap.size, 0, none⟩) (n + m) (grownCap w (n + m) old e)) (n + m) (xs ++ news) ∧
      w.grownBy (w.drew.alloc (.cells ((xs ++ news).toArray ++ Builtin.zeroCells z.cells (grownCap w (n + m) old e - (n + m))) e)) row := by
    intro old ho row
    have hge := grownCap_ge w (n + m) old e
    have hcm : grownCap w (n + m) old e ≤ maxLen := grownCap_le_maxLen w (n + m) old e h63
    refine ⟨⟨hlen, .inr ⟨w.heap.size, _, _, rfl, hbase, heap_alloc_new w.drew _, hge, hcm, ?_, ?_⟩⟩, ⟨rfl, rfl, rfl, by simp, fun k hk _ => Below.heap_alloc w.drew _ k hk⟩⟩
    · simp only [Array.size_append, List.size_toArray, size_zeroCells, hzs, hlen]
      omega
    · simp only [Array.toList_append]
      rw [← hlen]
      exact List.take_left
  rcases hown.2 with ⟨rfl, rfl⟩ | ⟨g, cap, cur, rfl, hbg, hg, hnc, hcm, hcs, htake⟩
  · have hx : xs = [] := List.eq_nil_of_length_eq_zero (by simpa using hown.1)
    subst hx
    have hm : 0 < m := by simpa using hne
    have hr := run_append_grow_src (P := P) w t tx ty e i z ht hi hz none 0 0 [] (by rw [hsize]; exact run_firstCells_none w.drew 1 0 0 0) x m news hs' (by omega) (by simp only [maxLen] at h63; omega) (growslice_fits (by omega) (by rw [hby]; omega))
    have hgr := grown 0 (by omega) (Value.ownBlock (.slice none 0 0))
    exact ⟨_, _, _, hr, hgr.1, hgr.2, .inr (Nat.le_refl _)⟩
  · by_cases hroom : n + m ≤ cap
    · have hfit : n * 1 + news.length ≤ cur.size := by omega
      have hr : (Builtin.append_ #[t, tx] ty #[.slice (some ⟨g, 0, none⟩) n cap, x]).run P w =
          .ok (.slice (some ⟨g, 0, none⟩) (n + m) cap) (w.setRow g (cur.toList.take (n * 1) ++ news ++ cur.toList.drop (n * 1 + news.length)).toArray) := by
        have hst := run_storeCells_at P g (n * 1) e news 0 cur w hg (by simpa using hfit) hs.one
        simp only [Nat.add_zero, Nat.mul_one] at hst
        rcases hs.kind with ⟨e', hk⟩ | hk <;> simp [Builtin.append_, run_underlying ht, run_underlying hk, sizeOf, typeInfo, hi, hs.len, hroom, hs.cells, Addr.add_lit, hst, hsize]
      refine ⟨_, _, _, hr, ⟨hlen, .inr ⟨g, cap, _, rfl, hbg, setRow_heap w g cur _ e _ hg, hroom, hcm, ?_, ?_⟩⟩, ⟨rfl, rfl, rfl, by simp, fun k _ hk => setRow_other w g k _ (fun e => hk (by simp [Value.ownBlock, e]))⟩, .inl rfl⟩
      · simp only [List.size_toArray, List.length_append, List.length_take, List.length_drop, Array.length_toList]
        omega
      · rw [htake, ← hlen]
        exact List.take_left
    · have hcells : ∀ j u, xs[j]? = some u → w.cell? ((⟨g, 0, none⟩ : Addr).add j) = some u := hown.cells (g := g) rfl
      have hr := run_append_grow_src (P := P) w t tx ty e i z ht hi hz (some ⟨g, 0, none⟩) n cap xs (by rw [hsize]; exact run_firstCells_some w.drew 1 n _ n cap xs hown.1 (by simpa using hcells)) x m news hs' (by omega) (by simp only [maxLen] at h63; omega) (growslice_fits (by omega) (by rw [hby]; omega))
      have hgr := grown cap (by omega) (Value.ownBlock (.slice (some ⟨g, 0, none⟩) n cap))
      exact ⟨_, _, _, hr, hgr.1, hgr.2, .inr (Nat.le_refl _)⟩

theorem Try.info5 : (Try.prog.info? 5).map (fun i => (i.zero, i.size, i.bytes)) = some (some (.int .u8 0), 1, 1) := by kernel_rfl
theorem info_parts {P : Program} {e : TypeId} {z : Value} {s b : Nat} (h : (P.info? e).map (fun i => (i.zero, i.size, i.bytes)) = some (some z, s, b)) : ∃ i, P.info? e = some i ∧ i.zero = some z ∧ i.size = s ∧ i.bytes = b := by
  cases hi : P.info? e with
  | none => rw [hi] at h; cases h
  | some i =>
    rw [hi] at h
    simp at h
    exact ⟨i, rfl, h.1, h.2.1, h.2.2⟩

theorem run_app (w : World) (base : Nat) (tx ty : TypeId) (v : Value) (n : Nat) (xs : List Value) (hown : w.ownsRow base 5 1 v n xs)
    (x : Value) (m : Nat) (news : List Value) (hs : Src Try.prog 1 tx x m news w) (hb : n + m ≤ 140737488355328) (hbase : base ≤ w.heap.size) (hne : v ≠ .slice none 0 0 ∨ 0 < m) :
    ∃ g cap w', (Builtin.append_ #[22, tx] ty #[v, x]).run Try.prog w = .ok (.slice (some ⟨g, 0, none⟩) (n + m) cap) w' ∧ w'.ownsRow base 5 1 (.slice (some ⟨g, 0, none⟩) (n + m) cap) (n + m) (xs ++ news) ∧ w.grownBy w' v.ownBlock ∧ (v.ownBlock = some g ∨ w.heap.size ≤ g) := by
  obtain ⟨i, h1, h2, h3, h4⟩ := info_parts Try.info5
  exact run_append_src w base 22 tx ty 5 i _ Try.underlying22 h1 h2 h3 h4 rfl v n xs hown x m news hs hb hbase hne

theorem wp_app (w : World) {o : Oper} {a : Act} {K : Act → World → Prop} {Q : Exit → Act → World → Prop} (s x : Operand) (tx : TypeId)
    (ho : o.op = .call { callee := .builtin .append, args := #[s, x], argTypes := #[22, tx] }) (base : Nat)
    (v : Value) (n : Nat) (xs : List Value) (hv : a.eval s = v) (hown : w.ownsRow base 5 1 v n xs)
    (y : Value) (m : Nat) (news : List Value) (hx : a.eval x = y) (hs : Src Try.prog 1 tx y m news w) (hb : n + m ≤ 140737488355328) (hbase : base ≤ w.heap.size) (hne : v ≠ .slice none 0 0 ∨ 0 < m)
    (h : ∀ g cap w', w'.ownsRow base 5 1 (.slice (some ⟨g, 0, none⟩) (n + m) cap) (n + m) (xs ++ news) → w.grownBy w' v.ownBlock → (v.ownBlock = some g ∨ w.heap.size ≤ g) → K (a.put o.dst (.slice (some ⟨g, 0, none⟩) (n + m) cap)) w') : o.wp Try.prog a w K Q := by
  obtain ⟨g, cap, w', hr, h2, h3, h4⟩ := run_app w base tx o.type v n xs hown y m news hs hb hbase hne
  unfold Oper.wp execOp
  simp only [ho, resolve, invoke, builtin, Sem.run_bind, Sem.run_pure, Result.andThen_ok, List.map_toArray, List.map_cons, List.map_nil, hv, hx, hr]
  exact h g cap w' h2 h3 h4
theorem wpList_app (w : World) {ops : Array Oper} {rest : List Oper} {o : Oper} {a : Act} {Q : Exit → Act → World → Prop} (hgd : o.guard = none) (s x : Operand) (tx : TypeId)
    (ho : o.op = .call { callee := .builtin .append, args := #[s, x], argTypes := #[22, tx] }) (base : Nat)
    (v : Value) (n : Nat) (xs : List Value) (hv : a.eval s = v) (hown : w.ownsRow base 5 1 v n xs)
    (y : Value) (m : Nat) (news : List Value) (hx : a.eval x = y) (hs : Src Try.prog 1 tx y m news w) (hb : n + m ≤ 140737488355328) (hbase : base ≤ w.heap.size) (hne : v ≠ .slice none 0 0 ∨ 0 < m)
    (h : ∀ g cap w', w'.ownsRow base 5 1 (.slice (some ⟨g, 0, none⟩) (n + m) cap) (n + m) (xs ++ news) → w.grownBy w' v.ownBlock → (v.ownBlock = some g ∨ w.heap.size ≤ g) → wpList Try.prog ops Q rest (a.put o.dst (.slice (some ⟨g, 0, none⟩) (n + m) cap)) w') : wpList Try.prog ops Q (o :: rest) a w :=
  wpList_plain hgd fun _ hK => wp_app w s x tx ho base v n xs hv hown y m news hx hs hb hbase hne fun g cap w' h2 h3 h4 => hK _ _ (h g cap w' h2 h3 h4)

/-! The plain function. -/
def bc (l : List UInt8) : List Value := l.map fun b => Value.int .u8 b.toNat
theorem bc_append (a b : List UInt8) : bc (a ++ b) = bc a ++ bc b := by simp [bc]
theorem bc_length (a : List UInt8) : (bc a).length = a.length := by simp [bc]
def hexs : ByteArray := ⟨#[48, 49, 50, 51, 52, 53, 54, 55, 56, 57, 97, 98, 99, 100, 101, 102]⟩
def hexd (k : Nat) : UInt8 := hexs.data.toList.getD k 0
def esc1 (c : UInt8) : List UInt8 :=
  if c = 34 ∨ c = 92 then [92, c] else if c = 10 then [92, 110] else if c = 13 then [92, 114] else if c = 9 then [92, 116] else if c < 32 then [92, 117, 48, 48, hexd (c.toNat / 16), hexd (c.toNat % 16)] else [c]
def esc (l : List UInt8) : List UInt8 := l.flatMap esc1
def plain (c : UInt8) : Prop := 32 ≤ c ∧ c ≠ 34 ∧ c ≠ 92
def lit (l : List UInt8) : List UInt8 := [34] ++ esc l ++ [34]
theorem esc_append (a b : List UInt8) : esc (a ++ b) = esc a ++ esc b := by simp [esc]
theorem esc1_plain {c : UInt8} (h : plain c) : esc1 c = [c] := by
  obtain ⟨h1, h2, h3⟩ := h
  have e1 : ¬ c < 32 := by simpa using h1
  have e2 : c ≠ 10 := by rintro rfl; exact e1 (by decide)
  have e3 : c ≠ 13 := by rintro rfl; exact e1 (by decide)
  have e4 : c ≠ 9 := by rintro rfl; exact e1 (by decide)
  simp [esc1, h2, h3, e1, e2, e3, e4]
theorem esc_plain : ∀ {l : List UInt8}, (∀ c ∈ l, plain c) → esc l = l
  | [], _ => rfl
  | c :: r, h => by
    have e := esc_plain (l := r) (fun x hx => h x (by simp [hx]))
    have : esc (c :: r) = esc1 c ++ esc r := by simp [esc]
    rw [this, e, esc1_plain (h c (by simp))]
    rfl
theorem esc1_len (c : UInt8) : (esc1 c).length ≤ 6 ∧ 1 ≤ (esc1 c).length := by
  unfold esc1
  split
  · simp
  · split
    · simp
    · split
      · simp
      · split
        · simp
        · split <;> simp
theorem esc_len (l : List UInt8) : (esc l).length ≤ 6 * l.length ∧ l.length ≤ (esc l).length := by
  induction l with
  | nil => simp [esc]
  | cons c r ih =>
    have : esc (c :: r) = esc1 c ++ esc r := by simp [esc]
    have h := esc1_len c
    rw [this, List.length_append, List.length_cons]
    omega
end Go.Proofs.Qxb6604296a
