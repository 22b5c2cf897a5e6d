import Derived.Test.Qxb6604280aPartsC
import Derived.WalkSpells
import Derived.WalkLawsBesides
import Derived.Outline
import Derived.Deep.RegionHeldLaw
import Derived.Deep.RegionLaw
namespace Go.Proofs.Qxb6604280a
open Go.RowKit
theorem Try.size34' : (Try.prog.info? 34).map (·.size) = some 14 := by kernel_rfl
theorem Try.info3 : (Try.prog.info? 3).map (fun i => (i.zero, i.size, i.bytes)) = some (some (.int .i64 0), 1, 8) := by kernel_rfl
theorem zero3 (w : World) : (zeroValue 3).run Try.prog w = .ok (.int .i64 0) w := by kernel_rfl
theorem law9 : WideMaps.KeyLaw Try.prog 9 := WideMaps.string_law Try.underlying9

def objMap (ys : List (List UInt8)) : Value → Value → Prop := fun x v => ∃ s : ByteArray, x = .string s ∧ s.data.toList ∈ dist ys ∧ v = .int .i64 (pos (dist ys) s.data.toList : Nat)

structure Inv1 (w : World) (n : Nat) (xs : List (List UInt8)) (k : Nat) (sa : Option Addr) (m cp : Nat) (wr : World) : Prop where
  len : m = (dist (xs.take k)).length
  map : MapOk Try.prog 9 wr w.heap.size (objMap (xs.take k))
  oc : ∃ oc : List Value, wr.ownsRow (w.heap.size + 1) 3 1 (.slice (some ⟨w.heap.size + 1, 0, none⟩) n n) n oc ∧ ∀ (i : Nat) (x : List UInt8), (xs.take k)[i]? = some x → oc[i]? = some (Value.int .i64 (pos (dist (xs.take k)) x : Nat))
  sz : wr.ownsRow (w.heap.size + 2) 3 1 (.slice sa m cp) m ((cnts (xs.take k)).map fun c => Value.int .i64 (c : Nat))
  bel : Below w.heap.size w wr

theorem keys_at {rs : List Rc} {k : Nat} {r : Rc} (h : rs[k]? = some r) : (keys rs)[k]? = some r.obj.data.toList := by
  simp [keys, h, Rc.key]
theorem owns_only {w w' : World} {base e size n M : Nat} {v : Value} {xs : List Value} (h : w.ownsRow base e size v n xs) (o : Only M w w') (hM : M < base) : w'.ownsRow base e size v n xs := by
  refine h.kept (row := some M) ⟨o.os, o.tape, o.output, by rw [o.size]; exact Nat.le_refl _, fun j _ hj => o.block j (fun e => hj (by rw [e]))⟩ ?_
  cases hv : v.ownBlock with
  | none => exact .inl rfl
  | some g =>
    refine .inr fun e => ?_
    cases e
    have := (h.lt _ hv).1
    omega
theorem inv1_start {w w1 : World} {n : Nat} {ys : List Value} (xs : List (List UInt8)) (hown : w1.ownsRow (w.heap.size + 1) 3 1 (Value.slice (some ⟨w.heap.size + 1, 0, none⟩) n n) n ys) (hgrow : (w.alloc (Obj.map #[] 0)).grownBy w1 none) :
    Inv1 w n xs 0 none 0 0 w1 := by
  have hm := mapOk_made w Try.prog 9
  refine ⟨rfl, ?_, ⟨_, hown, fun i x h => by simp at h⟩, ?_, ?_⟩
  · refine (hm.of_block (hgrow.block _ (by simp) (by simp))).congr fun x v => ⟨fun h => h.elim, ?_⟩
    rintro ⟨s, _, h, _⟩
    simp [dist] at h
  · exact World.ownsRow_nil _ _ _ _
  · exact ((Below.refl _ _).alloc (Nat.le_refl _) _).grown hgrow (by simp) (fun k h => by cases h)

theorem there_of_owns' {w : World} {base e size n c : Nat} {g : Nat} {xs : List Value} (h : w.ownsRow base e size (.slice (some ⟨g, 0, none⟩) n c) n xs) : w.there g 0 (n * size) := by
  obtain ⟨hl, h⟩ := h
  rcases h with ⟨h, _⟩ | ⟨g', cap, cur, hv, hb, hh, hc, _, hsz, ht⟩
  · cases h
  · simp only [Value.slice.injEq, Option.some.injEq, Addr.mk.injEq, true_and, and_true] at hv
    obtain ⟨rfl, rfl⟩ := hv
    intro j hj
    have hjs : j < cur.size := by rw [hsz]; exact Nat.lt_of_lt_of_le hj (Nat.mul_le_mul_right _ hc)
    refine ⟨?_, ?_⟩
    · rw [cell_of_row w g _ cur _ _ hh]; simp [hjs]
    · exact frozen_of_row w g _ cur _ hh
theorem own_ne {g g' n c : Nat} (h : g ≠ g') : (Value.slice (some ⟨g, 0, none⟩) n c).ownBlock = none ∨ (Value.slice (some ⟨g, 0, none⟩) n c).ownBlock ≠ some g' :=
  .inr fun e => h (by simpa [Value.ownBlock] using e)
theorem own_ge {w : World} {base e size n g cap : Nat} {xs : List Value} (h : w.ownsRow base e size (.slice (some ⟨g, 0, none⟩) n cap) n xs) : base ≤ g ∧ g < w.heap.size := h.lt g rfl
/-- What the round with a new object finds behind the push. -/
theorem new_facts {w wr w2 w3 : World} {n k m cp g cap : Nat} {sa : Option Addr} {oc ys : List Value} {ob ob' : Obj} (ho1 : wr.ownsRow (w.heap.size + 1) 3 1 (.slice (some ⟨w.heap.size + 1, 0, none⟩) n n) n oc)
    (hsz : wr.ownsRow (w.heap.size + 2) 3 1 (.slice sa m cp) m ys) (honly2 : Only w.heap.size (wr.alloc ob) w2)
    (hown3 : w3.ownsRow (w.heap.size + 2) 3 1 (.slice (some ⟨g, 0, none⟩) (m + 1) cap) (m + 1) (ys ++ [.int .i64 0])) (hgrow3 : (w2.alloc ob').grownBy w3 (Value.slice sa m cp).ownBlock) (hk : k < n) :
    w3.ownsRow (w.heap.size + 1) 3 1 (.slice (some ⟨w.heap.size + 1, 0, none⟩) n n) n oc ∧ (∃ v1, w3.cell? ⟨w.heap.size + 1, k, none⟩ = some v1) ∧ w3.frozen? ⟨w.heap.size + 1, k, none⟩ = false ∧
      w3.cell? ⟨g, m, none⟩ = some (.int .i64 0) ∧ w3.frozen? ⟨g, m, none⟩ = false ∧ w.heap.size + 2 ≤ g := by
  have h2 := owns_only (ho1.alloc ob) honly2 (by omega)
  have h3 : w3.ownsRow (w.heap.size + 1) 3 1 (.slice (some ⟨w.heap.size + 1, 0, none⟩) n n) n oc := (h2.alloc ob').kept hgrow3 (.inr fun e => by
    have := (hsz.lt (w.heap.size + 1) e.symm).1
    omega)
  have hlen : ys.length = m := by have := hsz.1; omega
  have hoc : oc.length = n := by have := ho1.1; omega
  refine ⟨h3, ⟨oc[k]'(by omega), by rw [h3.cellAt k (by omega), List.getElem?_eq_getElem (by omega)]⟩, h3.frozenAt k, ?_, hown3.frozenAt m, (own_ge hown3).1⟩
  rw [hown3.cellAt m (by omega), List.getElem?_append_right (by omega)]
  simp [hlen]

theorem take_snoc {β : Type} {xs : List β} {k : Nat} {x : β} (h : xs[k]? = some x) : xs.take (k + 1) = xs.take k ++ [x] := by
  obtain ⟨hk, e⟩ := List.getElem?_eq_some_iff.1 h
  rw [List.take_succ_eq_append_getElem hk, e]
theorem key_inj {s t : ByteArray} (h : s.data.toList = t.data.toList) : s = t := by
  cases s; cases t
  simp only [ByteArray.mk.injEq]
  exact Array.ext' h
theorem inv1_new {w wr w2 w3 : World} {n k m cp g cap : Nat} {sa : Option Addr} {oc : List Value} {ob ob' : Obj} {xs : List (List UInt8)} {s : ByteArray} (I : Inv1 w n xs k sa m cp wr) (hx : xs[k]? = some s.data.toList) (hD : ¬ s.data.toList ∈ dist (xs.take k))
    (ho2 : ∀ (i : Nat) (x : List UInt8), (xs.take k)[i]? = some x → oc[i]? = some (Value.int .i64 (pos (dist (xs.take k)) x : Nat)))
    (hmap2 : MapOk Try.prog 9 w2 w.heap.size (upd (objMap (xs.take k)) (.string s) (.int .i64 (m : Nat)))) (honly2 : Only w.heap.size (wr.alloc ob) w2)
    (hown3 : w3.ownsRow (w.heap.size + 2) 3 1 (.slice (some ⟨g, 0, none⟩) (m + 1) cap) (m + 1) (((cnts (xs.take k)).map fun c => Value.int .i64 (c : Nat)) ++ [.int .i64 0])) (hgrow3 : (w2.alloc ob').grownBy w3 (Value.slice sa m cp).ownBlock)
    (ho3 : w3.ownsRow (w.heap.size + 1) 3 1 (.slice (some ⟨w.heap.size + 1, 0, none⟩) n n) n oc) (hk : k < n) (hxn : xs.length = n) :
    Inv1 w n xs (k + 1) (some ⟨g, 0, none⟩) (m + 1) cap ((w3.setCell ⟨w.heap.size + 1, k, none⟩ (.int .i64 (m : Nat))).setCell ⟨g, m, none⟩ (.int .i64 1)) := by
  have ht := take_snoc hx
  have hlen := I.len
  have hcl : (cnts (xs.take k)).length = m := by rw [cnts_len, hlen]
  have hg := own_ge hown3
  have hoc : oc.length = n := by have := ho3.1; omega
  have s1 := ho3.stored k (.int .i64 (m : Nat))
  have s2 : (w3.setCell ⟨w.heap.size + 1, k, none⟩ (.int .i64 (m : Nat))).ownsRow (w.heap.size + 2) 3 1 (.slice (some ⟨g, 0, none⟩) (m + 1) cap) (m + 1) _ := ownsRow_setCell_below hown3 (a := ⟨w.heap.size + 1, k, none⟩) (by show w.heap.size + 1 < _; omega) _
  have s3 := s2.stored m (.int .i64 1)
  have hws : w.heap.size < w2.heap.size := hmap2.lt
  have hrow : ∀ j, (Value.slice sa m cp).ownBlock = some j → w.heap.size + 2 ≤ j := fun j h => (I.sz.lt j h).1
  refine ⟨?_, ?_, ⟨oc.set k (.int .i64 (m : Nat)), s1.1.kept s3.2 (own_ne (by omega)), ?_⟩, ?_, ?_⟩
  · rw [ht, dist_out hD, hlen]; simp
  · have hm3 : MapOk Try.prog 9 w3 w.heap.size _ := hmap2.of_block (w' := w3) ((hgrow3.block w.heap.size (by simp; omega) (fun e => by have := hrow w.heap.size e.symm; omega)).trans (Below.heap_alloc w2 _ _ hws))
    have hm4 := hm3.of_block (w' := w3.setCell ⟨w.heap.size + 1, k, none⟩ (.int .i64 (m : Nat))) (Below.heap_setCell _ _ _ _ (by show w.heap.size ≠ w.heap.size + 1; omega))
    have hm5 := hm4.of_block (w' := (w3.setCell ⟨w.heap.size + 1, k, none⟩ (.int .i64 (m : Nat))).setCell ⟨g, m, none⟩ (.int .i64 1)) (Below.heap_setCell _ _ _ _ (by show w.heap.size ≠ g; omega))
    refine hm5.congr fun x v => ?_
    rw [ht]
    constructor
    · rintro (⟨rfl, rfl⟩ | ⟨hne, s', rfl, h1, rfl⟩)
      · exact ⟨s, rfl, by rw [dist_out hD]; simp, by rw [pos_new hD, hlen]⟩
      · exact ⟨s', rfl, by rw [dist_out hD]; simp [h1], by rw [pos_stable [s.data.toList] (mem_dist.1 h1)]⟩
    · rintro ⟨s', rfl, h1, rfl⟩
      by_cases e : s' = s
      · subst e
        exact .inl ⟨rfl, by rw [pos_new hD, hlen]⟩
      · have h2 : s'.data.toList ∈ dist (xs.take k) := by
          rw [dist_out hD] at h1
          rcases List.mem_append.1 h1 with h1 | h1
          · exact h1
          · simp at h1
            exact absurd (key_inj (by simpa using h1)) e
        exact .inr ⟨fun q => e (by cases q; rfl), s', rfl, h2, by rw [pos_stable [s.data.toList] (mem_dist.1 h2)]⟩
  · intro i x hi
    rw [ht] at hi ⊢
    have hk' : (xs.take k).length = k := by simp; omega
    by_cases e : i = k
    · subst e
      rw [List.getElem?_append_right (by omega)] at hi
      simp [hk'] at hi
      subst hi
      rw [List.getElem?_set_self (by omega), pos_new hD, hlen]
    · have hik : i < k := by
        have := (List.getElem?_eq_some_iff.1 hi).1
        simp [hk'] at this
        omega
      rw [List.getElem?_append_left (by omega)] at hi
      rw [List.getElem?_set_ne (by omega), ho2 i x hi, pos_stable [s.data.toList] (List.mem_of_getElem? hi)]
  · have h4 := s3.1
    have e : ((((cnts (xs.take k)).map fun c => Value.int .i64 (c : Nat)) ++ [Value.int .i64 0]).set m (Value.int .i64 1)) = ((cnts (xs.take (k + 1))).map fun c => Value.int .i64 (c : Nat)) := by
      rw [ht, cnts_out hD, List.map_append, List.set_append_right _ _ (by simp [hcl])]
      simp [hcl]
    rw [e] at h4
    exact h4
  · have b1 : Below w.heap.size w w2 := Only.below (I.bel.alloc I.bel.size ob) honly2 (Nat.le_refl _)
    have b2 := (b1.alloc b1.size ob').grown hgrow3 (by simp; omega) (fun j h => by have := hrow j h; omega)
    exact (b2.setCell (p := ⟨w.heap.size + 1, k, none⟩) (by show w.heap.size ≤ w.heap.size + 1; omega) _).setCell (p := ⟨g, m, none⟩) (by show w.heap.size ≤ g; omega) _

/-- What the round with a known object finds. -/
theorem old_facts {w wr : World} {n k m cp : Nat} {sa : Option Addr} {oc : List Value} {xs : List (List UInt8)} {s : List UInt8} (I : Inv1 w n xs k sa m cp wr) (hin : s ∈ dist (xs.take k)) (hk : k < n)
    (ho1 : wr.ownsRow (w.heap.size + 1) 3 1 (.slice (some ⟨w.heap.size + 1, 0, none⟩) n n) n oc) :
    ∃ g q c0 : Nat, sa = some ⟨g, 0, none⟩ ∧ q < m ∧ Hid (q = pos (dist (xs.take k)) s) ∧ Hid (c0 = cnt (xs.take k) s) ∧ c0 ≤ k ∧ wr.cell? ⟨g, q, none⟩ = some (.int .i64 (c0 : Nat)) ∧ wr.frozen? ⟨g, q, none⟩ = false ∧
      (∃ v1, wr.cell? ⟨w.heap.size + 1, k, none⟩ = some v1) ∧ wr.frozen? ⟨w.heap.size + 1, k, none⟩ = false ∧ w.heap.size + 2 ≤ g ∧ g < wr.heap.size ∧ w.heap.size + 1 < wr.heap.size := by
  have hlen := I.len
  have hq := pos_lt hin
  have hsz := I.sz
  have hoc : oc.length = n := by have := ho1.1; omega
  rcases hsz.2 with ⟨_, h⟩ | ⟨g, cap, cur, hv, _⟩
  · omega
  · simp only [Value.slice.injEq, true_and] at hv
    obtain ⟨rfl, rfl⟩ := hv
    refine ⟨g, _, _, rfl, by rw [hlen]; exact hq, rfl, rfl, ?_, ?_, hsz.frozenAt _, ⟨oc[k]'(by omega), by rw [ho1.cellAt k (by omega), List.getElem?_eq_getElem (by omega)]⟩, ho1.frozenAt k, (own_ge hsz).1, (own_ge hsz).2, (own_ge ho1).2⟩
    · have := cnt_le (xs.take k) s
      simp at this
      omega
    · rw [hsz.cellAt _ (by omega), List.getElem?_map, cnts_pos_at hin]; rfl
theorem Inv1.alloc {w wr : World} {n k m cp : Nat} {sa : Option Addr} {xs : List (List UInt8)} (I : Inv1 w n xs k sa m cp wr) (ob : Obj) : Inv1 w n xs k sa m cp (wr.alloc ob) := by
  obtain ⟨oc, h1, h2⟩ := I.oc
  exact ⟨I.len, I.map.of_block (Below.heap_alloc wr ob _ I.map.lt), ⟨oc, h1.alloc ob, h2⟩, I.sz.alloc ob, I.bel.alloc I.bel.size ob⟩
theorem inv1_old {w wr : World} {n k m cp g q c0 : Nat} {oc : List Value} {xs : List (List UInt8)} {s : List UInt8} (I : Inv1 w n xs k (some ⟨g, 0, none⟩) m cp wr) (hx : xs[k]? = some s) (hin : s ∈ dist (xs.take k))
    (ho1 : wr.ownsRow (w.heap.size + 1) 3 1 (.slice (some ⟨w.heap.size + 1, 0, none⟩) n n) n oc)
    (ho2 : ∀ (i : Nat) (x : List UInt8), (xs.take k)[i]? = some x → oc[i]? = some (Value.int .i64 (pos (dist (xs.take k)) x : Nat)))
    (hq : q = pos (dist (xs.take k)) s) (hc0 : c0 = cnt (xs.take k) s) (hk : k < n) (hxn : xs.length = n) :
    Inv1 w n xs (k + 1) (some ⟨g, 0, none⟩) m cp ((wr.setCell ⟨w.heap.size + 1, k, none⟩ (.int .i64 (q : Nat))).setCell ⟨g, q, none⟩ (.int .i64 ((c0 : Int) + 1))) := by
  have ht := take_snoc hx
  have hlen := I.len
  have hg := own_ge I.sz
  have hoc : oc.length = n := by have := ho1.1; omega
  have s1 := ho1.stored k (.int .i64 (q : Nat))
  have s2 : (wr.setCell ⟨w.heap.size + 1, k, none⟩ (.int .i64 (q : Nat))).ownsRow (w.heap.size + 2) 3 1 (.slice (some ⟨g, 0, none⟩) m cp) m _ := ownsRow_setCell_below I.sz (a := ⟨w.heap.size + 1, k, none⟩) (by show w.heap.size + 1 < _; omega) _
  have s3 := s2.stored q (.int .i64 ((c0 : Int) + 1))
  refine ⟨?_, ?_, ⟨oc.set k (.int .i64 (q : Nat)), s1.1.kept s3.2 (own_ne (by omega)), ?_⟩, ?_, ?_⟩
  · rw [ht, dist_in hin, hlen]
  · have hm4 := I.map.of_block (w' := wr.setCell ⟨w.heap.size + 1, k, none⟩ (.int .i64 (q : Nat))) (Below.heap_setCell _ _ _ _ (by show w.heap.size ≠ w.heap.size + 1; omega))
    have hm5 := hm4.of_block (w' := (wr.setCell ⟨w.heap.size + 1, k, none⟩ (.int .i64 (q : Nat))).setCell ⟨g, q, none⟩ (.int .i64 ((c0 : Int) + 1))) (Below.heap_setCell _ _ _ _ (by show w.heap.size ≠ g; omega))
    refine hm5.congr fun x v => ?_
    rw [ht]
    unfold objMap
    rw [dist_in hin]
  · intro i x hi
    rw [ht] at hi ⊢
    rw [dist_in hin]
    have hk' : (xs.take k).length = k := by simp; omega
    by_cases e : i = k
    · subst e
      rw [List.getElem?_append_right (by omega)] at hi
      simp [hk'] at hi
      subst hi
      rw [List.getElem?_set_self (by omega), hq]
    · have hik : i < k := by
        have := (List.getElem?_eq_some_iff.1 hi).1
        simp [hk'] at this
        omega
      rw [List.getElem?_append_left (by omega)] at hi
      rw [List.getElem?_set_ne (by omega), ho2 i x hi]
  · have h4 := s3.1
    have e : (((cnts (xs.take k)).map fun c => Value.int .i64 (c : Nat)).set q (Value.int .i64 ((c0 : Int) + 1))) = ((cnts (xs.take (k + 1))).map fun c => Value.int .i64 (c : Nat)) := by
      rw [ht, cnts_hit hin, List.map_set, hq, hc0]
      rfl
    rw [e] at h4
    exact h4
  · exact (I.bel.setCell (p := ⟨w.heap.size + 1, k, none⟩) (by show w.heap.size ≤ w.heap.size + 1; omega) _).setCell (p := ⟨g, q, none⟩) (by show w.heap.size ≤ g; omega) _

/-! The second and the third loop. -/
theorem Try.info25 : (Try.prog.info? 25).map (fun i => (i.zero, i.size, i.bytes)) = some (some (.slice none 0 0), 1, 24) := by kernel_rfl
theorem Try.info34' : (Try.prog.info? 34).map (fun i => (i.zero, i.size, i.bytes)) = some (some (.agg #[.string ⟨#[]⟩, .string ⟨#[]⟩, .int .i64 0, .string ⟨#[]⟩, .string ⟨#[]⟩, .string ⟨#[]⟩, .int .i64 0, .int .i64 0, .int .i64 0, .int .i64 0, .bool false, .int .u64 0, .int .u64 0, .int .i64 0]), 14, 152) := by kernel_rfl
/-- The records of one object. -/
def grp (rs : List Rc) (d : List UInt8) : List Rc := rs.filter (fun r => decide (r.key = d))
structure InvB (w : World) (n X Y : Nat) (sa : Option Addr) (m cp : Nat) (rs : List Rc) (j a : Nat) (wr : World) : Prop where
  len : m = (dist (keys rs)).length
  oc : ∃ oc : List Value, wr.ownsRow (w.heap.size + 1) 3 1 (.slice (some ⟨w.heap.size + 1, 0, none⟩) n n) n oc ∧ ∀ (i : Nat) (x : List UInt8), (keys rs)[i]? = some x → oc[i]? = some (Value.int .i64 (pos (dist (keys rs)) x : Nat))
  sz : wr.ownsRow (w.heap.size + 2) 3 1 (.slice sa m cp) m ((cnts (keys rs)).map fun c => Value.int .i64 (c : Nat))
  ob : ∃ os : List Value, wr.ownsRow 0 25 1 (.slice (some ⟨X, 0, none⟩) m m) m os ∧ ∀ (i : Nat) (d : List UInt8), i < j → (dist (keys rs))[i]? = some d → os[i]? = some (Value.slice (some ⟨Y, st (cnts (keys rs)) i * 14, none⟩) (grp (rs.take a) d).length (cnt (keys rs) d))
  al : wr.there Y 0 (n * 14)
  rows : ∀ (i : Nat) (d : List UInt8), (dist (keys rs))[i]? = some d → RowAt wr Y (st (cnts (keys rs)) i * 14) (grp (rs.take a) d)
  bel : Below w.heap.size w wr
  hX : w.heap.size + 2 ≤ X
  hXY : X < Y
  hY : Y < wr.heap.size
  saX : ∀ g, (Value.slice sa m cp).ownBlock = some g → g < X
theorem grp_nil (d : List UInt8) : grp [] d = [] := rfl
theorem invB_start {w wr w4 w5 : World} {n m cp : Nat} {sa : Option Addr} {rs : List Rc} {ys zs : List Value} (I : Inv1 w n (keys rs) n sa m cp wr) (hn : n = rs.length)
    (hown4 : w4.ownsRow 0 25 1 (Value.slice (some ⟨wr.heap.size, 0, none⟩) m m) m ys) (hgrow4 : wr.grownBy w4 none)
    (hown5 : w5.ownsRow 0 34 14 (Value.slice (some ⟨w4.heap.size, 0, none⟩) n n) n zs) (hgrow5 : w4.grownBy w5 none) : InvB w n wr.heap.size w4.heap.size sa m cp rs 0 0 w5 := by
  have ht : (keys rs).take n = keys rs := List.take_of_length_le (by rw [keys_len, hn]; exact Nat.le_refl _)
  obtain ⟨oc, o1, o2⟩ := I.oc
  have hl := I.len
  have hsz := I.sz
  rw [ht] at hl hsz o2
  have hx4 := (own_ge hown4).2
  have hx5 := (own_ge hown5).2
  have hws := (own_ge o1).2
  have k4 : ∀ {v : Value}, v.ownBlock = none ∨ v.ownBlock ≠ none := fun {v} => by cases v.ownBlock <;> simp
  refine ⟨hl, ⟨oc, (o1.kept hgrow4 (.inr (by simp [Value.ownBlock]))).kept hgrow5 (.inr (by simp [Value.ownBlock])), o2⟩, (hsz.kept hgrow4 k4).kept hgrow5 k4, ⟨ys, hown4.kept hgrow5 k4, fun i d h => absurd h (by omega)⟩, there_of_owns' hown5, fun i d _ => ?_, ?_, by omega, hx4, hx5, fun g hg => (hsz.lt g hg).2⟩
  · intro q r h
    simp [grp_nil] at h
  · exact (I.bel.grown hgrow4 I.bel.size (fun k h => by cases h)).grown hgrow5 (by have := I.bel.size; omega) (fun k h => by cases h)

theorem st_next {cs : List Nat} {j S c : Nat} (hS : S = st cs j) (h : cs[j]? = some c) : S + c = st cs (j + 1) := by
  obtain ⟨h1, rfl⟩ := List.getElem?_eq_some_iff.1 h
  rw [st_succ cs h1, hS]
theorem two_facts {w wr : World} {n X Y m cp j S : Nat} {sa : Option Addr} {rs : List Rc} (J : InvB w n X Y sa m cp rs j 0 wr) (hj : j < m) (hS : S = st (cnts (keys rs)) j) (hn : n = rs.length) :
    ∃ g c : Nat, sa = some ⟨g, 0, none⟩ ∧ 0 < c ∧ S + c ≤ n ∧ Hid ((cnts (keys rs))[j]? = some c) ∧ wr.cell? ⟨g, j, none⟩ = some (.int .i64 (c : Nat)) ∧ (∃ v1, wr.cell? ⟨X, j, none⟩ = some v1) ∧ wr.frozen? ⟨X, j, none⟩ = false := by
  have hlen := J.len
  have hsz := J.sz
  obtain ⟨os, hos, _⟩ := J.ob
  have hol : os.length = m := by have := hos.1; omega
  have hcl : (cnts (keys rs)).length = m := by rw [cnts_len, hlen]
  rcases hsz.2 with ⟨_, h⟩ | ⟨g, cap, cur, hv, _⟩
  · omega
  · simp only [Value.slice.injEq, true_and] at hv
    obtain ⟨rfl, rfl⟩ := hv
    refine ⟨g, (cnts (keys rs))[j]'(by omega), rfl, cnts_pos _ (by omega), ?_, List.getElem?_eq_getElem (by omega), ?_, ⟨os[j]'(by omega), by rw [hos.cellAt j (by omega), List.getElem?_eq_getElem (by omega)]⟩, hos.frozenAt j⟩
    · have := st_end (cnts (keys rs)) (i := j) (by omega)
      rw [cnts_sum, keys_len] at this
      omega
    · rw [hsz.cellAt j (by omega), List.getElem?_map, List.getElem?_eq_getElem (by omega)]; rfl

theorem there_setCell_other {w : World} {Y o n : Nat} (h : w.there Y o n) {a : Addr} (ha : Y ≠ a.block) (u : Value) : (w.setCell a u).there Y o n := fun j hj => by
  have e := Below.heap_setCell w a u Y ha
  refine ⟨?_, ?_⟩
  · rw [World.cell?_of_block (w := w) (a := ⟨Y, o + j, none⟩) e]; exact (h j hj).1
  · rw [World.frozen?_of_block (w := w) (a := ⟨Y, o + j, none⟩) e]; exact (h j hj).2
theorem row_setCell_other {w : World} {Y o : Nat} {rs : List Rc} (h : RowAt w Y o rs) {a : Addr} (ha : Y ≠ a.block) (u : Value) : RowAt (w.setCell a u) Y o rs := fun i r hi j v hj => by
  rw [World.cell?_of_block (w := w) (a := ⟨Y, _, none⟩) (Below.heap_setCell w a u Y ha)]; exact h i r hi j v hj
theorem owns_kept {w w' : World} {base e size n : Nat} {v : Value} {row : Nat} {xs : List Value} (h : w.ownsRow base e size v n xs) (hg : w.grownBy w' (some row)) (hv : ∀ g, v.ownBlock = some g → g ≠ row) : w'.ownsRow base e size v n xs := by
  refine h.kept hg ?_
  cases hb : v.ownBlock with
  | none => exact .inl rfl
  | some g => exact .inr fun e => hv g hb (by simpa using e)
theorem invB_two {w wr : World} {n X Y m cp j S c1 : Nat} {sa : Option Addr} {rs : List Rc} (J : InvB w n X Y sa m cp rs j 0 wr) (hj : j < m) (hS : S = st (cnts (keys rs)) j) (hcj : (cnts (keys rs))[j]? = some c1) :
    InvB w n X Y sa m cp rs (j + 1) 0 (wr.setCell ⟨X, j, none⟩ (.slice (some ⟨Y, S * 14, none⟩) 0 c1)) := by
  obtain ⟨oc, o1, o2⟩ := J.oc
  obtain ⟨os, p1, p2⟩ := J.ob
  have hX := J.hX
  have hXY := J.hXY
  have hol : os.length = m := by have := p1.1; omega
  have q := p1.stored j (.slice (some ⟨Y, S * 14, none⟩) 0 c1)
  refine ⟨J.len, ⟨oc, o1.kept q.2 (own_ne (by omega)), o2⟩, owns_kept J.sz q.2 (fun g hg e => by have := J.saX g hg; omega), ⟨_, q.1, fun i d hi hd => ?_⟩, there_setCell_other J.al (a := ⟨X, j, none⟩) (by show Y ≠ X; omega) _, fun i d _ => fun q r h => by simp [grp_nil] at h, J.bel.setCell (p := ⟨X, j, none⟩) (by show w.heap.size ≤ X; omega) _, hX, hXY, by simpa [World.setCell] using J.hY, J.saX⟩
  by_cases e : i = j
  · subst e
    have := cnts_at hd
    rw [hcj] at this
    cases this
    rw [List.getElem?_set_self (by omega), hS]
    rfl
  · rw [List.getElem?_set_ne (by omega), p2 i d (by omega) hd]
theorem grp_take_le (rs : List Rc) (a : Nat) (d : List UInt8) {r : Rc} (h : rs[a]? = some r) (hd : r.key = d) : (grp (rs.take a) d).length + 1 ≤ cnt (keys rs) d := by
  have h1 : grp (rs.take (a + 1)) d = grp (rs.take a) d ++ [r] := by
    rw [take_snoc h]; simp [grp, hd]
  have h2 : (grp (rs.take (a + 1)) d).length ≤ (grp rs d).length := (List.Sublist.filter _ (List.take_sublist _ _)).length_le
  have h3 : (grp rs d).length = cnt (keys rs) d := by
    simp only [grp, cnt, keys, List.count, List.countP_map, ← List.countP_eq_length_filter]
    congr 1
  rw [h1] at h2
  simp at h2
  omega
theorem three_facts {w wr : World} {n X Y m cp a : Nat} {sa : Option Addr} {rs : List Rc} {r : Rc} (J : InvB w n X Y sa m cp rs m a wr) (ha : a < n) (hr : rs[a]? = some r) (hn : n = rs.length) :
    ∃ i c C S : Nat, Hid (i = pos (dist (keys rs)) r.key ∧ c = (grp (rs.take a) r.key).length ∧ C = cnt (keys rs) r.key ∧ S = st (cnts (keys rs)) i) ∧ i < m ∧ c + 1 ≤ C ∧ S + C ≤ n ∧
      wr.cell? ⟨w.heap.size + 1, a, none⟩ = some (.int .i64 (i : Nat)) ∧ wr.cell? ⟨X, i, none⟩ = some (.slice (some ⟨Y, S * 14, none⟩) c C) ∧ wr.frozen? ⟨X, i, none⟩ = false := by
  obtain ⟨oc, o1, o2⟩ := J.oc
  obtain ⟨os, p1, p2⟩ := J.ob
  have hkey : (keys rs)[a]? = some r.key := by simp [keys, hr]
  have hmem : r.key ∈ dist (keys rs) := mem_dist.2 (List.mem_of_getElem? hkey)
  have hi := pos_lt hmem
  have hlen := J.len
  have hat := pos_get hmem
  have hS := st_end (cnts (keys rs)) (i := pos (dist (keys rs)) r.key) (by rw [cnts_len]; exact hi)
  rw [cnts_sum, keys_len] at hS
  have hc := cnts_pos_at hmem
  have hcl : pos (dist (keys rs)) r.key < (cnts (keys rs)).length := by rw [cnts_len]; exact hi
  rw [List.getElem?_eq_getElem hcl] at hc
  simp only [Option.some.injEq] at hc
  rw [hc] at hS
  refine ⟨_, _, _, _, ⟨rfl, rfl, rfl, rfl⟩, by omega, grp_take_le rs a r.key hr rfl, by omega, ?_, ?_, p1.frozenAt _⟩
  · rw [o1.cellAt a (by omega), o2 a _ hkey]
  · rw [p1.cellAt _ (by omega), p2 _ _ (by omega) hat]

theorem grp_snoc (rs : List Rc) (r : Rc) (d : List UInt8) : grp (rs ++ [r]) d = grp rs d ++ if r.key = d then [r] else [] := by
  unfold grp
  rw [List.filter_append]
  congr 1
  by_cases h : r.key = d <;> simp [h]
theorem grp_len_le (rs : List Rc) (a : Nat) (d : List UInt8) : (grp (rs.take a) d).length ≤ cnt (keys rs) d := by
  have h2 : (grp (rs.take a) d).length ≤ (grp rs d).length := (List.Sublist.filter _ (List.take_sublist _ _)).length_le
  have h3 : (grp rs d).length = cnt (keys rs) d := by
    simp only [grp, cnt, keys, List.count, List.countP_map, ← List.countP_eq_length_filter]
    congr 1
  omega
theorem grown_setCells (g : Nat) : ∀ (vs : List Value) (o : Nat) (w : World), w.grownBy (w.setCells g o vs) (some g)
  | [], _, w => World.grownBy.refl w _
  | v :: r, o, w => by
    have h := grown_setCells g r (o + 1) (w.setCell ⟨g, o, none⟩ v)
    rw [World.setCells]
    refine ⟨h.os, h.tape, h.output, by simpa [World.setCell] using h.size, fun k hk hne => ?_⟩
    rw [h.block k (by simpa [World.setCell] using hk) hne, Below.heap_setCell _ _ _ _ (fun e => hne (by rw [e]))]
theorem invB_three {w wr : World} {n X Y m cp q i c1 C S : Nat} {sa : Option Addr} {rs : List Rc} {r : Rc} (J : InvB w n X Y sa m cp rs m q wr) (hr : rs[q]? = some r)
    (hH : i = pos (dist (keys rs)) r.key ∧ c1 = (grp (rs.take q) r.key).length ∧ C = cnt (keys rs) r.key ∧ S = st (cnts (keys rs)) i) (hcC : c1 + 1 ≤ C) (hSn : S + C ≤ n) (A B : Obj) :
    InvB w n X Y sa m cp rs m (q + 1) ((((wr.alloc A).alloc B).drew.setCells Y (S * 14 + c1 * 14) r.cells).setCell ⟨X, i, none⟩ (.slice (some ⟨Y, S * 14, none⟩) (c1 + 1) C)) := by
  obtain ⟨hi, hc1, hC, hS⟩ := hH
  obtain ⟨oc, o1, o2⟩ := J.oc
  obtain ⟨os, p1, p2⟩ := J.ob
  have hX := J.hX
  have hXY := J.hXY
  have hY := J.hY
  have hkey : (keys rs)[q]? = some r.key := by simp [keys, hr]
  have hmem : r.key ∈ dist (keys rs) := mem_dist.2 (List.mem_of_getElem? hkey)
  have him : i < m := by rw [hi, J.len]; exact pos_lt hmem
  have hat : (dist (keys rs))[i]? = some r.key := by rw [hi]; exact pos_get hmem
  have hol : os.length = m := by have := p1.1; omega
  have ht := take_snoc hr
  have hcl : (cnts (keys rs)).length = m := by rw [cnts_len, J.len]
  -- the worlds
  have g2 := grown_setCells Y r.cells (S * 14 + c1 * 14) ((wr.alloc A).alloc B).drew
  have b1 : Below w.heap.size w ((wr.alloc A).alloc B).drew := (((J.bel.alloc J.bel.size A).alloc (by have := J.bel.size; simp; omega) B)).drew
  have hth1 : ((wr.alloc A).alloc B).drew.there Y 0 (n * 14) := (World.there_drew _ _ _ _).2 (World.there_alloc (World.there_alloc J.al A) B)
  have hth2 := World.there_setCells hth1 Y (S * 14 + c1 * 14) r.cells
  have q1 : (((wr.alloc A).alloc B).drew.setCells Y (S * 14 + c1 * 14) r.cells).ownsRow 0 25 1 (.slice (some ⟨X, 0, none⟩) m m) m os := ((p1.alloc A).alloc B).drew.kept g2 (own_ne (by omega))
  have q2 := q1.stored i (.slice (some ⟨Y, S * 14, none⟩) (c1 + 1) C)
  have q3 : (((wr.alloc A).alloc B).drew.setCells Y (S * 14 + c1 * 14) r.cells).ownsRow _ 3 1 _ _ _ := ((o1.alloc A).alloc B).drew.kept g2 (own_ne (by omega))
  refine ⟨J.len, ⟨oc, q3.kept q2.2 (own_ne (by omega)), o2⟩, owns_kept (owns_kept ((J.sz.alloc A).alloc B).drew g2 (fun g hg e => by have := J.saX g hg; omega)) q2.2 (fun g hg e => by have := J.saX g hg; omega), ⟨_, q2.1, fun i' d' hi' hd' => ?_⟩,
    there_setCell_other hth2 (a := ⟨X, i, none⟩) (by show Y ≠ X; omega) _, fun i' d' hd' => ?_, (below_setCells (by omega) _ _ _ b1).setCell (p := ⟨X, i, none⟩) (by show w.heap.size ≤ X; omega) _, hX, hXY, ?_, J.saX⟩
  · rw [ht, grp_snoc]
    by_cases e : i' = i
    · subst e
      rw [hat] at hd'
      cases hd'
      rw [List.getElem?_set_self (by omega), if_pos rfl, hC, hS, List.length_append, ← hc1]
      rfl
    · have hne : ¬ r.key = d' := fun e' => e (by rw [hi, e']; exact (pos_at hd').symm)
      rw [List.getElem?_set_ne (fun h => e h.symm), if_neg hne, List.append_nil]
      exact p2 i' d' hi' hd'
  · refine row_setCell_other ?_ (a := ⟨X, i, none⟩) (by show Y ≠ X; omega) _
    have hrow0 := J.rows i' d' hd'
    have hlift : ∀ idx r', (grp (rs.take q) d')[idx]? = some r' → ((wr.alloc A).alloc B).drew.rangeAt Y (st (cnts (keys rs)) i' * 14 + idx * 14) r'.cells := fun idx r' h => (World.rangeAt_drew _ _ _ _).2 (World.rangeAt_alloc (World.rangeAt_alloc (hrow0 idx r' h) A) B)
    rw [ht, grp_snoc]
    by_cases e : i' = i
    · subst e
      rw [hat] at hd'
      cases hd'
      rw [if_pos rfl]
      intro idx r' hr'
      by_cases e2 : idx = c1
      · subst e2
        rw [List.getElem?_append_right (by omega)] at hr'
        simp [hc1] at hr'
        subst hr'
        have := World.rangeAt_setCells_same ((wr.alloc A).alloc B).drew Y (S * 14 + idx * 14) r.cells (there_sub hth1 _ _ (by rw [Rc.len]; omega))
        rw [hS] at this ⊢
        exact this
      · have hlt : idx < c1 := by
          have := (List.getElem?_eq_some_iff.1 hr').1
          simp at this
          omega
        rw [List.getElem?_append_left (by omega)] at hr'
        refine World.rangeAt_setCells_apart (hlift idx r' hr') _ _ _ (.inr (.inl ?_))
        rw [Rc.len, hS]
        omega
    · have hne : ¬ r.key = d' := fun e' => e (by rw [hi, e']; exact (pos_at hd').symm)
      rw [if_neg hne, List.append_nil]
      intro idx r' hr'
      refine World.rangeAt_setCells_apart (hlift idx r' hr') _ _ _ (.inr ?_)
      simp only [Rc.len]
      have hidx := (List.getElem?_eq_some_iff.1 hr').1
      have hle := grp_len_le rs q d'
      have hcnt := cnts_at hd'
      obtain ⟨hl', hcnt'⟩ := List.getElem?_eq_some_iff.1 hcnt
      obtain ⟨hl2, hcnt2⟩ := List.getElem?_eq_some_iff.1 (cnts_at hat)
      by_cases e3 : i' < i
      · left
        have := st_before (cnts (keys rs)) e3 (by omega)
        rw [hcnt'] at this
        rw [hS]
        omega
      · right
        have := st_before (cnts (keys rs)) (i := i) (j := i') (by omega) (by omega)
        rw [hcnt2, ← hS, ← hC] at this
        omega
  · simp [World.setCell, size_setCells]
    omega
/-- What byObject leaves. -/
structure Grps (w : World) (rs : List Rc) (X Y m : Nat) (w' : World) : Prop where
  len : m = (dist (keys rs)).length
  cell : ∀ (i : Nat) (d : List UInt8), (dist (keys rs))[i]? = some d → w'.cell? ⟨X, i, none⟩ = some (.slice (some ⟨Y, st (cnts (keys rs)) i * 14, none⟩) (grp rs d).length (cnt (keys rs) d))
  rows : ∀ (i : Nat) (d : List UInt8), (dist (keys rs))[i]? = some d → RowAt w' Y (st (cnts (keys rs)) i * 14) (grp rs d)
  bel : Below w.heap.size w w'
theorem grps_of {w wr : World} {n X Y m cp : Nat} {sa : Option Addr} {rs : List Rc} (J : InvB w n X Y sa m cp rs m n wr) (hn : n = rs.length) : Grps w rs X Y m wr := by
  have ht : rs.take n = rs := List.take_of_length_le (by omega)
  obtain ⟨os, p1, p2⟩ := J.ob
  have hr := J.rows
  rw [ht] at hr p2
  refine ⟨J.len, fun i d hd => ?_, hr, J.bel⟩
  have him : i < m := by rw [J.len]; exact (List.getElem?_eq_some_iff.1 hd).1
  rw [p1.cellAt i (by omega), p2 i d him hd]

/-- A block of one record, just laid. -/
theorem cells_new (W : World) (r : Rc) (N : Nat) (hN : N = W.heap.size) : ∀ (j : Nat) (u : Value), r.cells[j]? = some u → (W.alloc (.cells r.arr 34)).cell? ((⟨N, 0, none⟩ : Addr).add j) = some u := fun j u hj => by
  subst hN
  rw [Addr.add_mid, cell_of_row _ _ _ r.arr 34 (0, 0) (heap_alloc_new W _)]
  simpa [Rc.cells, Rc.arr] using hj
theorem cells_one (r : Rc) : ∀ u ∈ r.cells, u.oneCell' = true := by
  intro u hu
  simp only [Rc.cells, List.mem_cons, List.not_mem_nil, or_false] at hu
  rcases hu with h | h | h | h | h | h | h | h | h | h | h | h | h | h <;> subst h <;> rfl
theorem room_at {W : World} {Y n S c C : Nat} (h : W.there Y 0 (n * 14)) (hc : c + 1 ≤ C) (hS : S + C ≤ n) {r : Rc} : ∀ j, j < r.cells.length → (W.cell? ⟨Y, S * 14 + c * 14 + j, none⟩).isSome = true ∧ W.frozen? ⟨Y, S * 14 + c * 14 + j, none⟩ = false := fun j hj => by
  rw [Rc.len] at hj
  have := h (S * 14 + c * 14 + j) (by omega)
  simpa using this

/-- What the loads of the third loop's statement read, behind each of its steps. -/
def Held3 (B N q i : Nat) (r : Rc) (w' : World) : Prop := w'.cell? ⟨B, q, none⟩ = some (.int .i64 (i : Nat)) ∧ w'.rangeAt N 0 r.cells
theorem Held3.start {wr : World} {B q i : Nat} {r : Rc} (h : wr.cell? ⟨B, q, none⟩ = some (.int .i64 (i : Nat))) : Held3 B wr.heap.size q i r (wr.alloc (.cells r.arr 34)).drew :=
  ⟨by rw [World.cell?_drew, World.cell?_alloc_lt _ _ _ (block_lt_of_cell h)]; exact h, fun j v hj => by
    have := cells_new wr r _ rfl j v hj
    rw [Addr.add_mid] at this
    exact this⟩
theorem Held3.alloc {W : World} {B N q i : Nat} {r : Rc} (h : Held3 B N q i r W) (ob : Obj) : Held3 B N q i r (W.alloc ob) :=
  ⟨by rw [World.cell?_alloc_lt _ _ _ (block_lt_of_cell h.1)]; exact h.1, World.rangeAt_alloc h.2 ob⟩
theorem Held3.setCells {W : World} {B N q i Y : Nat} {r : Rc} (h : Held3 B N q i r W) (h1 : B ≠ Y) (h2 : N ≠ Y) (o : Nat) (vs : List Value) : Held3 B N q i r (W.setCells Y o vs) :=
  ⟨by rw [World.cell?_setCells_out Y vs o W ⟨B, q, none⟩ (fun e => absurd e h1)]; exact h.1, World.rangeAt_setCells_apart h.2 Y o vs (.inl h2)⟩
theorem Held3.setCell {W : World} {B N q i X : Nat} {r : Rc} (h : Held3 B N q i r W) (h1 : B ≠ X) (h2 : N ≠ X) (o : Nat) (v : Value) : Held3 B N q i r (W.setCell ⟨X, o, none⟩ v) :=
  h.setCells h1 h2 o [v]
theorem cells_all {w : World} {b : Nat} {r : Rc} (h : w.rangeAt b 0 r.cells) :
    w.cell? ⟨b, 0, none⟩ = some (.string r.ses) ∧ w.cell? ⟨b, 1, none⟩ = some (.string r.obj) ∧ w.cell? ⟨b, 2, none⟩ = some (.int .i64 r.kind) ∧ w.cell? ⟨b, 3, none⟩ = some (.string r.nm) ∧ w.cell? ⟨b, 4, none⟩ = some (.string r.arg) ∧ w.cell? ⟨b, 5, none⟩ = some (.string r.val) ∧ w.cell? ⟨b, 6, none⟩ = some (.int .i64 r.out) ∧ w.cell? ⟨b, 7, none⟩ = some (.int .i64 r.line) ∧ w.cell? ⟨b, 8, none⟩ = some (.int .i64 r.id) ∧ w.cell? ⟨b, 9, none⟩ = some (.int .i64 r.lev) ∧ w.cell? ⟨b, 10, none⟩ = some (.bool r.timed) ∧ w.cell? ⟨b, 11, none⟩ = some (.int .u64 r.st) ∧ w.cell? ⟨b, 12, none⟩ = some (.int .u64 r.en) ∧ w.cell? ⟨b, 13, none⟩ = some (.int .i64 r.tx) :=
  ⟨h 0 _ rfl, h 1 _ rfl, h 2 _ rfl, h 3 _ rfl, h 4 _ rfl, h 5 _ rfl, h 6 _ rfl, h 7 _ rfl, h 8 _ rfl, h 9 _ rfl, h 10 _ rfl, h 11 _ rfl, h 12 _ rfl, h 13 _ rfl⟩

set_option linter.unusedSimpArgs false in
set_option maxHeartbeats 8000000 in
theorem byObject_any (a : Option Addr) (b off n c : Nat) (rs : List Rc) (w : World) (ha : Hid (0 < n → a = some ⟨b, off, none⟩)) (hn : Hid (n = rs.length)) (hs : n ≤ 6898) (hc : RowAt w b off rs) (hb : Hid (0 < n → b < w.heap.size)) (hok : ∀ r ∈ rs, r.ok) :
    Calls Try.prog 14 #[.slice a n c] w fun e w' => ∃ X Y m : Nat, e = .returned (.slice (some ⟨X, 0, none⟩) m m) ∧ Grps w rs X Y m w' := by
  obtain ⟨i0, hi, hz0, hz1, hz2⟩ := info_parts Try.info3
  obtain ⟨i25, hi25, hy0, hy1, hy2⟩ := info_parts Try.info25
  obtain ⟨i34, hi34, hx0, hx1, hx2⟩ := info_parts Try.info34'
  have hmm := @run_makeMap Try.prog
  go_enter Try.func14, Try.ntmps14
  go_wp2_with (at_make; refine wpList_make_full _ rfl _ _ 40 rfl (w.heap.size + 1) 3 i0 _ 1 Try.underlying40 hi hz0 hz1 .i64 .i64 _ _ n rfl rfl rfl rfl (by rw [hz2]; omega) (by unfold maxLen; omega) (by simp) ?_; intro w1 hown hgrow)
  have I0 := inv1_start (keys rs) (by simpa using hown) hgrow
  clear hmm hown hgrow
  go_loopw [5, 23] (fun v i wr => ∃ (k : Nat) (sa : Option Addr) (m cp : Nat), k ≤ n ∧ i = .int .i64 k ∧ v = .slice sa m cp ∧ m ≤ k ∧ Inv1 w n (keys rs) k sa m cp wr) (fun _ i _ => n - (intOf i).toNat)
  case atStart => exact ⟨0, _, _, _, Nat.zero_le _, rfl, rfl, Nat.le_refl _, I0⟩
  case round =>
    clear I0
    obtain ⟨k, sa, m, cp, hk, rfl, rfl, hmk, I⟩ := hrel
    by_cases hlt : k < n
    · obtain rfl := ha.out (by omega)
      have hb' := hb.out (by omega)
      obtain ⟨r, hmem, hr, hcr⟩ := hc.get (k := k) (by rw [← hn.out]; exact hlt)
      have hHr : Hid (rs[k]? = some r) := hr
      have hcr' : wr.rangeAt b (off + k * 14) r.cells := fun j v hj => by rw [I.bel.cell (p := ⟨b, _, none⟩) hb']; exact hcr j v hj
      have hobj : r.obj.size ≤ maxLen := (hok r hmem).obj
      clear hcr hr hc hmem hok
      obtain ⟨oc, ho1, ho2⟩ := I.oc
      by_cases hin : r.key ∈ dist ((keys rs).take k)
      · obtain ⟨g, q, c0, rfl, hq, hQ, hC, hck, c1, f1, ⟨v1, c2⟩, f2, hg2, hg3, hws⟩ := old_facts I hin hlt ho1
        have hhit : objMap ((keys rs).take k) (.string r.obj) (.int .i64 (q : Nat)) := ⟨r.obj, rfl, hin, by rw [hQ.out]; rfl⟩
        have hmap := fun ob => I.map.of_block (w' := wr.alloc ob) (Below.heap_alloc wr ob _ I.map.lt)
        have HI : Hid (Inv1 w n (keys rs) k (some ⟨g, 0, none⟩) m cp wr) := I
        have hkey := WideMaps.keyOf_string_mk Try.underlying9 hobj
        have hD : Hid (r.key ∈ dist ((keys rs).take k)) := hin
        clear I hin
        go_wp2_with (first
          | (with_reducible refine here_load 34 _ rfl ?_; refine wpList_load_rc rfl 34 _ rfl b (off + k * 14) rfl r _ hcr' Try.underlying34 rfl Try.size34' ?_)
          | (at_lookup; refine wpList_look_hit _ rfl _ _ 49 rfl law9 Try.underlying49 w.heap.size rfl (hmap _) _ _ _ rfl hkey hhit ?_)
          )
        go_roundw
        case rel => exact ⟨k + 1, _, _, _, by omega, by go_num, rfl, by omega, (inv1_old HI.out (keys_at hHr.out) hD.out ho1 ho2 hQ.out hC.out hlt (by rw [keys_len]; exact hn.out.symm)).alloc _⟩
        case measure => simp [intOf]; omega
      · have hmiss : ∀ v, ¬ objMap ((keys rs).take k) (.string r.obj) v := by
          rintro v ⟨s, h1, h2, _⟩
          cases h1
          exact hin h2
        have hmap := fun ob => I.map.of_block (w' := wr.alloc ob) (Below.heap_alloc wr ob _ I.map.lt)
        have HI : Hid (Inv1 w n (keys rs) k sa m cp wr) := I
        have hkey := WideMaps.keyOf_string_mk Try.underlying9 hobj
        have hsz2 : ∀ w2, Only w.heap.size (wr.alloc (.cells r.arr 34)) w2 → ∀ ob, (w2.alloc ob).ownsRow (w.heap.size + 2) 3 1 (.slice sa m cp) m ((cnts ((keys rs).take k)).map fun c => Value.int .i64 (c : Nat)) := fun w2 h2 ob => (owns_only ((I.sz).alloc _) h2 (by omega)).alloc ob
        have hws : w.heap.size + 1 < wr.heap.size := (ho1.lt _ rfl).2
        have hD : Hid (¬ r.key ∈ dist ((keys rs).take k)) := hin
        clear I hin
        go_wp2_with (first
          | (with_reducible refine here_load 34 _ rfl ?_; refine wpList_load_rc rfl 34 _ rfl b (off + k * 14) rfl r _ hcr' Try.underlying34 rfl Try.size34' ?_)
          | (at_lookup; refine wpList_look_miss _ rfl _ _ 49 rfl law9 Try.underlying49 w.heap.size rfl (hmap _) _ _ _ rfl hkey hmiss (zero3 _) ?_)
          | (at_mapUpdate; refine wpList_mupd _ rfl _ _ _ 49 rfl law9 Try.underlying49 w.heap.size rfl (hmap _) _ _ _ rfl rfl hkey ?_; intro w2 hmap2 honly2)
          | (at_builtin; refine wpList_push _ rfl _ _ 40 rfl (w.heap.size + 2) 3 i0 (.int .i64 0) 8 Try.underlying40 hi hz0 hz1 hz2 rfl _ m _ rfl (hsz2 _ honly2 _) _ 1 (.int .i64 0) rfl (by simp) rfl (by unfold maxLen; omega) (by omega) (by have := honly2.size; simp at this ⊢; omega) ?_; intro g cap w3 hown3 hgrow3; obtain ⟨ho3, ⟨v1, c1⟩, f1, c2, f2, hg2⟩ := new_facts ho1 HI.out.sz honly2 hown3 hgrow3 hlt)
          )
        go_roundw
        case rel => exact ⟨k + 1, _, _, _, by omega, by go_num, rfl, by omega, inv1_new HI.out (keys_at hHr.out) hD.out ho2 hmap2 honly2 hown3 hgrow3 ho3 hlt (by rw [keys_len]; exact hn.out.symm)⟩
        case measure => simp [intOf]; omega
    · have HC : Hid (RowAt w b off rs) := hc
      clear hc
      go_wp2_with (first
        | (at_make; refine wpList_make_full _ rfl _ _ 27 rfl 0 25 i25 _ 1 Try.underlying27 hi25 hy0 hy1 .i64 .i64 _ _ m rfl rfl rfl rfl (by rw [hy2]; omega) (by unfold maxLen; omega) (by omega) ?_; intro w4 hown4 hgrow4)
        | (at_make; refine wpList_make_full _ rfl _ _ 25 rfl 0 34 i34 _ 14 Try.underlying25 hi34 hx0 hx1 .i64 .i64 _ _ n rfl rfl rfl rfl (by rw [hx2]; omega) (by unfold maxLen; omega) (by omega) ?_; intro w5 hown5 hgrow5))
      obtain rfl : k = n := by omega
      have J0 := invB_start I hn.out hown4 hgrow4 hown5 hgrow5
      generalize wr.heap.size = X at J0 ⊢
      generalize w4.heap.size = Y at J0 ⊢
      clear hown4 hgrow4 hown5 hgrow5 I w4 wr
      go_loopw [12, 65] (fun s i wr => ∃ j S : Nat, j ≤ m ∧ i = .int .i64 j ∧ s = .int .i64 S ∧ Hid (S = st (cnts (keys rs)) j) ∧ InvB w k X Y sa m cp rs j 0 wr) (fun _ i _ => m - (intOf i).toNat)
      case atStart => exact ⟨0, 0, Nat.zero_le _, rfl, rfl, (st_zero _).symm, J0⟩
      case round =>
        clear J0
        obtain ⟨j, S, hj, rfl, rfl, hS, J⟩ := hrel
        by_cases hjm : j < m
        · obtain ⟨g, c1, rfl, hc0, hc1, hcj, e1, ⟨v1, e2⟩, e3⟩ := two_facts J hjm hS.out hn.out
          have HJ : Hid (InvB w k X Y (some ⟨g, 0, none⟩) m cp rs j 0 wr) := J
          clear J
          go_wp2
          go_roundw
          case rel => exact ⟨j + 1, S + c1, by omega, by go_num, by go_num, st_next hS.out hcj.out, invB_two HJ.out hjm hS.out hcj.out⟩
          case measure => simp [intOf]; omega
        · obtain rfl : j = m := by omega
          clear hS
          go_wp2
          go_loopw [86] (fun i wr => ∃ a : Nat, a ≤ k ∧ i = .int .i64 a ∧ InvB w k X Y sa j cp rs j a wr) (fun i _ => k - (intOf i).toNat)
          case atStart => exact ⟨0, Nat.zero_le _, rfl, J⟩
          case round =>
            clear J
            rename_i wr0 wr
            obtain ⟨q, hqk, rfl, J⟩ := hrel
            by_cases hqn : q < k
            · obtain rfl := ha.out (by omega)
              have hb' := hb.out (by omega)
              obtain ⟨r, hmem, hr, hcr⟩ := HC.out.get (k := q) (by rw [← hn.out]; exact hqn)
              have hHr : Hid (rs[q]? = some r) := hr
              have hcr' : wr.rangeAt b (off + q * 14) r.cells := fun j v hj => by rw [J.bel.cell (p := ⟨b, _, none⟩) hb']; exact hcr j v hj
              clear hcr hr hmem
              obtain ⟨i, c1, C, S, hH, him, hcC, hSn, e1, e2, e3⟩ := three_facts J hqn hHr.out hn.out
              have hX1 := J.hX
              have hX2 := J.hXY
              have hX3 := J.hY
              have hX4 : X < wr.heap.size := by omega
              have hX5 : w.heap.size + 1 < wr.heap.size := by omega
              have hX6 : X < wr.heap.size + 1 := by omega
              have hX7 : w.heap.size < wr.heap.size := by omega
              have HJ : Hid (InvB w k X Y sa j cp rs j q wr) := J
              clear J hi hz0 hz1 hz2 hi25 hy0 hy1 hy2 hx0 hx2 hok
              go_wp2_with (with_reducible refine here_load 34 _ rfl ?_; refine wpList_load_rc rfl 34 _ rfl b (off + q * 14) rfl r _ hcr' Try.underlying34 rfl Try.size34' ?_)
              have hal : ∀ ob ob' : Obj, ((wr.alloc ob).alloc ob').there Y 0 (k * 14) := fun ob ob' => World.there_alloc (World.there_alloc HJ.out.al ob) ob'
              have hc6 : ∀ (W : World) (o : Nat) (vs : List Value), (W.setCells Y o vs).cell? ⟨X, i, none⟩ = W.cell? ⟨X, i, none⟩ := fun W o vs => World.cell?_setCells_out Y vs o W ⟨X, i, none⟩ (fun h => absurd h (by show X ≠ Y; omega))
              have hf6 : ∀ (W : World) (o : Nat) (vs : List Value), (W.setCells Y o vs).frozen? ⟨X, i, none⟩ = W.frozen? ⟨X, i, none⟩ := fun W o vs => World.frozen?_setCells Y vs o W ⟨X, i, none⟩
              have hc7 : ∀ (W : World) (o : Nat) (vs : List Value), (W.setCells Y o vs).cell? ⟨w.heap.size + 1, q, none⟩ = W.cell? ⟨w.heap.size + 1, q, none⟩ := fun W o vs => World.cell?_setCells_out Y vs o W ⟨w.heap.size + 1, q, none⟩ (fun h => absurd h (by show w.heap.size + 1 ≠ Y; omega))
              have hX8 : ¬ X = w.heap.size + 1 := by omega
              have hX9 : ¬ w.heap.size + 1 = X := by omega
              refine wp_region_held_drew (S := Held3 (w.heap.size + 1) wr.heap.size q i r) (by kernel_rfl) (Held3.start e1) (fun hHeld => ?_)
              refine wpAnyH_take (i := 0) (v := ?_) rfl (by kernel_rfl) (by kernel_rfl) (by kernel_rfl) (fun _ _ _ h => h) (Or.inl ⟨by rfl, ?_⟩) (by assumption) ?_
              rotate_left
              · intro wq hSw
                obtain ⟨hS1, hS2⟩ := hSw
                go_simp
                rfl
              simp only [Act.put, List.setIfInBounds_toArray, List.set_cons_zero, List.set_cons_succ]
              refine wpAnyH_take (i := 1) (v := ?_) rfl (by kernel_rfl) (by kernel_rfl) (by kernel_rfl) (fun _ _ _ h => h) (Or.inl ⟨by rfl, ?_⟩) (by assumption) ?_
              rotate_left
              · intro wq hSw
                obtain ⟨hS1, hS2⟩ := hSw
                go_simp
                rfl
              simp only [Act.put, List.setIfInBounds_toArray, List.set_cons_zero, List.set_cons_succ]
              refine wpAnyH_take (i := 2) (v := ?_) rfl (by kernel_rfl) (by kernel_rfl) (by kernel_rfl) (fun _ _ _ h => h) (Or.inl ⟨by rfl, ?_⟩) (by assumption) ?_
              rotate_left
              · intro wq hSw
                obtain ⟨hS1, hS2⟩ := hSw
                go_simp
                rfl
              simp only [Act.put, List.setIfInBounds_toArray, List.set_cons_zero, List.set_cons_succ]
              refine wpAnyH_take (i := 3) (v := ?_) rfl (by kernel_rfl) (by kernel_rfl) (by kernel_rfl) (fun _ _ _ h => h) (Or.inl ⟨by rfl, ?_⟩) (by assumption) ?_
              rotate_left
              · intro wq hSw
                obtain ⟨hS1, hS2⟩ := hSw
                go_simp
                rfl
              simp only [Act.put, List.setIfInBounds_toArray, List.set_cons_zero, List.set_cons_succ]
              refine wpAnyH_take (i := 4) (v := ?_) rfl (by kernel_rfl) (by kernel_rfl) (by kernel_rfl) (fun _ _ _ h => h) (Or.inl ⟨by rfl, ?_⟩) (by assumption) ?_
              rotate_left
              · intro wq hSw
                obtain ⟨hS1, hS2⟩ := hSw
                go_simp
                rfl
              simp only [Act.put, List.setIfInBounds_toArray, List.set_cons_zero, List.set_cons_succ]
              refine wpAnyH_take (i := 5) (v := ?_) rfl (by kernel_rfl) (by kernel_rfl) (by kernel_rfl) (fun _ _ _ h => h) (Or.inl ⟨by rfl, ?_⟩) (by assumption) ?_
              rotate_left
              · intro wq hSw
                obtain ⟨hS1, hS2⟩ := hSw
                go_simp
                rfl
              simp only [Act.put, List.setIfInBounds_toArray, List.set_cons_zero, List.set_cons_succ]
              refine wpAnyH_take (i := 6) (v := ?_) rfl (by kernel_rfl) (by kernel_rfl) (by kernel_rfl) (fun _ _ _ h => h) (Or.inl ⟨by rfl, ?_⟩) (by assumption) ?_
              rotate_left
              · intro wq hSw
                obtain ⟨hS1, hS2⟩ := hSw
                go_simp
                rfl
              simp only [Act.put, List.setIfInBounds_toArray, List.set_cons_zero, List.set_cons_succ]
              refine wpAnyH_take (i := 7) (v := ?_) rfl (by kernel_rfl) (by kernel_rfl) (by kernel_rfl) (fun _ _ _ h => h) (Or.inl ⟨by rfl, ?_⟩) (by assumption) ?_
              rotate_left
              · intro wq hSw
                obtain ⟨hS1, hS2⟩ := hSw
                go_simp
                rfl
              simp only [Act.put, List.setIfInBounds_toArray, List.set_cons_zero, List.set_cons_succ]
              refine wpAnyH_take (i := 8) (v := ?_) rfl (by kernel_rfl) (by kernel_rfl) (by kernel_rfl) (fun _ _ _ h => h) (Or.inl ⟨by rfl, ?_⟩) (by assumption) ?_
              rotate_left
              · intro wq hSw
                obtain ⟨hS1, hS2⟩ := hSw
                go_simp
                rfl
              simp only [Act.put, List.setIfInBounds_toArray, List.set_cons_zero, List.set_cons_succ]
              refine wpAnyH_take (i := 9) (v := ?_) rfl (by kernel_rfl) (by kernel_rfl) (by kernel_rfl) (fun _ _ _ h => h) (Or.inl ⟨by rfl, ?_⟩) (by assumption) ?_
              rotate_left
              · intro wq hSw
                obtain ⟨hS1, hS2⟩ := hSw
                go_simp
                rfl
              simp only [Act.put, List.setIfInBounds_toArray, List.set_cons_zero, List.set_cons_succ]
              refine wpAnyH_take (i := 10) (v := ?_) rfl (by kernel_rfl) (by kernel_rfl) (by kernel_rfl) (fun _ _ _ h => h) (Or.inl ⟨by rfl, ?_⟩) (by assumption) ?_
              rotate_left
              · intro wq hSw
                obtain ⟨hS1, hS2⟩ := hSw
                go_simp
                rfl
              simp only [Act.put, List.setIfInBounds_toArray, List.set_cons_zero, List.set_cons_succ]
              refine wpAnyH_take (i := 12) (v := .agg r.arr) rfl (by kernel_rfl) (by kernel_rfl) (by kernel_rfl) (fun _ _ _ h => h) (Or.inl ⟨by rfl, ?_⟩) (by assumption) ?_
              · intro wq hSw
                obtain ⟨y0, y1, y2, y3, y4, y5, y6, y7, y8, y9, y10, y11, y12, y13⟩ := cells_all hSw.2
                clear hSw
                go_simp
              simp only [Act.put, List.setIfInBounds_toArray, List.set_cons_zero, List.set_cons_succ]
              refine wpAnyH_ready (rs := [11, 13]) (by kernel_rfl) (by simp) ?_
              refine AllReadyH.cons rfl (fun K hK => ?_) ?_
              · go_simp
                refine hK.out _ _ hHeld (fun hHeld2 => ?_)
                clear hK K hHeld2
                refine wpAnyH_ready (rs := [13]) (by kernel_rfl) (by simp) ?_
                refine AllReadyH.cons rfl (fun K hK => ?_) AllReadyH.nil
                go_simp
                refine hK.out _ _ (hHeld.alloc _) (fun hHeld3 => ?_)
                clear hK K hHeld
                refine wpAnyH_ready (rs := [14]) (by kernel_rfl) (by simp) ?_
                refine AllReadyH.cons rfl (fun K hK => ?_) AllReadyH.nil
                refine step_append_room rfl (.tmp 102) (.tmp 104) 25 rfl 34 i34 14 Try.underlying25 hi34 hx1 Y (S * 14) c1 C (by simp [Act.eval]) ⟨wr.heap.size + 1, 0, none⟩ 1 1 r.cells (by simp [Act.eval]) rfl (cells_new _ r _ (by simp)) (cells_one r) (by omega) (room_at (hal _ _) hcC hSn) ?_
                refine hK.out _ _ (hHeld3.setCells (by omega) (by omega) _ _) (fun hHeld4 => ?_)
                clear hK K hHeld3
                simp only [Act.put, List.setIfInBounds_toArray, List.set_cons_zero, List.set_cons_succ]
                refine wpAnyH_take (i := 15) (v := ?_) rfl (by kernel_rfl) (by kernel_rfl) (by kernel_rfl) (fun _ _ _ h => h) (Or.inl ⟨by rfl, ?_⟩) (by assumption) ?_
                rotate_left
                · intro wq hSw
                  clear hSw
                  go_simp
                  rfl
                simp only [Act.put, List.setIfInBounds_toArray, List.set_cons_zero, List.set_cons_succ]
                refine wpAnyH_ready (rs := [16]) (by kernel_rfl) (by simp) ?_
                refine AllReadyH.cons rfl (fun K hK => ?_) AllReadyH.nil
                go_simp
                refine hK.out _ _ (hHeld4.setCell (by omega) (by omega) _ _) (fun hHeld5 => ?_)
                clear hK K hHeld4 hHeld5
                refine wpAnyH_done (by kernel_rfl) ?_ _
                go_wp2
                go_roundw
                case rel => exact ⟨q + 1, by omega, by go_num, invB_three HJ.out hHr.out hH.out hcC hSn _ _⟩
                case measure => simp [intOf]; omega
              · refine AllReadyH.cons rfl (fun K hK => ?_) AllReadyH.nil
                go_simp
                refine hK.out _ _ (hHeld.alloc _) (fun hHeld2 => ?_)
                clear hK K hHeld
                refine wpAnyH_ready (rs := [11]) (by kernel_rfl) (by simp) ?_
                refine AllReadyH.cons rfl (fun K hK => ?_) AllReadyH.nil
                go_simp
                refine hK.out _ _ hHeld2 (fun hHeld3 => ?_)
                clear hK K hHeld2
                refine wpAnyH_ready (rs := [14]) (by kernel_rfl) (by simp) ?_
                refine AllReadyH.cons rfl (fun K hK => ?_) AllReadyH.nil
                refine step_append_room rfl (.tmp 102) (.tmp 104) 25 rfl 34 i34 14 Try.underlying25 hi34 hx1 Y (S * 14) c1 C (by simp [Act.eval]) ⟨wr.heap.size + 1, 0, none⟩ 1 1 r.cells (by simp [Act.eval]) rfl (cells_new _ r _ (by simp)) (cells_one r) (by omega) (room_at (hal _ _) hcC hSn) ?_
                refine hK.out _ _ (hHeld3.setCells (by omega) (by omega) _ _) (fun hHeld4 => ?_)
                clear hK K hHeld3
                simp only [Act.put, List.setIfInBounds_toArray, List.set_cons_zero, List.set_cons_succ]
                refine wpAnyH_take (i := 15) (v := ?_) rfl (by kernel_rfl) (by kernel_rfl) (by kernel_rfl) (fun _ _ _ h => h) (Or.inl ⟨by rfl, ?_⟩) (by assumption) ?_
                rotate_left
                · intro wq hSw
                  clear hSw
                  go_simp
                  rfl
                simp only [Act.put, List.setIfInBounds_toArray, List.set_cons_zero, List.set_cons_succ]
                refine wpAnyH_ready (rs := [16]) (by kernel_rfl) (by simp) ?_
                refine AllReadyH.cons rfl (fun K hK => ?_) AllReadyH.nil
                go_simp
                refine hK.out _ _ (hHeld4.setCell (by omega) (by omega) _ _) (fun hHeld5 => ?_)
                clear hK K hHeld4 hHeld5
                refine wpAnyH_done (by kernel_rfl) ?_ _
                go_wp2
                go_roundw
                case rel => exact ⟨q + 1, by omega, by go_num, invB_three HJ.out hHr.out hH.out hcC hSn _ _⟩
                case measure => simp [intOf]; omega
            · obtain rfl : q = k := by omega
              have G := grps_of J hn.out
              clear J
              go_wp2
              go_ret
              exact ⟨X, Y, _, rfl, G⟩
end Go.Proofs.Qxb6604280a
