import Derived.Test.Qxb6604280aPartsB
import Derived.Test.Qxb6604280aMaps
import Derived.Test.Qxb6604280aPlain
import Derived.Test.Qxb6604280aRows
namespace Go.Proofs.Qxb6604280a
open Go.RowKit

/-- An object's name, as a list of bytes. -/
def Rc.key (r : Rc) : List UInt8 := r.obj.data.toList
def keys (rs : List Rc) : List (List UInt8) := rs.map Rc.key
theorem keys_len (rs : List Rc) : (keys rs).length = rs.length := by simp [keys]

/-- One element pushed on a row of the call's own: the new value's shape told. -/
theorem wpList_push {P : Program} (w : World) {ops : Array Oper} {rest : List Oper} {o : Oper} {a : Act} {Q : Exit → Act → World → Prop} (hgd : o.guard = none) (s x : Operand) (t : TypeId)
    (ho : o.op = .call { callee := .builtin .append, args := #[s, x], argTypes := #[t, t] })
    (base : Nat) (e : TypeId) (i : TypeInfo) (z : Value) (bytes : Nat) (ht : P.underlying t = some (.slice e)) (hi : P.info? e = some i) (hz : i.zero = some z)
    (hsize : i.size = 1) (hby : i.bytes = bytes) (hzs : z.cells.size = 1)
    (v : Value) (n : Nat) (xs : List Value) (hs : a.eval s = v) (hown : w.ownsRow base e 1 v n xs)
    (ad : Addr) (c : Nat) (y : Value) (hx : a.eval x = .slice (some ad) 1 c) (hnews : w.cell? ad = some y) (h1 : y.oneCell' = true)
    (h63 : n + 1 ≤ maxLen) (hbytes : (n + 1) * bytes ≤ 140737488355328) (hbase : base ≤ w.heap.size)
    (h : ∀ g cap w', w'.ownsRow base e 1 (.slice (some ⟨g, 0, none⟩) (n + 1) cap) (n + 1) (xs ++ [y]) → w.grownBy w' v.ownBlock → wpList P ops Q rest (a.put o.dst (.slice (some ⟨g, 0, none⟩) (n + 1) cap)) w') : wpList P ops Q (o :: rest) a w := by
  refine wpList_append_own w hgd s x t ho base e i z 1 bytes ht hi hz hsize hby hzs (by decide) v n xs hs hown ad 1 c [y] hx rfl (fun j u hj => ?_) (fun u hu => ?_) h63 hbytes hbase (fun v' w' h2 h3 h4 => ?_)
  · match j, hj with
    | 0, hj =>
      simp at hj
      subst hj
      have : ad.add 0 = ad := by obtain ⟨b, o, sp⟩ := ad; cases sp <;> simp [Addr.add]
      rw [this]; exact hnews
  · simp at hu; subst hu; exact h1
  · rcases h2.2 with ⟨_, h0⟩ | ⟨g, cap, cur, rfl, _⟩
    · omega
    · exact h g cap w' h2 h3
end Go.Proofs.Qxb6604280a
