import Derived.WalkKit
import Derived.Deep.MidRow
namespace Go.Proofs.Qxb6604280a
open Go.RowKit

/-- One operation of the history, as fourteen cells. -/
structure Rc where
  ses : ByteArray
  obj : ByteArray
  kind : Int
  nm : ByteArray
  arg : ByteArray
  val : ByteArray
  out : Int
  line : Int
  id : Int
  lev : Int
  timed : Bool
  st : Int
  en : Int
  tx : Int

def Rc.cells (r : Rc) : List Value :=
  [.string r.ses, .string r.obj, .int .i64 r.kind, .string r.nm, .string r.arg, .string r.val, .int .i64 r.out, .int .i64 r.line, .int .i64 r.id, .int .i64 r.lev, .bool r.timed, .int .u64 r.st, .int .u64 r.en, .int .i64 r.tx]
structure Rc.ok (r : Rc) : Prop where
  ses : r.ses.size ≤ 9223372036854775807
  obj : r.obj.size ≤ 9223372036854775807
  nm : r.nm.size ≤ 9223372036854775807
  arg : r.arg.size ≤ 9223372036854775807
  val : r.val.size ≤ 9223372036854775807
/-- The records rs lie one behind the other from cell off of block b on. -/
def RowAt (w : World) (b off : Nat) (rs : List Rc) : Prop := ∀ i r, rs[i]? = some r → w.rangeAt b (off + i * 14) r.cells
theorem cells_fields {w : World} {b o : Nat} {r : Rc} (h : w.rangeAt b o r.cells) :
    w.cell? ⟨b, o, none⟩ = some (.string r.ses) ∧ w.cell? ⟨b, o + 1, none⟩ = some (.string r.obj) ∧ w.cell? ⟨b, o + 2, none⟩ = some (.int .i64 r.kind) ∧ w.cell? ⟨b, o + 3, none⟩ = some (.string r.nm) ∧
    w.cell? ⟨b, o + 4, none⟩ = some (.string r.arg) ∧ w.cell? ⟨b, o + 5, none⟩ = some (.string r.val) :=
  ⟨h 0 _ rfl, h 1 _ rfl, h 2 _ rfl, h 3 _ rfl, h 4 _ rfl, h 5 _ rfl⟩
theorem RowAt.get {w : World} {b off : Nat} {rs : List Rc} (h : RowAt w b off rs) {k : Nat} (hk : k < rs.length) : ∃ r, r ∈ rs ∧ rs[k]? = some r ∧ w.rangeAt b (off + k * 14) r.cells :=
  ⟨rs[k], List.getElem_mem hk, by simp, h k _ (by simp)⟩
end Go.Proofs.Qxb6604280a
