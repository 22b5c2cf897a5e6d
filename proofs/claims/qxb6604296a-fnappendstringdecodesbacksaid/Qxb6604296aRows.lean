/-
  No cell of these rows narrows 'for every input' (looked for: loops, veiled, ifaces, maps, wideKeys, modest, calm, conditions, laid).
  DERIVED. THE GIVEN ROWS OF THIS SEAT. 2 by the template 'for every input the law returns true; each argument reads behind the call as it read before'; 0 by the template 'total and deterministic' (their statements: Qxb6604296aTotals.lean).
  GIVEN WITH THE SEED: the statements are not yours to turn. If you find one false, say at which input.
  Laid BY PROGRAM, IN A SANDBOX (cutbox-rows.mjs): the forced cells as the released guide's own fill.sh prints them over the translation b117c575d8a5cd42… (all of the seat's roots in one cut). By AI agents, Wed Nov 11 2026. No macro, syntax, notation, axiom, sorry.
-/
import Derived.Test.Qxb6604296aChecked
import GoSem.Claim
import GoSem.ClaimJoined
import GoSem.ClaimMapViews
import Derived.JoinedTies
import Derived.KernelRfl
namespace Go.Proofs.Qxb6604296a
/- THE CELL 'sum', in the pinned program and in every row, IS THE sha256 OF THE DUMP (.gsa) THAT Qxb6604296aProg.lean LOADS. Nothing in Lean hashes anything: it is a label: what it is worth is what the hold of that sum in a sandbox is worth. -/
noncomputable def Try.pinned : Pinned := { name := "qxb6604296a", sum := "b117c575d8a5cd42adf93df8faee10283ea41d677990b531d8ad6f1c26a23622", checked := Try.checked }
namespace Rows
def none {H : Type} : Left H := { results := [], args := [] }

/-- 'zzlaws_table_b1.FnAppendStringDecodesBack': WHATEVER THE INPUT: true; the input reads as it did. -/
def fnAppendStringDecodesBackSpec : ChangeSpec := { name := "fnAppendStringDecodesBack", fn := fun _ => fun
  | [d1, d2] => { results := [.lit (.bool true)], args := [d1, d2] }
  | _ => none }
def fnAppendStringDecodesBackRow : OpenClaim := { program := "qxb6604296a", sum := "b117c575d8a5cd42adf93df8faee10283ea41d677990b531d8ad6f1c26a23622", func := "example.com/pressrun/pressrun/zzlaws_table_b1.FnAppendStringDecodesBack", spec := "fnAppendStringDecodesBack", apart := false }
def FnAppendStringDecodesBackSaid : Prop := fnAppendStringDecodesBackRow.holds Try.pinned (OpenSpec.ofChange fnAppendStringDecodesBackSpec)

/-- ITS FALSE NEIGHBOUR: 'it returns false'. Refute it at one input. -/
def fnAppendStringDecodesBackWrong : ChangeSpec := { name := "fnAppendStringDecodesBack", fn := fun _ => fun
  | [d1, d2] => { results := [.lit (.bool false)], args := [d1, d2] }
  | _ => none }
def FnAppendStringDecodesBackWrongFalsely : Prop := fnAppendStringDecodesBackRow.holds Try.pinned (OpenSpec.ofChange fnAppendStringDecodesBackWrong)

/-- 'zzlaws_table_b1.FnAppendStringSplitsOverConcatenation': WHATEVER THE INPUT: true; the input reads as it did. -/
def fnAppendStringSplitsOverConcatenationSpec : ChangeSpec := { name := "fnAppendStringSplitsOverConcatenation", fn := fun _ => fun
  | [d1, d2] => { results := [.lit (.bool true)], args := [d1, d2] }
  | _ => none }
def fnAppendStringSplitsOverConcatenationRow : OpenClaim := { program := "qxb6604296a", sum := "b117c575d8a5cd42adf93df8faee10283ea41d677990b531d8ad6f1c26a23622", func := "example.com/pressrun/pressrun/zzlaws_table_b1.FnAppendStringSplitsOverConcatenation", spec := "fnAppendStringSplitsOverConcatenation", apart := false }
def FnAppendStringSplitsOverConcatenationSaid : Prop := fnAppendStringSplitsOverConcatenationRow.holds Try.pinned (OpenSpec.ofChange fnAppendStringSplitsOverConcatenationSpec)

/-- ITS FALSE NEIGHBOUR: 'it returns false'. Refute it at one input. -/
def fnAppendStringSplitsOverConcatenationWrong : ChangeSpec := { name := "fnAppendStringSplitsOverConcatenation", fn := fun _ => fun
  | [d1, d2] => { results := [.lit (.bool false)], args := [d1, d2] }
  | _ => none }
def FnAppendStringSplitsOverConcatenationWrongFalsely : Prop := fnAppendStringSplitsOverConcatenationRow.holds Try.pinned (OpenSpec.ofChange fnAppendStringSplitsOverConcatenationWrong)

end Rows
end Go.Proofs.Qxb6604296a
