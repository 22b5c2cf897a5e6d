/-
  No cell of these rows narrows 'for every input' (looked for: loops, veiled, ifaces, maps, wideKeys, modest, calm, conditions, laid).
  DERIVED. THE GIVEN ROWS OF THIS SEAT. 3 by the template 'for every input the law returns true; each argument reads behind the call as it read before'; 0 by the template 'total and deterministic' (their statements: Qxb6604280aTotals.lean).
  GIVEN WITH THE SEED: the statements are not yours to turn. If you find one false, say at which input.
  Laid BY PROGRAM, IN A SANDBOX (cutbox-rows.mjs): the forced cells as the released guide's own fill.sh prints them over the translation c5c131e3e3b3bdfd… (all of the seat's roots in one cut). By AI agents, Wed Nov 11 2026. No macro, syntax, notation, axiom, sorry.
-/
import Derived.Test.Qxb6604280aChecked
import GoSem.Claim
import GoSem.ClaimJoined
import GoSem.ClaimMapViews
import Derived.JoinedTies
import Derived.KernelRfl
namespace Go.Proofs.Qxb6604280a
/- THE CELL 'sum', in the pinned program and in every row, IS THE sha256 OF THE DUMP (.gsa) THAT Qxb6604280aProg.lean LOADS. Nothing in Lean hashes anything: it is a label: what it is worth is what the hold of that sum in a sandbox is worth. -/
noncomputable def Try.pinned : Pinned := { name := "qxb6604280a", sum := "c5c131e3e3b3bdfd6bfaefb2d8d2d765961445e58fae00c9053bc94fe1422590", checked := Try.checked }
namespace Rows
def none {H : Type} : Left H := { results := [], args := [] }

/-- 'zzlaws_root_b1.FnByObjectGroupsAreFiltersInFirstOrder': WHATEVER THE INPUT: true; the input reads as it did. -/
def fnByObjectGroupsAreFiltersInFirstOrderSpec : ChangeSpec := { name := "fnByObjectGroupsAreFiltersInFirstOrder", fn := fun _ => fun
  | [d] => { results := [.lit (.bool true)], args := [d] }
  | _ => none }
def fnByObjectGroupsAreFiltersInFirstOrderRow : OpenClaim := { program := "qxb6604280a", sum := "c5c131e3e3b3bdfd6bfaefb2d8d2d765961445e58fae00c9053bc94fe1422590", func := "example.com/visar/visar/zzlaws_root_b1.FnByObjectGroupsAreFiltersInFirstOrder", spec := "fnByObjectGroupsAreFiltersInFirstOrder", plainKeys := false, apart := false }
def FnByObjectGroupsAreFiltersInFirstOrderSaid : Prop := fnByObjectGroupsAreFiltersInFirstOrderRow.holds Try.pinned (OpenSpec.ofChange fnByObjectGroupsAreFiltersInFirstOrderSpec)

/-- ITS FALSE NEIGHBOUR: 'it returns false'. Refute it at one input. -/
def fnByObjectGroupsAreFiltersInFirstOrderWrong : ChangeSpec := { name := "fnByObjectGroupsAreFiltersInFirstOrder", fn := fun _ => fun
  | [d] => { results := [.lit (.bool false)], args := [d] }
  | _ => none }
def FnByObjectGroupsAreFiltersInFirstOrderWrongFalsely : Prop := fnByObjectGroupsAreFiltersInFirstOrderRow.holds Try.pinned (OpenSpec.ofChange fnByObjectGroupsAreFiltersInFirstOrderWrong)

/-- 'zzlaws_root_b1.FnNewValueWritesSpec': WHATEVER THE INPUT: true; the input reads as it did. -/
def fnNewValueWritesSpecSpec : ChangeSpec := { name := "fnNewValueWritesSpec", fn := fun _ => fun
  | [d] => { results := [.lit (.bool true)], args := [d] }
  | _ => none }
def fnNewValueWritesSpecRow : OpenClaim := { program := "qxb6604280a", sum := "c5c131e3e3b3bdfd6bfaefb2d8d2d765961445e58fae00c9053bc94fe1422590", func := "example.com/visar/visar/zzlaws_root_b1.FnNewValueWritesSpec", spec := "fnNewValueWritesSpec", plainKeys := false, apart := false }
def FnNewValueWritesSpecSaid : Prop := fnNewValueWritesSpecRow.holds Try.pinned (OpenSpec.ofChange fnNewValueWritesSpecSpec)

/-- ITS FALSE NEIGHBOUR: 'it returns false'. Refute it at one input. -/
def fnNewValueWritesSpecWrong : ChangeSpec := { name := "fnNewValueWritesSpec", fn := fun _ => fun
  | [d] => { results := [.lit (.bool false)], args := [d] }
  | _ => none }
def FnNewValueWritesSpecWrongFalsely : Prop := fnNewValueWritesSpecRow.holds Try.pinned (OpenSpec.ofChange fnNewValueWritesSpecWrong)

/-- 'zzlaws_root_b1.FnNewValueWritesMoreOpsAmbiguousNoLater': WHATEVER THE INPUT: true; the input reads as it did. -/
def fnNewValueWritesMoreOpsAmbiguousNoLaterSpec : ChangeSpec := { name := "fnNewValueWritesMoreOpsAmbiguousNoLater", fn := fun _ => fun
  | [d1, d2] => { results := [.lit (.bool true)], args := [d1, d2] }
  | _ => none }
def fnNewValueWritesMoreOpsAmbiguousNoLaterRow : OpenClaim := { program := "qxb6604280a", sum := "c5c131e3e3b3bdfd6bfaefb2d8d2d765961445e58fae00c9053bc94fe1422590", func := "example.com/visar/visar/zzlaws_root_b1.FnNewValueWritesMoreOpsAmbiguousNoLater", spec := "fnNewValueWritesMoreOpsAmbiguousNoLater", plainKeys := false, apart := false }
def FnNewValueWritesMoreOpsAmbiguousNoLaterSaid : Prop := fnNewValueWritesMoreOpsAmbiguousNoLaterRow.holds Try.pinned (OpenSpec.ofChange fnNewValueWritesMoreOpsAmbiguousNoLaterSpec)

/-- ITS FALSE NEIGHBOUR: 'it returns false'. Refute it at one input. -/
def fnNewValueWritesMoreOpsAmbiguousNoLaterWrong : ChangeSpec := { name := "fnNewValueWritesMoreOpsAmbiguousNoLater", fn := fun _ => fun
  | [d1, d2] => { results := [.lit (.bool false)], args := [d1, d2] }
  | _ => none }
def FnNewValueWritesMoreOpsAmbiguousNoLaterWrongFalsely : Prop := fnNewValueWritesMoreOpsAmbiguousNoLaterRow.holds Try.pinned (OpenSpec.ofChange fnNewValueWritesMoreOpsAmbiguousNoLaterWrong)

end Rows
end Go.Proofs.Qxb6604280a
