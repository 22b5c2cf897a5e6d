/-
  No cell of these rows narrows 'for every input' (looked for: loops, veiled, ifaces, maps, wideKeys, modest, calm, conditions, laid).
  DERIVED. THE GIVEN ROWS OF THIS SEAT. 3 by the template 'for every input the law returns true; each argument reads behind the call as it read before'; 0 by the template 'total and deterministic' (their statements: Qxb6604252aTotals.lean).
  GIVEN WITH THE SEED: the statements are not yours to turn. If you find one false, say at which input.
  Laid BY PROGRAM, IN A SANDBOX (cutbox-rows.mjs): the forced cells as the released guide's own fill.sh prints them over the translation 475fed06e0091db1… (all of the seat's roots in one cut). By AI agents, Wed Nov 11 2026. No macro, syntax, notation, axiom, sorry.
-/
import Derived.Test.Qxb6604252aChecked
import GoSem.Claim
import GoSem.ClaimJoined
import GoSem.ClaimMapViews
import Derived.JoinedTies
import Derived.KernelRfl
namespace Go.Proofs.Qxb6604252a
/- THE CELL 'sum', in the pinned program and in every row, IS THE sha256 OF THE DUMP (.gsa) THAT Qxb6604252aProg.lean LOADS. Nothing in Lean hashes anything: it is a label: what it is worth is what the hold of that sum in a sandbox is worth. -/
noncomputable def Try.pinned : Pinned := { name := "qxb6604252a", sum := "475fed06e0091db1657311917c244a9f560beb263c7265a812dd55ef63727b2e", checked := Try.checked }
namespace Rows
def none {H : Type} : Left H := { results := [], args := [] }

/-- 'zzlaws_root_b1.FnDayNumberCountsDaysFromJanuaryFirst': WHATEVER THE INPUT: true; the input reads as it did. -/
def fnDayNumberCountsDaysFromJanuaryFirstSpec : ChangeSpec := { name := "fnDayNumberCountsDaysFromJanuaryFirst", fn := fun _ => fun
  | [d1, d2, d3] => { results := [.lit (.bool true)], args := [d1, d2, d3] }
  | _ => none }
def fnDayNumberCountsDaysFromJanuaryFirstRow : OpenClaim := { program := "qxb6604252a", sum := "475fed06e0091db1657311917c244a9f560beb263c7265a812dd55ef63727b2e", func := "example.com/zhuangu/zhuangu/zzlaws_root_b1.FnDayNumberCountsDaysFromJanuaryFirst", spec := "fnDayNumberCountsDaysFromJanuaryFirst", apart := false }
def FnDayNumberCountsDaysFromJanuaryFirstSaid : Prop := fnDayNumberCountsDaysFromJanuaryFirstRow.holds Try.pinned (OpenSpec.ofChange fnDayNumberCountsDaysFromJanuaryFirstSpec)

/-- ITS FALSE NEIGHBOUR: 'it returns false'. Refute it at one input. -/
def fnDayNumberCountsDaysFromJanuaryFirstWrong : ChangeSpec := { name := "fnDayNumberCountsDaysFromJanuaryFirst", fn := fun _ => fun
  | [d1, d2, d3] => { results := [.lit (.bool false)], args := [d1, d2, d3] }
  | _ => none }
def FnDayNumberCountsDaysFromJanuaryFirstWrongFalsely : Prop := fnDayNumberCountsDaysFromJanuaryFirstRow.holds Try.pinned (OpenSpec.ofChange fnDayNumberCountsDaysFromJanuaryFirstWrong)

/-- 'zzlaws_root_b1.FnDayNumberNextDayIsOneMore': WHATEVER THE INPUT: true; the input reads as it did. -/
def fnDayNumberNextDayIsOneMoreSpec : ChangeSpec := { name := "fnDayNumberNextDayIsOneMore", fn := fun _ => fun
  | [d1, d2, d3] => { results := [.lit (.bool true)], args := [d1, d2, d3] }
  | _ => none }
def fnDayNumberNextDayIsOneMoreRow : OpenClaim := { program := "qxb6604252a", sum := "475fed06e0091db1657311917c244a9f560beb263c7265a812dd55ef63727b2e", func := "example.com/zhuangu/zhuangu/zzlaws_root_b1.FnDayNumberNextDayIsOneMore", spec := "fnDayNumberNextDayIsOneMore", apart := false }
def FnDayNumberNextDayIsOneMoreSaid : Prop := fnDayNumberNextDayIsOneMoreRow.holds Try.pinned (OpenSpec.ofChange fnDayNumberNextDayIsOneMoreSpec)

/-- ITS FALSE NEIGHBOUR: 'it returns false'. Refute it at one input. -/
def fnDayNumberNextDayIsOneMoreWrong : ChangeSpec := { name := "fnDayNumberNextDayIsOneMore", fn := fun _ => fun
  | [d1, d2, d3] => { results := [.lit (.bool false)], args := [d1, d2, d3] }
  | _ => none }
def FnDayNumberNextDayIsOneMoreWrongFalsely : Prop := fnDayNumberNextDayIsOneMoreRow.holds Try.pinned (OpenSpec.ofChange fnDayNumberNextDayIsOneMoreWrong)

/-- 'zzlaws_root_b1.FnDayNumberOrdersDatesAsTheCalendar': WHATEVER THE INPUT: true; the input reads as it did. -/
def fnDayNumberOrdersDatesAsTheCalendarSpec : ChangeSpec := { name := "fnDayNumberOrdersDatesAsTheCalendar", fn := fun _ => fun
  | [d1, d2, d3, d4, d5, d6] => { results := [.lit (.bool true)], args := [d1, d2, d3, d4, d5, d6] }
  | _ => none }
def fnDayNumberOrdersDatesAsTheCalendarRow : OpenClaim := { program := "qxb6604252a", sum := "475fed06e0091db1657311917c244a9f560beb263c7265a812dd55ef63727b2e", func := "example.com/zhuangu/zhuangu/zzlaws_root_b1.FnDayNumberOrdersDatesAsTheCalendar", spec := "fnDayNumberOrdersDatesAsTheCalendar", apart := false }
def FnDayNumberOrdersDatesAsTheCalendarSaid : Prop := fnDayNumberOrdersDatesAsTheCalendarRow.holds Try.pinned (OpenSpec.ofChange fnDayNumberOrdersDatesAsTheCalendarSpec)

/-- ITS FALSE NEIGHBOUR: 'it returns false'. Refute it at one input. -/
def fnDayNumberOrdersDatesAsTheCalendarWrong : ChangeSpec := { name := "fnDayNumberOrdersDatesAsTheCalendar", fn := fun _ => fun
  | [d1, d2, d3, d4, d5, d6] => { results := [.lit (.bool false)], args := [d1, d2, d3, d4, d5, d6] }
  | _ => none }
def FnDayNumberOrdersDatesAsTheCalendarWrongFalsely : Prop := fnDayNumberOrdersDatesAsTheCalendarRow.holds Try.pinned (OpenSpec.ofChange fnDayNumberOrdersDatesAsTheCalendarWrong)

end Rows
end Go.Proofs.Qxb6604252a
