/-
  No cell of these rows narrows 'for every input' (looked for: loops, veiled, ifaces, maps, wideKeys, modest, calm, conditions, laid).
  DERIVED. THE GIVEN ROWS OF THIS SEAT. 2 by the template 'for every input the law returns true; each argument reads behind the call as it read before'; 0 by the template 'total and deterministic' (their statements: Qxb6613619aTotals.lean).
  GIVEN WITH THE SEED: the statements are not yours to turn. If you find one false, say at which input.
  Laid BY PROGRAM, IN A SANDBOX (cutbox-rows.mjs): the forced cells as the released guide's own fill.sh prints them over the translation 3c1e59eff81bdbcd… (all of the seat's roots in one cut). By AI agents, Wed Nov 11 2026. No macro, syntax, notation, axiom, sorry.
-/
import Derived.Test.Qxb6613619aChecked
import GoSem.Claim
import GoSem.ClaimJoined
import GoSem.ClaimMapViews
import Derived.JoinedTies
import Derived.KernelRfl
namespace Go.Proofs.Qxb6613619a
/- THE CELL 'sum', in the pinned program and in every row, IS THE sha256 OF THE DUMP (.gsa) THAT Qxb6613619aProg.lean LOADS. Nothing in Lean hashes anything: it is a label: what it is worth is what the hold of that sum in a sandbox is worth. -/
noncomputable def Try.pinned : Pinned := { name := "qxb6613619a", sum := "3c1e59eff81bdbcde7e8f0b8b021a6b28fe01a101192cec8e9d94328335acfd6", checked := Try.checked }
namespace Rows
def none {H : Type} : Left H := { results := [], args := [] }

/-- 'zzlaws_root_b1.FnDaysFromYear1StepsByTheYearsLength': WHATEVER THE INPUT: true; the input reads as it did. -/
def fnDaysFromYear1StepsByTheYearsLengthSpec : ChangeSpec := { name := "fnDaysFromYear1StepsByTheYearsLength", fn := fun _ => fun
  | [d] => { results := [.lit (.bool true)], args := [d] }
  | _ => none }
def fnDaysFromYear1StepsByTheYearsLengthRow : OpenClaim := { program := "qxb6613619a", sum := "3c1e59eff81bdbcde7e8f0b8b021a6b28fe01a101192cec8e9d94328335acfd6", func := "example.com/monotide/monotide/zzlaws_root_b1.FnDaysFromYear1StepsByTheYearsLength", spec := "fnDaysFromYear1StepsByTheYearsLength", apart := false }
def FnDaysFromYear1StepsByTheYearsLengthSaid : Prop := fnDaysFromYear1StepsByTheYearsLengthRow.holds Try.pinned (OpenSpec.ofChange fnDaysFromYear1StepsByTheYearsLengthSpec)

/-- ITS FALSE NEIGHBOUR: 'it returns false'. Refute it at one input. -/
def fnDaysFromYear1StepsByTheYearsLengthWrong : ChangeSpec := { name := "fnDaysFromYear1StepsByTheYearsLength", fn := fun _ => fun
  | [d] => { results := [.lit (.bool false)], args := [d] }
  | _ => none }
def FnDaysFromYear1StepsByTheYearsLengthWrongFalsely : Prop := fnDaysFromYear1StepsByTheYearsLengthRow.holds Try.pinned (OpenSpec.ofChange fnDaysFromYear1StepsByTheYearsLengthWrong)

/-- 'zzlaws_root_b1.FnDaysFromYear1SpanCountsLeapYears': WHATEVER THE INPUT: true; the input reads as it did. -/
def fnDaysFromYear1SpanCountsLeapYearsSpec : ChangeSpec := { name := "fnDaysFromYear1SpanCountsLeapYears", fn := fun _ => fun
  | [d1, d2] => { results := [.lit (.bool true)], args := [d1, d2] }
  | _ => none }
def fnDaysFromYear1SpanCountsLeapYearsRow : OpenClaim := { program := "qxb6613619a", sum := "3c1e59eff81bdbcde7e8f0b8b021a6b28fe01a101192cec8e9d94328335acfd6", func := "example.com/monotide/monotide/zzlaws_root_b1.FnDaysFromYear1SpanCountsLeapYears", spec := "fnDaysFromYear1SpanCountsLeapYears", apart := false }
def FnDaysFromYear1SpanCountsLeapYearsSaid : Prop := fnDaysFromYear1SpanCountsLeapYearsRow.holds Try.pinned (OpenSpec.ofChange fnDaysFromYear1SpanCountsLeapYearsSpec)

/-- ITS FALSE NEIGHBOUR: 'it returns false'. Refute it at one input. -/
def fnDaysFromYear1SpanCountsLeapYearsWrong : ChangeSpec := { name := "fnDaysFromYear1SpanCountsLeapYears", fn := fun _ => fun
  | [d1, d2] => { results := [.lit (.bool false)], args := [d1, d2] }
  | _ => none }
def FnDaysFromYear1SpanCountsLeapYearsWrongFalsely : Prop := fnDaysFromYear1SpanCountsLeapYearsRow.holds Try.pinned (OpenSpec.ofChange fnDaysFromYear1SpanCountsLeapYearsWrong)

end Rows
end Go.Proofs.Qxb6613619a
