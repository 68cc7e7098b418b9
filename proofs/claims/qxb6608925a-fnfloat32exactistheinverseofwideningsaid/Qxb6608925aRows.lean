/-
  No cell of these rows narrows 'for every input' (looked for: loops, veiled, ifaces, maps, wideKeys, modest, calm, conditions, laid).
  DERIVED. THE GIVEN ROWS OF THIS SEAT. 6 by the template 'for every input the law returns true; each argument reads behind the call as it read before'; 0 by the template 'total and deterministic' (their statements: Qxb6608925aTotals.lean).
  GIVEN WITH THE SEED: the statements are not yours to turn. If you find one false, say at which input.
  Laid BY PROGRAM, IN A SANDBOX (cutbox-rows.mjs): the forced cells as the released guide's own fill.sh prints them over the translation db5b9d09ddea24c2… (all of the seat's roots in one cut). By AI agents, Wed Nov 11 2026. No macro, syntax, notation, axiom, sorry.
-/
import Derived.Test.Qxb6608925aChecked
import GoSem.Claim
import GoSem.ClaimJoined
import GoSem.ClaimMapViews
import Derived.JoinedTies
import Derived.KernelRfl
namespace Go.Proofs.Qxb6608925a
/- THE CELL 'sum', in the pinned program and in every row, IS THE sha256 OF THE DUMP (.gsa) THAT Qxb6608925aProg.lean LOADS. Nothing in Lean hashes anything: it is a label: what it is worth is what the hold of that sum in a sandbox is worth. -/
noncomputable def Try.pinned : Pinned := { name := "qxb6608925a", sum := "db5b9d09ddea24c22ac96fd95b373ee219a432d3716a97d9dc1c7464f3d6e5cc", checked := Try.checked }
namespace Rows
def none {H : Type} : Left H := { results := [], args := [] }

/-- 'zzlaws_root_b1.FnFloat32ExactIsTheInverseOfWidening': WHATEVER THE INPUT: true; the input reads as it did. -/
def fnFloat32ExactIsTheInverseOfWideningSpec : ChangeSpec := { name := "fnFloat32ExactIsTheInverseOfWidening", fn := fun _ => fun
  | [d] => { results := [.lit (.bool true)], args := [d] }
  | _ => none }
def fnFloat32ExactIsTheInverseOfWideningRow : OpenClaim := { program := "qxb6608925a", sum := "db5b9d09ddea24c22ac96fd95b373ee219a432d3716a97d9dc1c7464f3d6e5cc", func := "example.com/wirefloat/wirefloat/zzlaws_root_b1.FnFloat32ExactIsTheInverseOfWidening", spec := "fnFloat32ExactIsTheInverseOfWidening", apart := false }
def FnFloat32ExactIsTheInverseOfWideningSaid : Prop := fnFloat32ExactIsTheInverseOfWideningRow.holds Try.pinned (OpenSpec.ofChange fnFloat32ExactIsTheInverseOfWideningSpec)

/-- ITS FALSE NEIGHBOUR: 'it returns false'. Refute it at one input. -/
def fnFloat32ExactIsTheInverseOfWideningWrong : ChangeSpec := { name := "fnFloat32ExactIsTheInverseOfWidening", fn := fun _ => fun
  | [d] => { results := [.lit (.bool false)], args := [d] }
  | _ => none }
def FnFloat32ExactIsTheInverseOfWideningWrongFalsely : Prop := fnFloat32ExactIsTheInverseOfWideningRow.holds Try.pinned (OpenSpec.ofChange fnFloat32ExactIsTheInverseOfWideningWrong)

/-- 'zzlaws_root_b1.FnFloat32ExactKeepsEverySingleAndRefusesItsNeighbour': WHATEVER THE INPUT: true; the input reads as it did. -/
def fnFloat32ExactKeepsEverySingleAndRefusesItsNeighbourSpec : ChangeSpec := { name := "fnFloat32ExactKeepsEverySingleAndRefusesItsNeighbour", fn := fun _ => fun
  | [d] => { results := [.lit (.bool true)], args := [d] }
  | _ => none }
def fnFloat32ExactKeepsEverySingleAndRefusesItsNeighbourRow : OpenClaim := { program := "qxb6608925a", sum := "db5b9d09ddea24c22ac96fd95b373ee219a432d3716a97d9dc1c7464f3d6e5cc", func := "example.com/wirefloat/wirefloat/zzlaws_root_b1.FnFloat32ExactKeepsEverySingleAndRefusesItsNeighbour", spec := "fnFloat32ExactKeepsEverySingleAndRefusesItsNeighbour", apart := false }
def FnFloat32ExactKeepsEverySingleAndRefusesItsNeighbourSaid : Prop := fnFloat32ExactKeepsEverySingleAndRefusesItsNeighbourRow.holds Try.pinned (OpenSpec.ofChange fnFloat32ExactKeepsEverySingleAndRefusesItsNeighbourSpec)

/-- ITS FALSE NEIGHBOUR: 'it returns false'. Refute it at one input. -/
def fnFloat32ExactKeepsEverySingleAndRefusesItsNeighbourWrong : ChangeSpec := { name := "fnFloat32ExactKeepsEverySingleAndRefusesItsNeighbour", fn := fun _ => fun
  | [d] => { results := [.lit (.bool false)], args := [d] }
  | _ => none }
def FnFloat32ExactKeepsEverySingleAndRefusesItsNeighbourWrongFalsely : Prop := fnFloat32ExactKeepsEverySingleAndRefusesItsNeighbourRow.holds Try.pinned (OpenSpec.ofChange fnFloat32ExactKeepsEverySingleAndRefusesItsNeighbourWrong)

/-- 'zzlaws_root_b1.FnIsQuietNaNSetAndClearedBits': WHATEVER THE INPUT: true; the input reads as it did. -/
def fnIsQuietNaNSetAndClearedBitsSpec : ChangeSpec := { name := "fnIsQuietNaNSetAndClearedBits", fn := fun _ => fun
  | [d] => { results := [.lit (.bool true)], args := [d] }
  | _ => none }
def fnIsQuietNaNSetAndClearedBitsRow : OpenClaim := { program := "qxb6608925a", sum := "db5b9d09ddea24c22ac96fd95b373ee219a432d3716a97d9dc1c7464f3d6e5cc", func := "example.com/wirefloat/wirefloat/zzlaws_root_b1.FnIsQuietNaNSetAndClearedBits", spec := "fnIsQuietNaNSetAndClearedBits", apart := false }
def FnIsQuietNaNSetAndClearedBitsSaid : Prop := fnIsQuietNaNSetAndClearedBitsRow.holds Try.pinned (OpenSpec.ofChange fnIsQuietNaNSetAndClearedBitsSpec)

/-- ITS FALSE NEIGHBOUR: 'it returns false'. Refute it at one input. -/
def fnIsQuietNaNSetAndClearedBitsWrong : ChangeSpec := { name := "fnIsQuietNaNSetAndClearedBits", fn := fun _ => fun
  | [d] => { results := [.lit (.bool false)], args := [d] }
  | _ => none }
def FnIsQuietNaNSetAndClearedBitsWrongFalsely : Prop := fnIsQuietNaNSetAndClearedBitsRow.holds Try.pinned (OpenSpec.ofChange fnIsQuietNaNSetAndClearedBitsWrong)

/-- 'zzlaws_root_b1.FnIsQuietNaNQuietBitSplitsTheNaNs': WHATEVER THE INPUT: true; the input reads as it did. -/
def fnIsQuietNaNQuietBitSplitsTheNaNsSpec : ChangeSpec := { name := "fnIsQuietNaNQuietBitSplitsTheNaNs", fn := fun _ => fun
  | [d] => { results := [.lit (.bool true)], args := [d] }
  | _ => none }
def fnIsQuietNaNQuietBitSplitsTheNaNsRow : OpenClaim := { program := "qxb6608925a", sum := "db5b9d09ddea24c22ac96fd95b373ee219a432d3716a97d9dc1c7464f3d6e5cc", func := "example.com/wirefloat/wirefloat/zzlaws_root_b1.FnIsQuietNaNQuietBitSplitsTheNaNs", spec := "fnIsQuietNaNQuietBitSplitsTheNaNs", apart := false }
def FnIsQuietNaNQuietBitSplitsTheNaNsSaid : Prop := fnIsQuietNaNQuietBitSplitsTheNaNsRow.holds Try.pinned (OpenSpec.ofChange fnIsQuietNaNQuietBitSplitsTheNaNsSpec)

/-- ITS FALSE NEIGHBOUR: 'it returns false'. Refute it at one input. -/
def fnIsQuietNaNQuietBitSplitsTheNaNsWrong : ChangeSpec := { name := "fnIsQuietNaNQuietBitSplitsTheNaNs", fn := fun _ => fun
  | [d] => { results := [.lit (.bool false)], args := [d] }
  | _ => none }
def FnIsQuietNaNQuietBitSplitsTheNaNsWrongFalsely : Prop := fnIsQuietNaNQuietBitSplitsTheNaNsRow.holds Try.pinned (OpenSpec.ofChange fnIsQuietNaNQuietBitSplitsTheNaNsWrong)

/-- 'zzlaws_root_b1.FnBiasHalvesTheFiniteExponentFields': WHATEVER THE INPUT: true; the input reads as it did. -/
def fnBiasHalvesTheFiniteExponentFieldsSpec : ChangeSpec := { name := "fnBiasHalvesTheFiniteExponentFields", fn := fun _ => fun
  | [d1, d2, d3] => { results := [.lit (.bool true)], args := [d1, d2, d3] }
  | _ => none }
def fnBiasHalvesTheFiniteExponentFieldsRow : OpenClaim := { program := "qxb6608925a", sum := "db5b9d09ddea24c22ac96fd95b373ee219a432d3716a97d9dc1c7464f3d6e5cc", func := "example.com/wirefloat/wirefloat/zzlaws_root_b1.FnBiasHalvesTheFiniteExponentFields", spec := "fnBiasHalvesTheFiniteExponentFields", apart := false }
def FnBiasHalvesTheFiniteExponentFieldsSaid : Prop := fnBiasHalvesTheFiniteExponentFieldsRow.holds Try.pinned (OpenSpec.ofChange fnBiasHalvesTheFiniteExponentFieldsSpec)

/-- ITS FALSE NEIGHBOUR: 'it returns false'. Refute it at one input. -/
def fnBiasHalvesTheFiniteExponentFieldsWrong : ChangeSpec := { name := "fnBiasHalvesTheFiniteExponentFields", fn := fun _ => fun
  | [d1, d2, d3] => { results := [.lit (.bool false)], args := [d1, d2, d3] }
  | _ => none }
def FnBiasHalvesTheFiniteExponentFieldsWrongFalsely : Prop := fnBiasHalvesTheFiniteExponentFieldsRow.holds Try.pinned (OpenSpec.ofChange fnBiasHalvesTheFiniteExponentFieldsWrong)

/-- 'zzlaws_root_b1.FnBiasMovesPowersOfTwoFromDoubleToSingle': WHATEVER THE INPUT: true; the input reads as it did. -/
def fnBiasMovesPowersOfTwoFromDoubleToSingleSpec : ChangeSpec := { name := "fnBiasMovesPowersOfTwoFromDoubleToSingle", fn := fun _ => fun
  | [d] => { results := [.lit (.bool true)], args := [d] }
  | _ => none }
def fnBiasMovesPowersOfTwoFromDoubleToSingleRow : OpenClaim := { program := "qxb6608925a", sum := "db5b9d09ddea24c22ac96fd95b373ee219a432d3716a97d9dc1c7464f3d6e5cc", func := "example.com/wirefloat/wirefloat/zzlaws_root_b1.FnBiasMovesPowersOfTwoFromDoubleToSingle", spec := "fnBiasMovesPowersOfTwoFromDoubleToSingle", apart := false }
def FnBiasMovesPowersOfTwoFromDoubleToSingleSaid : Prop := fnBiasMovesPowersOfTwoFromDoubleToSingleRow.holds Try.pinned (OpenSpec.ofChange fnBiasMovesPowersOfTwoFromDoubleToSingleSpec)

/-- ITS FALSE NEIGHBOUR: 'it returns false'. Refute it at one input. -/
def fnBiasMovesPowersOfTwoFromDoubleToSingleWrong : ChangeSpec := { name := "fnBiasMovesPowersOfTwoFromDoubleToSingle", fn := fun _ => fun
  | [d] => { results := [.lit (.bool false)], args := [d] }
  | _ => none }
def FnBiasMovesPowersOfTwoFromDoubleToSingleWrongFalsely : Prop := fnBiasMovesPowersOfTwoFromDoubleToSingleRow.holds Try.pinned (OpenSpec.ofChange fnBiasMovesPowersOfTwoFromDoubleToSingleWrong)

end Rows
end Go.Proofs.Qxb6608925a
