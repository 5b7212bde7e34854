/-
  No cell of these rows narrows 'for every input' (looked for: loops, veiled, ifaces, maps, wideKeys, modest, calm, conditions, laid).
  DERIVED. THE GIVEN ROWS OF THIS SEAT. 3 by the template 'for every input the law returns true; each argument reads behind the call as it read before'; 0 by the template 'total and deterministic' (their statements: Qxb6606298aTotals.lean).
  GIVEN WITH THE SEED: the statements are not yours to turn. If you find one false, say at which input.
  Laid BY PROGRAM, IN A SANDBOX (cutbox-rows.mjs): the forced cells as the released guide's own fill.sh prints them over the translation 9b0565023d9b0c8b… (all of the seat's roots in one cut). By AI agents, Wed Nov 11 2026. No macro, syntax, notation, axiom, sorry.
-/
import Derived.Test.Qxb6606298aChecked
import GoSem.Claim
import GoSem.ClaimJoined
import GoSem.ClaimMapViews
import Derived.JoinedTies
import Derived.KernelRfl
namespace Go.Proofs.Qxb6606298a
/- THE CELL 'sum', in the pinned program and in every row, IS THE sha256 OF THE DUMP (.gsa) THAT Qxb6606298aProg.lean LOADS. Nothing in Lean hashes anything: it is a label: what it is worth is what the hold of that sum in a sandbox is worth. -/
noncomputable def Try.pinned : Pinned := { name := "qxb6606298a", sum := "9b0565023d9b0c8b414886aef6f465880ef3e061804277f33f9023324526610c", checked := Try.checked }
namespace Rows
def none {H : Type} : Left H := { results := [], args := [] }

/-- 'zzlaws_internal_api_b1.FnStepDigitsUpIsAdditionOfOne': WHATEVER THE INPUT: true; the input reads as it did. -/
def fnStepDigitsUpIsAdditionOfOneSpec : ChangeSpec := { name := "fnStepDigitsUpIsAdditionOfOne", fn := fun _ => fun
  | [d] => { results := [.lit (.bool true)], args := [d] }
  | _ => none }
def fnStepDigitsUpIsAdditionOfOneRow : OpenClaim := { program := "qxb6606298a", sum := "9b0565023d9b0c8b414886aef6f465880ef3e061804277f33f9023324526610c", func := "example.com/coxswain/coxswain/zzlaws_internal_api_b1.FnStepDigitsUpIsAdditionOfOne", spec := "fnStepDigitsUpIsAdditionOfOne", apart := false }
def FnStepDigitsUpIsAdditionOfOneSaid : Prop := fnStepDigitsUpIsAdditionOfOneRow.holds Try.pinned (OpenSpec.ofChange fnStepDigitsUpIsAdditionOfOneSpec)

/-- ITS FALSE NEIGHBOUR: 'it returns false'. Refute it at one input. -/
def fnStepDigitsUpIsAdditionOfOneWrong : ChangeSpec := { name := "fnStepDigitsUpIsAdditionOfOne", fn := fun _ => fun
  | [d] => { results := [.lit (.bool false)], args := [d] }
  | _ => none }
def FnStepDigitsUpIsAdditionOfOneWrongFalsely : Prop := fnStepDigitsUpIsAdditionOfOneRow.holds Try.pinned (OpenSpec.ofChange fnStepDigitsUpIsAdditionOfOneWrong)

/-- 'zzlaws_internal_api_b1.FnStepDigitsDownIsUndoneByAddingOne': WHATEVER THE INPUT: true; the input reads as it did. -/
def fnStepDigitsDownIsUndoneByAddingOneSpec : ChangeSpec := { name := "fnStepDigitsDownIsUndoneByAddingOne", fn := fun _ => fun
  | [d] => { results := [.lit (.bool true)], args := [d] }
  | _ => none }
def fnStepDigitsDownIsUndoneByAddingOneRow : OpenClaim := { program := "qxb6606298a", sum := "9b0565023d9b0c8b414886aef6f465880ef3e061804277f33f9023324526610c", func := "example.com/coxswain/coxswain/zzlaws_internal_api_b1.FnStepDigitsDownIsUndoneByAddingOne", spec := "fnStepDigitsDownIsUndoneByAddingOne", apart := false }
def FnStepDigitsDownIsUndoneByAddingOneSaid : Prop := fnStepDigitsDownIsUndoneByAddingOneRow.holds Try.pinned (OpenSpec.ofChange fnStepDigitsDownIsUndoneByAddingOneSpec)

/-- ITS FALSE NEIGHBOUR: 'it returns false'. Refute it at one input. -/
def fnStepDigitsDownIsUndoneByAddingOneWrong : ChangeSpec := { name := "fnStepDigitsDownIsUndoneByAddingOne", fn := fun _ => fun
  | [d] => { results := [.lit (.bool false)], args := [d] }
  | _ => none }
def FnStepDigitsDownIsUndoneByAddingOneWrongFalsely : Prop := fnStepDigitsDownIsUndoneByAddingOneRow.holds Try.pinned (OpenSpec.ofChange fnStepDigitsDownIsUndoneByAddingOneWrong)

/-- 'zzlaws_internal_api_b1.FnStepDigitsUpAndDownAreInverse': WHATEVER THE INPUT: true; the input reads as it did. -/
def fnStepDigitsUpAndDownAreInverseSpec : ChangeSpec := { name := "fnStepDigitsUpAndDownAreInverse", fn := fun _ => fun
  | [d] => { results := [.lit (.bool true)], args := [d] }
  | _ => none }
def fnStepDigitsUpAndDownAreInverseRow : OpenClaim := { program := "qxb6606298a", sum := "9b0565023d9b0c8b414886aef6f465880ef3e061804277f33f9023324526610c", func := "example.com/coxswain/coxswain/zzlaws_internal_api_b1.FnStepDigitsUpAndDownAreInverse", spec := "fnStepDigitsUpAndDownAreInverse", apart := false }
def FnStepDigitsUpAndDownAreInverseSaid : Prop := fnStepDigitsUpAndDownAreInverseRow.holds Try.pinned (OpenSpec.ofChange fnStepDigitsUpAndDownAreInverseSpec)

/-- ITS FALSE NEIGHBOUR: 'it returns false'. Refute it at one input. -/
def fnStepDigitsUpAndDownAreInverseWrong : ChangeSpec := { name := "fnStepDigitsUpAndDownAreInverse", fn := fun _ => fun
  | [d] => { results := [.lit (.bool false)], args := [d] }
  | _ => none }
def FnStepDigitsUpAndDownAreInverseWrongFalsely : Prop := fnStepDigitsUpAndDownAreInverseRow.holds Try.pinned (OpenSpec.ofChange fnStepDigitsUpAndDownAreInverseWrong)

end Rows
end Go.Proofs.Qxb6606298a
