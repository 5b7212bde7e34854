/-
  No cell of these rows narrows 'for every input' (looked for: loops, veiled, ifaces, maps, wideKeys, modest, calm, conditions, laid).
  DERIVED. THE GIVEN ROWS OF THIS SEAT. 3 by the template 'for every input the law returns true; each argument reads behind the call as it read before'; 0 by the template 'total and deterministic' (their statements: Qxb6606422aTotals.lean).
  GIVEN WITH THE SEED: the statements are not yours to turn. If you find one false, say at which input.
  Laid BY PROGRAM, IN A SANDBOX (cutbox-rows.mjs): the forced cells as the released guide's own fill.sh prints them over the translation 54ecb682348fe4ec… (all of the seat's roots in one cut). By AI agents, Wed Nov 11 2026. No macro, syntax, notation, axiom, sorry.
-/
import Derived.Test.Qxb6606422aChecked
import GoSem.Claim
import GoSem.ClaimJoined
import GoSem.ClaimMapViews
import Derived.JoinedTies
import Derived.KernelRfl
namespace Go.Proofs.Qxb6606422a
/- THE CELL 'sum', in the pinned program and in every row, IS THE sha256 OF THE DUMP (.gsa) THAT Qxb6606422aProg.lean LOADS. Nothing in Lean hashes anything: it is a label: what it is worth is what the hold of that sum in a sandbox is worth. -/
noncomputable def Try.pinned : Pinned := { name := "qxb6606422a", sum := "54ecb682348fe4ecfe45ce763eff82f329638c315e90eb262a234e972b8aa1dc", checked := Try.checked }
namespace Rows
def none {H : Type} : Left H := { results := [], args := [] }

/-- 'zzlaws_deflate_b1.FnFitLengthsMakesCompleteCodeOfSameSize': WHATEVER THE INPUT: true; the input reads as it did. -/
def fnFitLengthsMakesCompleteCodeOfSameSizeSpec : ChangeSpec := { name := "fnFitLengthsMakesCompleteCodeOfSameSize", fn := fun _ => fun
  | [d1, d2] => { results := [.lit (.bool true)], args := [d1, d2] }
  | _ => none }
def fnFitLengthsMakesCompleteCodeOfSameSizeRow : OpenClaim := { program := "qxb6606422a", sum := "54ecb682348fe4ecfe45ce763eff82f329638c315e90eb262a234e972b8aa1dc", func := "example.com/longhaul/longhaul/zzlaws_deflate_b1.FnFitLengthsMakesCompleteCodeOfSameSize", spec := "fnFitLengthsMakesCompleteCodeOfSameSize", apart := false }
def FnFitLengthsMakesCompleteCodeOfSameSizeSaid : Prop := fnFitLengthsMakesCompleteCodeOfSameSizeRow.holds Try.pinned (OpenSpec.ofChange fnFitLengthsMakesCompleteCodeOfSameSizeSpec)

/-- ITS FALSE NEIGHBOUR: 'it returns false'. Refute it at one input. -/
def fnFitLengthsMakesCompleteCodeOfSameSizeWrong : ChangeSpec := { name := "fnFitLengthsMakesCompleteCodeOfSameSize", fn := fun _ => fun
  | [d1, d2] => { results := [.lit (.bool false)], args := [d1, d2] }
  | _ => none }
def FnFitLengthsMakesCompleteCodeOfSameSizeWrongFalsely : Prop := fnFitLengthsMakesCompleteCodeOfSameSizeRow.holds Try.pinned (OpenSpec.ofChange fnFitLengthsMakesCompleteCodeOfSameSizeWrong)

/-- 'zzlaws_deflate_b1.FnFitLengthsLeavesCompleteCodesAlone': WHATEVER THE INPUT: true; the input reads as it did. -/
def fnFitLengthsLeavesCompleteCodesAloneSpec : ChangeSpec := { name := "fnFitLengthsLeavesCompleteCodesAlone", fn := fun _ => fun
  | [d1, d2] => { results := [.lit (.bool true)], args := [d1, d2] }
  | _ => none }
def fnFitLengthsLeavesCompleteCodesAloneRow : OpenClaim := { program := "qxb6606422a", sum := "54ecb682348fe4ecfe45ce763eff82f329638c315e90eb262a234e972b8aa1dc", func := "example.com/longhaul/longhaul/zzlaws_deflate_b1.FnFitLengthsLeavesCompleteCodesAlone", spec := "fnFitLengthsLeavesCompleteCodesAlone", apart := false }
def FnFitLengthsLeavesCompleteCodesAloneSaid : Prop := fnFitLengthsLeavesCompleteCodesAloneRow.holds Try.pinned (OpenSpec.ofChange fnFitLengthsLeavesCompleteCodesAloneSpec)

/-- ITS FALSE NEIGHBOUR: 'it returns false'. Refute it at one input. -/
def fnFitLengthsLeavesCompleteCodesAloneWrong : ChangeSpec := { name := "fnFitLengthsLeavesCompleteCodesAlone", fn := fun _ => fun
  | [d1, d2] => { results := [.lit (.bool false)], args := [d1, d2] }
  | _ => none }
def FnFitLengthsLeavesCompleteCodesAloneWrongFalsely : Prop := fnFitLengthsLeavesCompleteCodesAloneRow.holds Try.pinned (OpenSpec.ofChange fnFitLengthsLeavesCompleteCodesAloneWrong)

/-- 'zzlaws_deflate_b1.FnFitLengthsRoomyCodesOnlyShorten': WHATEVER THE INPUT: true; the input reads as it did. -/
def fnFitLengthsRoomyCodesOnlyShortenSpec : ChangeSpec := { name := "fnFitLengthsRoomyCodesOnlyShorten", fn := fun _ => fun
  | [d1, d2] => { results := [.lit (.bool true)], args := [d1, d2] }
  | _ => none }
def fnFitLengthsRoomyCodesOnlyShortenRow : OpenClaim := { program := "qxb6606422a", sum := "54ecb682348fe4ecfe45ce763eff82f329638c315e90eb262a234e972b8aa1dc", func := "example.com/longhaul/longhaul/zzlaws_deflate_b1.FnFitLengthsRoomyCodesOnlyShorten", spec := "fnFitLengthsRoomyCodesOnlyShorten", apart := false }
def FnFitLengthsRoomyCodesOnlyShortenSaid : Prop := fnFitLengthsRoomyCodesOnlyShortenRow.holds Try.pinned (OpenSpec.ofChange fnFitLengthsRoomyCodesOnlyShortenSpec)

/-- ITS FALSE NEIGHBOUR: 'it returns false'. Refute it at one input. -/
def fnFitLengthsRoomyCodesOnlyShortenWrong : ChangeSpec := { name := "fnFitLengthsRoomyCodesOnlyShorten", fn := fun _ => fun
  | [d1, d2] => { results := [.lit (.bool false)], args := [d1, d2] }
  | _ => none }
def FnFitLengthsRoomyCodesOnlyShortenWrongFalsely : Prop := fnFitLengthsRoomyCodesOnlyShortenRow.holds Try.pinned (OpenSpec.ofChange fnFitLengthsRoomyCodesOnlyShortenWrong)

end Rows
end Go.Proofs.Qxb6606422a
