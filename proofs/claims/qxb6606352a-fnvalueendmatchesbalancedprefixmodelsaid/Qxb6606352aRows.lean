/-
  No cell of these rows narrows 'for every input' (looked for: loops, veiled, ifaces, maps, wideKeys, modest, calm, conditions, laid).
  DERIVED. THE GIVEN ROWS OF THIS SEAT. 3 by the template 'for every input the law returns true; each argument reads behind the call as it read before'; 0 by the template 'total and deterministic' (their statements: Qxb6606352aTotals.lean).
  GIVEN WITH THE SEED: the statements are not yours to turn. If you find one false, say at which input.
  Laid BY PROGRAM, IN A SANDBOX (cutbox-rows.mjs): the forced cells as the released guide's own fill.sh prints them over the translation ec80b45ee6c767f9… (all of the seat's roots in one cut). By AI agents, Wed Nov 11 2026. No macro, syntax, notation, axiom, sorry.
-/
import Derived.Test.Qxb6606352aChecked
import GoSem.Claim
import GoSem.ClaimJoined
import GoSem.ClaimMapViews
import Derived.JoinedTies
import Derived.KernelRfl
namespace Go.Proofs.Qxb6606352a
/- THE CELL 'sum', in the pinned program and in every row, IS THE sha256 OF THE DUMP (.gsa) THAT Qxb6606352aProg.lean LOADS. Nothing in Lean hashes anything: it is a label: what it is worth is what the hold of that sum in a sandbox is worth. -/
noncomputable def Try.pinned : Pinned := { name := "qxb6606352a", sum := "ec80b45ee6c767f95d86bcccf42953246e5f1c1a97f1c4b33e3c417e7e4f67e8", checked := Try.checked }
namespace Rows
def none {H : Type} : Left H := { results := [], args := [] }

/-- 'zzlaws_internal_manifest_b1.FnValueEndMatchesBalancedPrefixModel': WHATEVER THE INPUT: true; the input reads as it did. -/
def fnValueEndMatchesBalancedPrefixModelSpec : ChangeSpec := { name := "fnValueEndMatchesBalancedPrefixModel", fn := fun _ => fun
  | [d1, d2] => { results := [.lit (.bool true)], args := [d1, d2] }
  | _ => none }
def fnValueEndMatchesBalancedPrefixModelRow : OpenClaim := { program := "qxb6606352a", sum := "ec80b45ee6c767f95d86bcccf42953246e5f1c1a97f1c4b33e3c417e7e4f67e8", func := "example.com/lading/lading/zzlaws_internal_manifest_b1.FnValueEndMatchesBalancedPrefixModel", spec := "fnValueEndMatchesBalancedPrefixModel", apart := false }
def FnValueEndMatchesBalancedPrefixModelSaid : Prop := fnValueEndMatchesBalancedPrefixModelRow.holds Try.pinned (OpenSpec.ofChange fnValueEndMatchesBalancedPrefixModelSpec)

/-- ITS FALSE NEIGHBOUR: 'it returns false'. Refute it at one input. -/
def fnValueEndMatchesBalancedPrefixModelWrong : ChangeSpec := { name := "fnValueEndMatchesBalancedPrefixModel", fn := fun _ => fun
  | [d1, d2] => { results := [.lit (.bool false)], args := [d1, d2] }
  | _ => none }
def FnValueEndMatchesBalancedPrefixModelWrongFalsely : Prop := fnValueEndMatchesBalancedPrefixModelRow.holds Try.pinned (OpenSpec.ofChange fnValueEndMatchesBalancedPrefixModelWrong)

/-- 'zzlaws_internal_manifest_b1.FnValueEndShiftsWithPrefix': WHATEVER THE INPUT: true; the input reads as it did. -/
def fnValueEndShiftsWithPrefixSpec : ChangeSpec := { name := "fnValueEndShiftsWithPrefix", fn := fun _ => fun
  | [d1, d2, d3] => { results := [.lit (.bool true)], args := [d1, d2, d3] }
  | _ => none }
def fnValueEndShiftsWithPrefixRow : OpenClaim := { program := "qxb6606352a", sum := "ec80b45ee6c767f95d86bcccf42953246e5f1c1a97f1c4b33e3c417e7e4f67e8", func := "example.com/lading/lading/zzlaws_internal_manifest_b1.FnValueEndShiftsWithPrefix", spec := "fnValueEndShiftsWithPrefix", apart := false }
def FnValueEndShiftsWithPrefixSaid : Prop := fnValueEndShiftsWithPrefixRow.holds Try.pinned (OpenSpec.ofChange fnValueEndShiftsWithPrefixSpec)

/-- ITS FALSE NEIGHBOUR: 'it returns false'. Refute it at one input. -/
def fnValueEndShiftsWithPrefixWrong : ChangeSpec := { name := "fnValueEndShiftsWithPrefix", fn := fun _ => fun
  | [d1, d2, d3] => { results := [.lit (.bool false)], args := [d1, d2, d3] }
  | _ => none }
def FnValueEndShiftsWithPrefixWrongFalsely : Prop := fnValueEndShiftsWithPrefixRow.holds Try.pinned (OpenSpec.ofChange fnValueEndShiftsWithPrefixWrong)

/-- 'zzlaws_internal_manifest_b1.FnValueEndStopsAtDelimiterAndTruncates': WHATEVER THE INPUT: true; the input reads as it did. -/
def fnValueEndStopsAtDelimiterAndTruncatesSpec : ChangeSpec := { name := "fnValueEndStopsAtDelimiterAndTruncates", fn := fun _ => fun
  | [d1, d2, d3] => { results := [.lit (.bool true)], args := [d1, d2, d3] }
  | _ => none }
def fnValueEndStopsAtDelimiterAndTruncatesRow : OpenClaim := { program := "qxb6606352a", sum := "ec80b45ee6c767f95d86bcccf42953246e5f1c1a97f1c4b33e3c417e7e4f67e8", func := "example.com/lading/lading/zzlaws_internal_manifest_b1.FnValueEndStopsAtDelimiterAndTruncates", spec := "fnValueEndStopsAtDelimiterAndTruncates", apart := false }
def FnValueEndStopsAtDelimiterAndTruncatesSaid : Prop := fnValueEndStopsAtDelimiterAndTruncatesRow.holds Try.pinned (OpenSpec.ofChange fnValueEndStopsAtDelimiterAndTruncatesSpec)

/-- ITS FALSE NEIGHBOUR: 'it returns false'. Refute it at one input. -/
def fnValueEndStopsAtDelimiterAndTruncatesWrong : ChangeSpec := { name := "fnValueEndStopsAtDelimiterAndTruncates", fn := fun _ => fun
  | [d1, d2, d3] => { results := [.lit (.bool false)], args := [d1, d2, d3] }
  | _ => none }
def FnValueEndStopsAtDelimiterAndTruncatesWrongFalsely : Prop := fnValueEndStopsAtDelimiterAndTruncatesRow.holds Try.pinned (OpenSpec.ofChange fnValueEndStopsAtDelimiterAndTruncatesWrong)

end Rows
end Go.Proofs.Qxb6606352a
