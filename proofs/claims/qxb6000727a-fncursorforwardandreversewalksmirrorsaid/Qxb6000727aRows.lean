/-
  No cell of these rows narrows 'for every input' (looked for: loops, veiled, ifaces, maps, wideKeys, modest, calm, conditions, laid).
  DERIVED. THE GIVEN ROWS OF THIS SEAT. 4 by the template 'for every input the law returns true; each argument reads behind the call as it read before'; 0 by the template 'total and deterministic' (their statements: Qxb6000727aTotals.lean).
  GIVEN WITH THE SEED: the statements are not yours to turn. If you find one false, say at which input.
  Laid BY PROGRAM, IN A SANDBOX (cutbox-rows.mjs): the forced cells as the released guide's own fill.sh prints them over the translation 2cf456eeccc78fa7… (all of the seat's roots in one cut). By AI agents, Wed Nov 11 2026. No macro, syntax, notation, axiom, sorry.
-/
import Derived.Test.Qxb6000727aChecked
import GoSem.Claim
import GoSem.ClaimJoined
import GoSem.ClaimMapViews
import Derived.JoinedTies
import Derived.KernelRfl
namespace Go.Proofs.Qxb6000727a
/- THE CELL 'sum', in the pinned program and in every row, IS THE sha256 OF THE DUMP (.gsa) THAT Qxb6000727aProg.lean LOADS. Nothing in Lean hashes anything: it is a label: what it is worth is what the hold of that sum in a sandbox is worth. -/
noncomputable def Try.pinned : Pinned := { name := "qxb6000727a", sum := "2cf456eeccc78fa70487f93e9f6102559fd0b4da3f6a7b4adf1e71fa8da7cef4", checked := Try.checked }
namespace Rows
def none {H : Type} : Left H := { results := [], args := [] }

/-- 'zzlaws_root_b1.FnCursorSeekThenPopListsTheRest': WHATEVER THE INPUT: true; the input reads as it did. -/
def fnCursorSeekThenPopListsTheRestSpec : ChangeSpec := { name := "fnCursorSeekThenPopListsTheRest", fn := fun _ => fun
  | [d1, d2, d3, d4, d5, d6] => { results := [.lit (.bool true)], args := [d1, d2, d3, d4, d5, d6] }
  | _ => none }
def fnCursorSeekThenPopListsTheRestRow : OpenClaim := { program := "qxb6000727a", sum := "2cf456eeccc78fa70487f93e9f6102559fd0b4da3f6a7b4adf1e71fa8da7cef4", func := "example.com/terrace/terrace/zzlaws_root_b1.FnCursorSeekThenPopListsTheRest", spec := "fnCursorSeekThenPopListsTheRest", inPlace := ["internal/bytealg.Compare"], recurses := true, apart := false }
def FnCursorSeekThenPopListsTheRestSaid : Prop := fnCursorSeekThenPopListsTheRestRow.holds Try.pinned (OpenSpec.ofChange fnCursorSeekThenPopListsTheRestSpec)

/-- ITS FALSE NEIGHBOUR: 'it returns false'. Refute it at one input. -/
def fnCursorSeekThenPopListsTheRestWrong : ChangeSpec := { name := "fnCursorSeekThenPopListsTheRest", fn := fun _ => fun
  | [d1, d2, d3, d4, d5, d6] => { results := [.lit (.bool false)], args := [d1, d2, d3, d4, d5, d6] }
  | _ => none }
def FnCursorSeekThenPopListsTheRestWrongFalsely : Prop := fnCursorSeekThenPopListsTheRestRow.holds Try.pinned (OpenSpec.ofChange fnCursorSeekThenPopListsTheRestWrong)

/-- 'zzlaws_root_b1.FnCursorForwardAndReverseWalksMirror': WHATEVER THE INPUT: true; the input reads as it did. -/
def fnCursorForwardAndReverseWalksMirrorSpec : ChangeSpec := { name := "fnCursorForwardAndReverseWalksMirror", fn := fun _ => fun
  | [d1, d2, d3] => { results := [.lit (.bool true)], args := [d1, d2, d3] }
  | _ => none }
def fnCursorForwardAndReverseWalksMirrorRow : OpenClaim := { program := "qxb6000727a", sum := "2cf456eeccc78fa70487f93e9f6102559fd0b4da3f6a7b4adf1e71fa8da7cef4", func := "example.com/terrace/terrace/zzlaws_root_b1.FnCursorForwardAndReverseWalksMirror", spec := "fnCursorForwardAndReverseWalksMirror", inPlace := ["internal/bytealg.Compare"], recurses := true, apart := false }
def FnCursorForwardAndReverseWalksMirrorSaid : Prop := fnCursorForwardAndReverseWalksMirrorRow.holds Try.pinned (OpenSpec.ofChange fnCursorForwardAndReverseWalksMirrorSpec)

/-- ITS FALSE NEIGHBOUR: 'it returns false'. Refute it at one input. -/
def fnCursorForwardAndReverseWalksMirrorWrong : ChangeSpec := { name := "fnCursorForwardAndReverseWalksMirror", fn := fun _ => fun
  | [d1, d2, d3] => { results := [.lit (.bool false)], args := [d1, d2, d3] }
  | _ => none }
def FnCursorForwardAndReverseWalksMirrorWrongFalsely : Prop := fnCursorForwardAndReverseWalksMirrorRow.holds Try.pinned (OpenSpec.ofChange fnCursorForwardAndReverseWalksMirrorWrong)

/-- 'zzlaws_root_b1.FnCursorDeletionAgreesWithScan': WHATEVER THE INPUT: true; the input reads as it did. -/
def fnCursorDeletionAgreesWithScanSpec : ChangeSpec := { name := "fnCursorDeletionAgreesWithScan", fn := fun _ => fun
  | [d1, d2, d3, d4, d5] => { results := [.lit (.bool true)], args := [d1, d2, d3, d4, d5] }
  | _ => none }
def fnCursorDeletionAgreesWithScanRow : OpenClaim := { program := "qxb6000727a", sum := "2cf456eeccc78fa70487f93e9f6102559fd0b4da3f6a7b4adf1e71fa8da7cef4", func := "example.com/terrace/terrace/zzlaws_root_b1.FnCursorDeletionAgreesWithScan", spec := "fnCursorDeletionAgreesWithScan", inPlace := ["internal/bytealg.Compare"], recurses := true, apart := false }
def FnCursorDeletionAgreesWithScanSaid : Prop := fnCursorDeletionAgreesWithScanRow.holds Try.pinned (OpenSpec.ofChange fnCursorDeletionAgreesWithScanSpec)

/-- ITS FALSE NEIGHBOUR: 'it returns false'. Refute it at one input. -/
def fnCursorDeletionAgreesWithScanWrong : ChangeSpec := { name := "fnCursorDeletionAgreesWithScan", fn := fun _ => fun
  | [d1, d2, d3, d4, d5] => { results := [.lit (.bool false)], args := [d1, d2, d3, d4, d5] }
  | _ => none }
def FnCursorDeletionAgreesWithScanWrongFalsely : Prop := fnCursorDeletionAgreesWithScanRow.holds Try.pinned (OpenSpec.ofChange fnCursorDeletionAgreesWithScanWrong)

/-- 'zzlaws_root_b1.FnCursorDeletionAgreesWithTreapDeletion': WHATEVER THE INPUT: true; the input reads as it did. -/
def fnCursorDeletionAgreesWithTreapDeletionSpec : ChangeSpec := { name := "fnCursorDeletionAgreesWithTreapDeletion", fn := fun _ => fun
  | [d1, d2, d3, d4, d5, d6] => { results := [.lit (.bool true)], args := [d1, d2, d3, d4, d5, d6] }
  | _ => none }
def fnCursorDeletionAgreesWithTreapDeletionRow : OpenClaim := { program := "qxb6000727a", sum := "2cf456eeccc78fa70487f93e9f6102559fd0b4da3f6a7b4adf1e71fa8da7cef4", func := "example.com/terrace/terrace/zzlaws_root_b1.FnCursorDeletionAgreesWithTreapDeletion", spec := "fnCursorDeletionAgreesWithTreapDeletion", inPlace := ["internal/bytealg.Compare"], recurses := true, apart := false }
def FnCursorDeletionAgreesWithTreapDeletionSaid : Prop := fnCursorDeletionAgreesWithTreapDeletionRow.holds Try.pinned (OpenSpec.ofChange fnCursorDeletionAgreesWithTreapDeletionSpec)

/-- ITS FALSE NEIGHBOUR: 'it returns false'. Refute it at one input. -/
def fnCursorDeletionAgreesWithTreapDeletionWrong : ChangeSpec := { name := "fnCursorDeletionAgreesWithTreapDeletion", fn := fun _ => fun
  | [d1, d2, d3, d4, d5, d6] => { results := [.lit (.bool false)], args := [d1, d2, d3, d4, d5, d6] }
  | _ => none }
def FnCursorDeletionAgreesWithTreapDeletionWrongFalsely : Prop := fnCursorDeletionAgreesWithTreapDeletionRow.holds Try.pinned (OpenSpec.ofChange fnCursorDeletionAgreesWithTreapDeletionWrong)

end Rows
end Go.Proofs.Qxb6000727a
