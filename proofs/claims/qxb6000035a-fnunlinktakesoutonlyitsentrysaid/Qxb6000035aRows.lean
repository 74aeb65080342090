/-
  No cell of these rows narrows 'for every input' (looked for: loops, veiled, ifaces, maps, wideKeys, modest, calm, conditions, laid).
  DERIVED. THE GIVEN ROWS OF THIS SEAT. 3 by the template 'for every input the law returns true; each argument reads behind the call as it read before'; 0 by the template 'total and deterministic' (their statements: Qxb6000035aTotals.lean).
  GIVEN WITH THE SEED: the statements are not yours to turn. If you find one false, say at which input.
  Laid BY PROGRAM, IN A SANDBOX (cutbox-rows.mjs): the forced cells as the released guide's own fill.sh prints them over the translation 165e561132849ce3… (all of the seat's roots in one cut). By AI agents, Wed Nov 11 2026. No macro, syntax, notation, axiom, sorry.
-/
import Derived.Test.Qxb6000035aChecked
import GoSem.Claim
import GoSem.ClaimJoined
import GoSem.ClaimMapViews
import Derived.JoinedTies
import Derived.KernelRfl
namespace Go.Proofs.Qxb6000035a
/- THE CELL 'sum', in the pinned program and in every row, IS THE sha256 OF THE DUMP (.gsa) THAT Qxb6000035aProg.lean LOADS. Nothing in Lean hashes anything: it is a label: what it is worth is what the hold of that sum in a sandbox is worth. -/
noncomputable def Try.pinned : Pinned := { name := "qxb6000035a", sum := "165e561132849ce3c384bd18843fbcd64defc94f69d64d533832f65efce96e26", checked := Try.checked }
namespace Rows
def none {H : Type} : Left H := { results := [], args := [] }

/-- 'zzlaws_pkg_core_b1.FnTokensScriptMatchesQueueModel': WHATEVER THE INPUT: true; the input reads as it did. -/
def fnTokensScriptMatchesQueueModelSpec : ChangeSpec := { name := "fnTokensScriptMatchesQueueModel", fn := fun _ => fun
  | [d1, d2, d3, d4] => { results := [.lit (.bool true)], args := [d1, d2, d3, d4] }
  | _ => none }
def fnTokensScriptMatchesQueueModelRow : OpenClaim := { program := "qxb6000035a", sum := "165e561132849ce3c384bd18843fbcd64defc94f69d64d533832f65efce96e26", func := "example.com/leasehold/leasehold/zzlaws_pkg_core_b1.FnTokensScriptMatchesQueueModel", spec := "fnTokensScriptMatchesQueueModel", apart := false }
def FnTokensScriptMatchesQueueModelSaid : Prop := fnTokensScriptMatchesQueueModelRow.holds Try.pinned (OpenSpec.ofChange fnTokensScriptMatchesQueueModelSpec)

/-- ITS FALSE NEIGHBOUR: 'it returns false'. Refute it at one input. -/
def fnTokensScriptMatchesQueueModelWrong : ChangeSpec := { name := "fnTokensScriptMatchesQueueModel", fn := fun _ => fun
  | [d1, d2, d3, d4] => { results := [.lit (.bool false)], args := [d1, d2, d3, d4] }
  | _ => none }
def FnTokensScriptMatchesQueueModelWrongFalsely : Prop := fnTokensScriptMatchesQueueModelRow.holds Try.pinned (OpenSpec.ofChange fnTokensScriptMatchesQueueModelWrong)

/-- 'zzlaws_pkg_core_b1.FnUnlinkTakesOutOnlyItsEntry': WHATEVER THE INPUT: true; the input reads as it did. -/
def fnUnlinkTakesOutOnlyItsEntrySpec : ChangeSpec := { name := "fnUnlinkTakesOutOnlyItsEntry", fn := fun _ => fun
  | [d1, d2, d3, d4] => { results := [.lit (.bool true)], args := [d1, d2, d3, d4] }
  | _ => none }
def fnUnlinkTakesOutOnlyItsEntryRow : OpenClaim := { program := "qxb6000035a", sum := "165e561132849ce3c384bd18843fbcd64defc94f69d64d533832f65efce96e26", func := "example.com/leasehold/leasehold/zzlaws_pkg_core_b1.FnUnlinkTakesOutOnlyItsEntry", spec := "fnUnlinkTakesOutOnlyItsEntry", apart := false }
def FnUnlinkTakesOutOnlyItsEntrySaid : Prop := fnUnlinkTakesOutOnlyItsEntryRow.holds Try.pinned (OpenSpec.ofChange fnUnlinkTakesOutOnlyItsEntrySpec)

/-- ITS FALSE NEIGHBOUR: 'it returns false'. Refute it at one input. -/
def fnUnlinkTakesOutOnlyItsEntryWrong : ChangeSpec := { name := "fnUnlinkTakesOutOnlyItsEntry", fn := fun _ => fun
  | [d1, d2, d3, d4] => { results := [.lit (.bool false)], args := [d1, d2, d3, d4] }
  | _ => none }
def FnUnlinkTakesOutOnlyItsEntryWrongFalsely : Prop := fnUnlinkTakesOutOnlyItsEntryRow.holds Try.pinned (OpenSpec.ofChange fnUnlinkTakesOutOnlyItsEntryWrong)

/-- 'zzlaws_pkg_core_b1.FnFreeTwiceIsFreeOnce': WHATEVER THE INPUT: true; the input reads as it did. -/
def fnFreeTwiceIsFreeOnceSpec : ChangeSpec := { name := "fnFreeTwiceIsFreeOnce", fn := fun _ => fun
  | [d1, d2, d3, d4] => { results := [.lit (.bool true)], args := [d1, d2, d3, d4] }
  | _ => none }
def fnFreeTwiceIsFreeOnceRow : OpenClaim := { program := "qxb6000035a", sum := "165e561132849ce3c384bd18843fbcd64defc94f69d64d533832f65efce96e26", func := "example.com/leasehold/leasehold/zzlaws_pkg_core_b1.FnFreeTwiceIsFreeOnce", spec := "fnFreeTwiceIsFreeOnce", apart := false }
def FnFreeTwiceIsFreeOnceSaid : Prop := fnFreeTwiceIsFreeOnceRow.holds Try.pinned (OpenSpec.ofChange fnFreeTwiceIsFreeOnceSpec)

/-- ITS FALSE NEIGHBOUR: 'it returns false'. Refute it at one input. -/
def fnFreeTwiceIsFreeOnceWrong : ChangeSpec := { name := "fnFreeTwiceIsFreeOnce", fn := fun _ => fun
  | [d1, d2, d3, d4] => { results := [.lit (.bool false)], args := [d1, d2, d3, d4] }
  | _ => none }
def FnFreeTwiceIsFreeOnceWrongFalsely : Prop := fnFreeTwiceIsFreeOnceRow.holds Try.pinned (OpenSpec.ofChange fnFreeTwiceIsFreeOnceWrong)

end Rows
end Go.Proofs.Qxb6000035a
