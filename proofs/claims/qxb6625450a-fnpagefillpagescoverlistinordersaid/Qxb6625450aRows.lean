/-
  No cell of these rows narrows 'for every input' (looked for: loops, veiled, ifaces, maps, wideKeys, modest, calm, conditions, laid).
  DERIVED. THE GIVEN ROWS OF THIS SEAT. 2 by the template 'for every input the law returns true; each argument reads behind the call as it read before'; 0 by the template 'total and deterministic' (their statements: Qxb6625450aTotals.lean).
  GIVEN WITH THE SEED: the statements are not yours to turn. If you find one false, say at which input.
  Laid BY PROGRAM, IN A SANDBOX (cutbox-rows.mjs): the forced cells as the released guide's own fill.sh prints them over the translation b03f9159462ff8d6… (all of the seat's roots in one cut). By AI agents, Wed Nov 11 2026. No macro, syntax, notation, axiom, sorry.
-/
import Derived.Test.Qxb6625450aChecked
import GoSem.Claim
import GoSem.ClaimJoined
import GoSem.ClaimMapViews
import Derived.JoinedTies
import Derived.KernelRfl
namespace Go.Proofs.Qxb6625450a
/- THE CELL 'sum', in the pinned program and in every row, IS THE sha256 OF THE DUMP (.gsa) THAT Qxb6625450aProg.lean LOADS. Nothing in Lean hashes anything: it is a label: what it is worth is what the hold of that sum in a sandbox is worth. -/
noncomputable def Try.pinned : Pinned := { name := "qxb6625450a", sum := "b03f9159462ff8d63cef06827ac24c1c18a73f113f990970e2062631f9302937", checked := Try.checked }
namespace Rows
def none {H : Type} : Left H := { results := [], args := [] }

/-- 'zzlaws_pkg_server_b1.FnPageFillTakeScriptHoldsLeastStoppingPrefix': WHATEVER THE INPUT: true; the input reads as it did. -/
def fnPageFillTakeScriptHoldsLeastStoppingPrefixSpec : ChangeSpec := { name := "fnPageFillTakeScriptHoldsLeastStoppingPrefix", fn := fun _ => fun
  | [d1, d2] => { results := [.lit (.bool true)], args := [d1, d2] }
  | _ => none }
def fnPageFillTakeScriptHoldsLeastStoppingPrefixRow : OpenClaim := { program := "qxb6625450a", sum := "b03f9159462ff8d63cef06827ac24c1c18a73f113f990970e2062631f9302937", func := "example.com/runwarden/runwarden/zzlaws_pkg_server_b1.FnPageFillTakeScriptHoldsLeastStoppingPrefix", spec := "fnPageFillTakeScriptHoldsLeastStoppingPrefix", apart := false }
def FnPageFillTakeScriptHoldsLeastStoppingPrefixSaid : Prop := fnPageFillTakeScriptHoldsLeastStoppingPrefixRow.holds Try.pinned (OpenSpec.ofChange fnPageFillTakeScriptHoldsLeastStoppingPrefixSpec)

/-- ITS FALSE NEIGHBOUR: 'it returns false'. Refute it at one input. -/
def fnPageFillTakeScriptHoldsLeastStoppingPrefixWrong : ChangeSpec := { name := "fnPageFillTakeScriptHoldsLeastStoppingPrefix", fn := fun _ => fun
  | [d1, d2] => { results := [.lit (.bool false)], args := [d1, d2] }
  | _ => none }
def FnPageFillTakeScriptHoldsLeastStoppingPrefixWrongFalsely : Prop := fnPageFillTakeScriptHoldsLeastStoppingPrefixRow.holds Try.pinned (OpenSpec.ofChange fnPageFillTakeScriptHoldsLeastStoppingPrefixWrong)

/-- 'zzlaws_pkg_server_b1.FnPageFillPagesCoverListInOrder': WHATEVER THE INPUT: true; the input reads as it did. -/
def fnPageFillPagesCoverListInOrderSpec : ChangeSpec := { name := "fnPageFillPagesCoverListInOrder", fn := fun _ => fun
  | [d1, d2] => { results := [.lit (.bool true)], args := [d1, d2] }
  | _ => none }
def fnPageFillPagesCoverListInOrderRow : OpenClaim := { program := "qxb6625450a", sum := "b03f9159462ff8d63cef06827ac24c1c18a73f113f990970e2062631f9302937", func := "example.com/runwarden/runwarden/zzlaws_pkg_server_b1.FnPageFillPagesCoverListInOrder", spec := "fnPageFillPagesCoverListInOrder", apart := false }
def FnPageFillPagesCoverListInOrderSaid : Prop := fnPageFillPagesCoverListInOrderRow.holds Try.pinned (OpenSpec.ofChange fnPageFillPagesCoverListInOrderSpec)

/-- ITS FALSE NEIGHBOUR: 'it returns false'. Refute it at one input. -/
def fnPageFillPagesCoverListInOrderWrong : ChangeSpec := { name := "fnPageFillPagesCoverListInOrder", fn := fun _ => fun
  | [d1, d2] => { results := [.lit (.bool false)], args := [d1, d2] }
  | _ => none }
def FnPageFillPagesCoverListInOrderWrongFalsely : Prop := fnPageFillPagesCoverListInOrderRow.holds Try.pinned (OpenSpec.ofChange fnPageFillPagesCoverListInOrderWrong)

end Rows
end Go.Proofs.Qxb6625450a
