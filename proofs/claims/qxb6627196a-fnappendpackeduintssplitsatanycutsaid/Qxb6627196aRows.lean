/-
  No cell of these rows narrows 'for every input' (looked for: loops, veiled, ifaces, maps, wideKeys, modest, calm, conditions, laid).
  DERIVED. THE GIVEN ROWS OF THIS SEAT. 2 by the template 'for every input the law returns true; each argument reads behind the call as it read before'; 0 by the template 'total and deterministic' (their statements: Qxb6627196aTotals.lean).
  GIVEN WITH THE SEED: the statements are not yours to turn. If you find one false, say at which input.
  Laid BY PROGRAM, IN A SANDBOX (cutbox-rows.mjs): the forced cells as the released guide's own fill.sh prints them over the translation 54fad706acac8c23… (all of the seat's roots in one cut). By AI agents, Wed Nov 11 2026. No macro, syntax, notation, axiom, sorry.
-/
import Derived.Test.Qxb6627196aChecked
import GoSem.Claim
import GoSem.ClaimJoined
import GoSem.ClaimMapViews
import Derived.JoinedTies
import Derived.KernelRfl
namespace Go.Proofs.Qxb6627196a
/- THE CELL 'sum', in the pinned program and in every row, IS THE sha256 OF THE DUMP (.gsa) THAT Qxb6627196aProg.lean LOADS. Nothing in Lean hashes anything: it is a label: what it is worth is what the hold of that sum in a sandbox is worth. -/
noncomputable def Try.pinned : Pinned := { name := "qxb6627196a", sum := "54fad706acac8c237d0ea7b9881b0835671620205a0d928ed30623c218bbbda5", checked := Try.checked }
namespace Rows
def none {H : Type} : Left H := { results := [], args := [] }

/-- 'zzlaws_wire_b1.FnAppendPackedUintsDecodesToItsInput': WHATEVER THE INPUT: true; the input reads as it did. -/
def fnAppendPackedUintsDecodesToItsInputSpec : ChangeSpec := { name := "fnAppendPackedUintsDecodesToItsInput", fn := fun _ => fun
  | [d1, d2, d3] => { results := [.lit (.bool true)], args := [d1, d2, d3] }
  | _ => none }
def fnAppendPackedUintsDecodesToItsInputRow : OpenClaim := { program := "qxb6627196a", sum := "54fad706acac8c237d0ea7b9881b0835671620205a0d928ed30623c218bbbda5", func := "example.com/moorshim/moorshim/zzlaws_wire_b1.FnAppendPackedUintsDecodesToItsInput", spec := "fnAppendPackedUintsDecodesToItsInput", apart := false }
def FnAppendPackedUintsDecodesToItsInputSaid : Prop := fnAppendPackedUintsDecodesToItsInputRow.holds Try.pinned (OpenSpec.ofChange fnAppendPackedUintsDecodesToItsInputSpec)

/-- ITS FALSE NEIGHBOUR: 'it returns false'. Refute it at one input. -/
def fnAppendPackedUintsDecodesToItsInputWrong : ChangeSpec := { name := "fnAppendPackedUintsDecodesToItsInput", fn := fun _ => fun
  | [d1, d2, d3] => { results := [.lit (.bool false)], args := [d1, d2, d3] }
  | _ => none }
def FnAppendPackedUintsDecodesToItsInputWrongFalsely : Prop := fnAppendPackedUintsDecodesToItsInputRow.holds Try.pinned (OpenSpec.ofChange fnAppendPackedUintsDecodesToItsInputWrong)

/-- 'zzlaws_wire_b1.FnAppendPackedUintsSplitsAtAnyCut': WHATEVER THE INPUT: true; the input reads as it did. -/
def fnAppendPackedUintsSplitsAtAnyCutSpec : ChangeSpec := { name := "fnAppendPackedUintsSplitsAtAnyCut", fn := fun _ => fun
  | [d1, d2, d3, d4] => { results := [.lit (.bool true)], args := [d1, d2, d3, d4] }
  | _ => none }
def fnAppendPackedUintsSplitsAtAnyCutRow : OpenClaim := { program := "qxb6627196a", sum := "54fad706acac8c237d0ea7b9881b0835671620205a0d928ed30623c218bbbda5", func := "example.com/moorshim/moorshim/zzlaws_wire_b1.FnAppendPackedUintsSplitsAtAnyCut", spec := "fnAppendPackedUintsSplitsAtAnyCut", apart := false }
def FnAppendPackedUintsSplitsAtAnyCutSaid : Prop := fnAppendPackedUintsSplitsAtAnyCutRow.holds Try.pinned (OpenSpec.ofChange fnAppendPackedUintsSplitsAtAnyCutSpec)

/-- ITS FALSE NEIGHBOUR: 'it returns false'. Refute it at one input. -/
def fnAppendPackedUintsSplitsAtAnyCutWrong : ChangeSpec := { name := "fnAppendPackedUintsSplitsAtAnyCut", fn := fun _ => fun
  | [d1, d2, d3, d4] => { results := [.lit (.bool false)], args := [d1, d2, d3, d4] }
  | _ => none }
def FnAppendPackedUintsSplitsAtAnyCutWrongFalsely : Prop := fnAppendPackedUintsSplitsAtAnyCutRow.holds Try.pinned (OpenSpec.ofChange fnAppendPackedUintsSplitsAtAnyCutWrong)

end Rows
end Go.Proofs.Qxb6627196a
