/-
  No cell of these rows narrows 'for every input' (looked for: loops, veiled, ifaces, maps, wideKeys, modest, calm, conditions, laid).
  DERIVED. THE GIVEN ROWS OF THIS SEAT. 2 by the template 'for every input the law returns true; each argument reads behind the call as it read before'; 0 by the template 'total and deterministic' (their statements: Qxb6626507aFmtTotals.lean).
  GIVEN WITH THE SEED: the statements are not yours to turn. If you find one false, say at which input.
  Laid BY PROGRAM, IN A SANDBOX (cutbox-rows.mjs): the forced cells as the released guide's own fill.sh prints them over the translation c40393447be420ab… (all of the seat's roots in one cut). By AI agents, Wed Nov 11 2026. No macro, syntax, notation, axiom, sorry.
-/
import Derived.Test.Qxb6626507aFmtChecked
import GoSem.Claim
import GoSem.ClaimJoined
import GoSem.ClaimMapViews
import Derived.JoinedTies
import Derived.KernelRfl
namespace Go.Proofs.Qxb6626507aFmt
/- THE CELL 'sum', in the pinned program and in every row, IS THE sha256 OF THE DUMP (.gsa) THAT Qxb6626507aFmtProg.lean LOADS. Nothing in Lean hashes anything: it is a label: what it is worth is what the hold of that sum in a sandbox is worth. -/
noncomputable def Tryf.pinned : Pinned := { name := "qxb6626507afmt", sum := "c40393447be420abc008041a02907d6730d64c0a47c116f423882fe6e0fd6539", checked := Tryf.checked }
namespace Rows
def none {H : Type} : Left H := { results := [], args := [] }

/-- 'zzlaws_internal_deviceid_b1.FnPlacesMatchCountModel': WHATEVER THE INPUT: true; the input reads as it did. -/
def fnPlacesMatchCountModelSpec : ChangeSpec := { name := "fnPlacesMatchCountModel", fn := fun _ => fun
  | [d1, d2, d3, d4] => { results := [.lit (.bool true)], args := [d1, d2, d3, d4] }
  | _ => none }
def fnPlacesMatchCountModelRow : OpenClaim := { program := "qxb6626507afmt", sum := "c40393447be420abc008041a02907d6730d64c0a47c116f423882fe6e0fd6539", func := "example.com/graticule/graticule/zzlaws_internal_deviceid_b1.FnPlacesMatchCountModel", spec := "fnPlacesMatchCountModel", stops := ["fmt.errorf"], inPlace := ["fmt.errorf"], recurses := true, apart := false }
/-- NO THEOREM (fmt's text is open here; it may be false): for the released tool's asking of the row's closed facts alone. THE STATEMENT IS 'FnPlacesMatchCountModelToldSaid' (Qxb6626507aFmtCards.lean). -/
def FnPlacesMatchCountModelFormAsk : Prop := fnPlacesMatchCountModelRow.holds Tryf.pinned (OpenSpec.ofChange fnPlacesMatchCountModelSpec)

/-- ITS FALSE NEIGHBOUR: 'it returns false'. Refute it at one input. -/
def fnPlacesMatchCountModelWrong : ChangeSpec := { name := "fnPlacesMatchCountModel", fn := fun _ => fun
  | [d1, d2, d3, d4] => { results := [.lit (.bool false)], args := [d1, d2, d3, d4] }
  | _ => none }
def FnPlacesMatchCountModelWrongFormAsk : Prop := fnPlacesMatchCountModelRow.holds Tryf.pinned (OpenSpec.ofChange fnPlacesMatchCountModelWrong)

/-- 'zzlaws_internal_deviceid_b1.FnPlacesSplitJoinsHalves': WHATEVER THE INPUT: true; the input reads as it did. -/
def fnPlacesSplitJoinsHalvesSpec : ChangeSpec := { name := "fnPlacesSplitJoinsHalves", fn := fun _ => fun
  | [d1, d2, d3, d4, d5] => { results := [.lit (.bool true)], args := [d1, d2, d3, d4, d5] }
  | _ => none }
def fnPlacesSplitJoinsHalvesRow : OpenClaim := { program := "qxb6626507afmt", sum := "c40393447be420abc008041a02907d6730d64c0a47c116f423882fe6e0fd6539", func := "example.com/graticule/graticule/zzlaws_internal_deviceid_b1.FnPlacesSplitJoinsHalves", spec := "fnPlacesSplitJoinsHalves", stops := ["fmt.errorf"], inPlace := ["fmt.errorf"], recurses := true, apart := false }
/-- NO THEOREM (fmt's text is open here; it may be false): for the released tool's asking of the row's closed facts alone. THE STATEMENT IS 'FnPlacesSplitJoinsHalvesToldSaid' (Qxb6626507aFmtCards.lean). -/
def FnPlacesSplitJoinsHalvesFormAsk : Prop := fnPlacesSplitJoinsHalvesRow.holds Tryf.pinned (OpenSpec.ofChange fnPlacesSplitJoinsHalvesSpec)

/-- ITS FALSE NEIGHBOUR: 'it returns false'. Refute it at one input. -/
def fnPlacesSplitJoinsHalvesWrong : ChangeSpec := { name := "fnPlacesSplitJoinsHalves", fn := fun _ => fun
  | [d1, d2, d3, d4, d5] => { results := [.lit (.bool false)], args := [d1, d2, d3, d4, d5] }
  | _ => none }
def FnPlacesSplitJoinsHalvesWrongFormAsk : Prop := fnPlacesSplitJoinsHalvesRow.holds Tryf.pinned (OpenSpec.ofChange fnPlacesSplitJoinsHalvesWrong)

end Rows
end Go.Proofs.Qxb6626507aFmt
