/-
  DERIVED. GIVEN WITH THE SEED: THE CARDS: each row of Qxb6626507aFmtRows.lean that lists a variable, with what it lists TIED to the program's text (the seventh form; the later family's looks); each row that meets fmt, with fmt's text TOLD by the authors' own Lean function (tested against real Go, not proved from fmt's source: count such statements apart). THE CARD IS WHAT COUNTS. Prove the row's statement (the work); the ties are given (Qxb6626507aFmtTie.lean); close each card by the builder's one call (the guide's Derived/Test/ToyasCard.lean, 'card_holds'). Laid BY PROGRAM, IN A SANDBOX (cutbox-door.mjs). By AI agents, Wed Nov 11 2026. No macro, syntax, notation, axiom, sorry.
-/
import Derived.Test.Qxb6626507aFmtRows
import GoSem.ClaimSeven
namespace Go.Proofs.Qxb6626507aFmt
namespace Rows

/-- THE TOLD CARD OF 'zzlaws_internal_deviceid_b1.FnPlacesMatchCountModel'. -/
def fnPlacesMatchCountModelCard : Claim7 := { stood := { row := fnPlacesMatchCountModelRow, standIns := [], harness := (true, "2449e7de91636a1d55cca00641255b55b2a415d29fef9b3807cc07c1032a5d49"), looks := false }, told := true, goes := false }
def FnPlacesMatchCountModelToldSaid : Prop := Claim7.holds Tryf.pinned (.plain (OpenSpec.ofChange fnPlacesMatchCountModelSpec)) fnPlacesMatchCountModelCard
/-- ITS FALSE NEIGHBOUR. Refute it at one input. -/
def FnPlacesMatchCountModelToldWrongFalsely : Prop := Claim7.holds Tryf.pinned (.plain (OpenSpec.ofChange fnPlacesMatchCountModelWrong)) fnPlacesMatchCountModelCard

/-- THE TOLD CARD OF 'zzlaws_internal_deviceid_b1.FnPlacesSplitJoinsHalves'. -/
def fnPlacesSplitJoinsHalvesCard : Claim7 := { stood := { row := fnPlacesSplitJoinsHalvesRow, standIns := [], harness := (true, "2449e7de91636a1d55cca00641255b55b2a415d29fef9b3807cc07c1032a5d49"), looks := false }, told := true, goes := false }
def FnPlacesSplitJoinsHalvesToldSaid : Prop := Claim7.holds Tryf.pinned (.plain (OpenSpec.ofChange fnPlacesSplitJoinsHalvesSpec)) fnPlacesSplitJoinsHalvesCard
/-- ITS FALSE NEIGHBOUR. Refute it at one input. -/
def FnPlacesSplitJoinsHalvesToldWrongFalsely : Prop := Claim7.holds Tryf.pinned (.plain (OpenSpec.ofChange fnPlacesSplitJoinsHalvesWrong)) fnPlacesSplitJoinsHalvesCard
end Rows
end Go.Proofs.Qxb6626507aFmt
