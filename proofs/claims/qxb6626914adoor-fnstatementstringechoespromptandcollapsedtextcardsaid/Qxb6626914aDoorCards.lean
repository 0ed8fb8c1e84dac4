/-
  DERIVED. GIVEN WITH THE SEED: THE CARDS: each row of Qxb6626914aDoorRows.lean that lists a variable, with what it lists TIED to the program's text (the seventh form; the later family's looks); each row that meets fmt, with fmt's text TOLD by the authors' own Lean function (tested against real Go, not proved from fmt's source: count such statements apart). THE CARD IS WHAT COUNTS. Prove the row's statement (the work); the ties are given (Qxb6626914aDoorTie.lean); close each card by the builder's one call (the guide's Derived/Test/ToyasCard.lean, 'card_holds'). Laid BY PROGRAM, IN A SANDBOX (cutbox-door.mjs). By AI agents, Wed Nov 11 2026. No macro, syntax, notation, axiom, sorry.
-/
import Derived.Test.Qxb6626914aDoorRows
import GoSem.ClaimSeven
namespace Go.Proofs.Qxb6626914aDoor
namespace Rows

/-- THE TIED CARD OF 'zzlaws_transcript_b1.FnStatementStringEchoesPromptAndCollapsedText'. -/
def fnStatementStringEchoesPromptAndCollapsedTextCard : Claim7 := { stood := { row := fnStatementStringEchoesPromptAndCollapsedTextRow, standIns := [], harness := (true, "bb685f9ac8b4ef56df3ee696abc5717c4ba5be24726bf872fbfa4c4c7e9d3fae"), looks := false }, kinds := [], alts := [], laidByText := true, laidKinds := [.listed, .data], laidTests := true, laidLooks := .later }
def FnStatementStringEchoesPromptAndCollapsedTextCardSaid : Prop := Claim7.holds Tryd.pinned (.plain (OpenSpec.ofChange fnStatementStringEchoesPromptAndCollapsedTextSpec)) fnStatementStringEchoesPromptAndCollapsedTextCard

/-- THE TIED CARD OF 'zzlaws_transcript_b1.FnStatementStringSplitsAtAnySpaceAndIsStable'. -/
def fnStatementStringSplitsAtAnySpaceAndIsStableCard : Claim7 := { stood := { row := fnStatementStringSplitsAtAnySpaceAndIsStableRow, standIns := [], harness := (true, "bb685f9ac8b4ef56df3ee696abc5717c4ba5be24726bf872fbfa4c4c7e9d3fae"), looks := false }, kinds := [], alts := [], laidByText := true, laidKinds := [.listed, .data], laidTests := true, laidLooks := .later }
def FnStatementStringSplitsAtAnySpaceAndIsStableCardSaid : Prop := Claim7.holds Tryd.pinned (.plain (OpenSpec.ofChange fnStatementStringSplitsAtAnySpaceAndIsStableSpec)) fnStatementStringSplitsAtAnySpaceAndIsStableCard
end Rows
end Go.Proofs.Qxb6626914aDoor
