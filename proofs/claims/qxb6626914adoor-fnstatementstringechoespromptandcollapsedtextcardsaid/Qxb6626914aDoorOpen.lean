/- The rows' common ground: what the listed variables give; the witness's world. -/
import Derived.Test.Qxb6626914aDoorCards
import Derived.Test.Qxb6626914aDoorTie
import Derived.Test.Qxb6626914aDoorString
import Derived.ProofKit
import Derived.LaidMore
import Derived.OpenShut
import Derived.ShutString
import Derived.ChangeOld
import Derived.Stop.Joined
namespace Go.Proofs.Qxb6626914aDoor
open Go.ChangeShapes Go.WideShapes Go.ChangeAt Go.RowKit Go.Lib
set_option linter.unusedVariables false

theorem own : ownKnob Tryd.prog.godebug = none := by kernel_rfl
theorem laidOut : laidOutB Tryd.prog = true := by kernel_rfl

/-- The rows' list. -/
def laid2 : List (String × DataW Unit) := [("unicode.White_Space", Rows.laid_unicode_White_Space), ("strings.asciiSpace", Rows.laid_strings_asciiSpace)]

theorem white_eq : (Rows.laid_unicode_White_Space : DataW Unit) = whiteData := by kernel_rfl
theorem ascii_eq : (Rows.laid_strings_asciiSpace : DataW Unit) = tabData .u8 asciiSpaceTab := by kernel_rfl

theorem whiteExtra : WhiteExtra Tryd.prog Tryd.lays199_ren := {
  n6 := by kernel_rfl
  y6 := by kernel_rfl
  c3 := by kernel_rfl
  c49 := by kernel_rfl
  c193 := by kernel_rfl
  c194 := by kernel_rfl
  c196 := by kernel_rfl
  c198 := by kernel_rfl }

set_option maxRecDepth 100000 in
/-- The door's own heap meets the condition. -/
theorem door_met (os : Os) (args : Array Value) : laidMetH Tryd.prog laid2 ((World.doorLaid Tryd.prog 400 os).forCall (fun _ _ => 0) ⟨#[], args, []⟩).memory :=
  laidMetH_of_parts3 (fuel := 8) (laidMet_of_run' 8 (by kernel_rfl) (by kernel_rfl)) (by kernel_rfl) (by kernel_rfl)

theorem tabs_of_laid {W : World} (h : laidMetH Tryd.prog laid2 W) : Tabs W := by
  rw [MakeChecks.laidMetH_plain _ _ _ (by kernel_rfl)] at h
  refine ⟨?_, whiteTab_of_reads Tryd.lays199 whiteExtra (white_eq ▸ laidMet.reads h (by simp [laid2]))⟩
  obtain ⟨g, t, cs, fuel, p, hg, hty, hvar, hd⟩ : VarReads Tryd.prog W "strings.asciiSpace" (tabData .u8 asciiSpaceTab) := ascii_eq ▸ laidMet.reads h (by simp [laid2])
  obtain rfl := Option.some.inj (named0.symm.trans hg)
  obtain rfl := Option.some.inj ((show (Tryd.prog.globals[0]?).map (·.type) = some 42 by kernel_rfl).symm.trans hty)
  unfold TabIs
  rw [hvar, ← cells_of_tab Tryd.underlying42 Tryd.underlying5 (by kernel_rfl) (by kernel_rfl) hd]
end Go.Proofs.Qxb6626914aDoor
