/- The card of FnStatementStringEchoesPromptAndCollapsedText. -/
import Derived.Test.Qxb6626914aDoorOpen
import Derived.Test.Qxb6626914aDoorLaw3
namespace Go.Proofs.Qxb6626914aDoor
open Go.ChangeShapes Go.WideShapes Go.ChangeAt Go.RowKit Go.Lib
open Go.ChangeMaps (open_string shut_string)
set_option linter.unusedVariables false

set_option maxRecDepth 100000 in
theorem lifted3 (os : Os) (started : os.Started) (H : Type) (enc : TypeId × Value → H) :
    ReturnsInHanded {} Tryd.checked os 3 .any (fun w args => (Rows.fnStatementStringEchoesPromptAndCollapsedTextSpec.pre enc Tryd.prog Tryd.f3 [] false w args ∧ laidMetH Tryd.prog laid2 w) ∧ sizedMet enc Tryd.prog Tryd.f3 (OpenSpec.ofChange Rows.fnStatementStringEchoesPromptAndCollapsedTextSpec) false w args)
      (Rows.fnStatementStringEchoesPromptAndCollapsedTextSpec.post enc Tryd.prog Tryd.f3 false true false false) := by
  refine returnsInHanded_of_change_and (C := Tryd.checked) (X := fun w _ => laidMetH Tryd.prog laid2 w) (fun _ _ _ hh h => h.of_heap hh) own started (by kernel_rfl) Tryd.func3
    (ChangeSpec.witness_shaped (enc := enc) (C := Tryd.checked) (os := os) (X := fun w _ => laidMetH Tryd.prog laid2 w) false (World.doorLaid Tryd.prog 400 os) #[.string ⟨#[]⟩, .string ⟨#[]⟩, .int .i64 0, .bool false] 8 rfl (World.shaped_of_RefB (by kernel_rfl) (by kernel_rfl)) (by kernel_rfl) (by kernel_rfl) (by kernel_rfl) (door_met os _)) ?_
  intro W base args ds gs before hval0 hW _ _ hL _
  have hval : ∀ (j : Nat) t v, Tryd.f3.params[j]? = some t → args[j]? = some v → Value.okWide Tryd.prog W .any base t v := hval0
  have hW' := hW
  obtain ⟨p, q, hA0, hV, rfl, hfz, hnd⟩ := hW
  have hA : DataW.TrodAll enc Tryd.prog W 0 (fun _ => true) true Tryd.f3.params.toList args.toList ds p := hA0
  rw [Tryd.params3] at hA hval
  obtain ⟨v0, v1, v2, v3, d0, d1, d2, d3, p0, p1, p2, p3, rfl, rfl, rfl, h0, h1, h2, h3⟩ := trodAll_four hA
  obtain ⟨s0, rfl, rfl, rfl, l0⟩ := open_string Tryd.underlying9 (hval 0 9 v0 rfl rfl) h0
  obtain ⟨s1, rfl, rfl, rfl, l1⟩ := open_string Tryd.underlying9 (hval 1 9 v1 rfl rfl) h1
  obtain ⟨n, rfl, rfl, rfl, wn⟩ := open_int Tryd.underlying3 (hval 2 3 v2 rfl rfl) h2
  obtain ⟨x, rfl, rfl, rfl⟩ := open_bool Tryd.underlying4 (hval 3 4 v3 rfl rfl) h3
  obtain ⟨rfl, rfl⟩ := trodVars_none hV
  have ht := tabs_of_laid hL
  clear hA0 hval0
  obtain ⟨ses, rfl⟩ := list_of s0
  obtain ⟨l, rfl⟩ := list_of s1
  refine (law3 ses l n x W ht l0 l1).mono fun e W' ⟨he, bel⟩ => ?_
  subst he
  exact ⟨_, rfl, _, _, _, [], _, [], hW', trodAll_mk1 (shut_bool Tryd.underlying4 _), (trodAll_mk4 (shut_string Tryd.underlying9 l0) (shut_string Tryd.underlying9 l1) (shut_int Tryd.underlying3 wn) (shut_bool Tryd.underlying4 x)), rfl, bel.frame _, fun h => by cases h⟩

theorem row3 : Rows.FnStatementStringEchoesPromptAndCollapsedTextSaid :=
  OpenClaim.holds_of_wide 3 Tryd.f3 rfl rfl rfl rfl rfl rfl rfl ⟨rfl, rfl, rfl, rfl, rfl⟩ rfl rfl rfl rfl rfl (by kernel_rfl) Tryd.func3 (by kernel_rfl)
    (of_decide_eq_true (by kernel_rfl)) (by unfold Func.isWrapper; first | (rw [if_pos (by decide +kernel)]; kernel_rfl) | (rw [if_neg (by decide +kernel)]; exact ⟨rfl, rfl⟩))
    (fun os started H enc _ => lifted3 os started H enc)

/-- ████ THE STATEMENT ████ -/
theorem echoes : Rows.FnStatementStringEchoesPromptAndCollapsedTextCardSaid :=
  Claim7.holds_tied_plain_at .later [] [.listed, .data] true (true, "bb685f9ac8b4ef56df3ee696abc5717c4ba5be24726bf872fbfa4c4c7e9d3fae") false
    row3 (fun _ h => by cases h) (by kernel_rfl) (fun _ h => by cases h) fnStatementStringEchoesPromptAndCollapsedText_row_tie rfl ⟨rfl, rfl⟩ (by kernel_rfl) rfl
    (fun f fn hf hfn => by
      obtain rfl : f = 3 := Option.some.inj ((show Tryd.prog.funcNamed Rows.fnStatementStringEchoesPromptAndCollapsedTextRow.func = some 3 by kernel_rfl).symm.trans hf) |>.symm
      obtain rfl : fn = Tryd.f3 := (Option.some.inj (Tryd.func3.symm.trans hfn)).symm
      exact ⟨by kernel_rfl, fun j t ht => by
        rw [Tryd.params3] at ht
        have hm : t ∈ [9, 9, 3, 4] := by simpa using Array.mem_of_getElem? ht
        have hall : ([9, 9, 3, 4].all fun u => !Tryd.prog.wantsStandIn u) = true := by kernel_rfl
        exact (show Tryd.prog.wantsStandIn t = false by simpa using List.all_eq_true.1 hall t hm)⟩)
    (by kernel_rfl)
end Go.Proofs.Qxb6626914aDoor
