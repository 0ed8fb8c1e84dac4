/- fmt.Errorf at the two formats of Places: an error that is not nil. -/
import Derived.Test.Qxb6626507aFmtStop
namespace Go.Proofs.Qxb6626507aFmt
open Go.RowKit Go.Extern.Stop Go.Stop Go.Extern
set_option linter.unusedVariables false
attribute [local go_sem] call17 guard17 fmt0 fmt0r fmt0n fmt1 fmt1r fmt1n op9_115 op9_113 ptr52 elem52

/-- An error was handed back that is not nil. -/
def IsErr (e : Ending) : Prop := ∃ t v, e = .returned (.iface t v)
theorem IsErr.mk (t : TypeId) (v : Value) : IsErr (.returned (.iface t v)) := ⟨t, v, rfl⟩

set_option maxRecDepth 100000 in
theorem errorf0 (F : Interp) (V : Nat) (x0 x1 x2 x3 : ByteArray) (w : World) (hF : F.answers w.tape)
    (h0 : w.cell? ⟨V, 0, none⟩ = some (.iface 9 (.string x0))) (h1 : w.cell? ⟨V, 1, none⟩ = some (.iface 9 (.string x1))) (h2 : w.cell? ⟨V, 2, none⟩ = some (.iface 9 (.string x2))) (h3 : w.cell? ⟨V, 3, none⟩ = some (.iface 9 (.string x3))) :
    Calls Tryf.prog 15 #[.string F0, .slice (some ⟨V, 0, none⟩) 4 4] w fun e w' => IsErr e ∧ Below w.heap.size w w' := by
  have hF' : ∀ i name reading k range, w.tape i (.extern (word name reading k) range) = F name reading k := hF
  go_enter Tryf.func15, Tryf.ntmps15
  go_wp2
  go_ret
  exact ⟨IsErr.mk _ _, ((Below.refl _ _).alloc (Nat.le_refl _) _).drew⟩

set_option maxRecDepth 100000 in
theorem errorf1 (F : Interp) (V : Nat) (x0 x1 x2 : ByteArray) (w : World) (hF : F.answers w.tape)
    (h0 : w.cell? ⟨V, 0, none⟩ = some (.iface 9 (.string x0))) (h1 : w.cell? ⟨V, 1, none⟩ = some (.iface 9 (.string x1))) (h2 : w.cell? ⟨V, 2, none⟩ = some (.iface 9 (.string x2))) :
    Calls Tryf.prog 15 #[.string F1, .slice (some ⟨V, 0, none⟩) 3 3] w fun e w' => IsErr e ∧ Below w.heap.size w w' := by
  have hF' : ∀ i name reading k range, w.tape i (.extern (word name reading k) range) = F name reading k := hF
  go_enter Tryf.func15, Tryf.ntmps15
  go_wp2
  go_ret
  exact ⟨IsErr.mk _ _, ((Below.refl _ _).alloc (Nat.le_refl _) _).drew⟩

/-- .. at the world in which the region calls it: the variadic slice's block laid, one draw. -/
theorem errorf0_at (F : Interp) (x0 x1 x2 x3 : ByteArray) (w : World) (hF : F.answers w.tape) :
    Calls Tryf.prog 15 #[.string ⟨#[37, 115, 32, 37, 115, 32, 37, 113, 58, 32, 116, 104, 101, 32, 110, 111, 100, 101, 32, 104, 97, 115, 32, 110, 111, 32, 115, 117, 99, 104, 32, 37, 115]⟩, .slice (some ⟨w.heap.size, 0, none⟩) 4 4]
      (w.alloc (.cells #[.iface 9 (.string x0), .iface 9 (.string x1), .iface 9 (.string x2), .iface 9 (.string x3)] 20)).drew fun e w' => IsErr e ∧ Below w.heap.size w w' := by
  refine (errorf0 F w.heap.size x0 x1 x2 x3 ((w.alloc (.cells #[.iface 9 (.string x0), .iface 9 (.string x1), .iface 9 (.string x2), .iface 9 (.string x3)] 20)).drew) hF (by go_simp) (by go_simp) (by go_simp) (by go_simp)).mono ?_
  rintro e w' ⟨he, hb⟩
  exact ⟨he, (((Below.refl _ w).alloc (Nat.le_refl _) _).drew).trans (hb.mono (by simp))⟩

theorem errorf1_at (F : Interp) (x0 x1 x2 : ByteArray) (w : World) (hF : F.answers w.tape) :
    Calls Tryf.prog 15 #[.string ⟨#[37, 115, 32, 37, 115, 32, 37, 113, 32, 105, 115, 32, 108, 105, 115, 116, 101, 100, 32, 116, 119, 105, 99, 101]⟩, .slice (some ⟨w.heap.size, 0, none⟩) 3 3]
      (w.alloc (.cells #[.iface 9 (.string x0), .iface 9 (.string x1), .iface 9 (.string x2)] 20)).drew fun e w' => IsErr e ∧ Below w.heap.size w w' := by
  refine (errorf1 F w.heap.size x0 x1 x2 ((w.alloc (.cells #[.iface 9 (.string x0), .iface 9 (.string x1), .iface 9 (.string x2)] 20)).drew) hF (by go_simp) (by go_simp) (by go_simp)).mono ?_
  rintro e w' ⟨he, hb⟩
  exact ⟨he, (((Below.refl _ w).alloc (Nat.le_refl _) _).drew).trans (hb.mono (by simp))⟩
end Go.Proofs.Qxb6626507aFmt
