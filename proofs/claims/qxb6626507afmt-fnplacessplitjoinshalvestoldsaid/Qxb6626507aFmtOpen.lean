/- The row's common ground: the arguments opened. -/
import Derived.Test.Qxb6626507aFmtCards
import Derived.Test.Qxb6626507aFmtBase
import Derived.ProofKit
import Derived.SliceStrings
import Derived.ShutString
import Derived.ChangeOld
import Derived.OpenShut
import Derived.Stop.JoinedAt
import Derived.Stop.JoinedTold
import Derived.SevenToldRow
namespace Go.Proofs.Qxb6626507aFmt
open Go.ChangeShapes Go.WideShapes Go.ChangeAt Go.RowKit Go.Kit
open Go.ChangeMaps (open_string shut_string)
open Go.Extern.Stop Go.Stop Go.Extern
set_option linter.unusedVariables false

theorem own : ownKnob Tryf.prog.godebug = none := by kernel_rfl
theorem laidOut : laidOutB Tryf.pinned.checked.prog = true := by kernel_rfl
theorem stops : Tryf.pinned.checked.prog.stops = ["fmt.errorf"] := by kernel_rfl
theorem stopKnobs : Tryf.pinned.checked.prog.stopKnobs = [] := by kernel_rfl
theorem quiet (os : Os) : Stop.quiet Tryf.pinned.checked.prog os := by
  intro k hk
  rw [stopKnobs] at hk
  cases hk
theorem cells9 : Tryf.prog.cellsOf 9 = 1 := by kernel_rfl

theorem lt_of_cell {w : World} {a : Addr} {v : Value} (h : w.cell? a = some v) : a.block < w.heap.size := by
  unfold World.cell? at h
  rcases Nat.lt_or_ge a.block w.heap.size with h' | h'
  · exact h'
  · rw [Array.getElem?_eq_none h'] at h
    simp at h

/-- A slice of strings that came in. -/
theorem open_strs {H : Type} {enc : TypeId × Value → H} {W : World} {a : Option Addr} {len cap : Nat} {x : DataW H × List MemPlace} {fuel : Nat}
    (h : DataW.trod enc Tryf.prog W 0 (fun _ => true) true fuel 22 (Value.slice a len cap).cells.toList = some x) :
    ∃ ss : List ByteArray, len = ss.length ∧ Strs W a ss ∧ len ≤ maxLen ∧ ∀ s ∈ ss, s.size ≤ maxLen := by
  rcases open_strings Tryf.underlying22 Tryf.underlying9 cells9 h with ⟨hcs, hx⟩ | ⟨ad, len', cap', ss, hcs, _, hl, hm, hz, hx, hcell, hws⟩
  · simp [Value.cells] at hcs
    obtain ⟨rfl, rfl, rfl⟩ := hcs
    exact ⟨[], rfl, .inl rfl, Nat.zero_le _, fun s hs => by cases hs⟩
  · simp [Value.cells] at hcs
    obtain ⟨rfl, rfl, rfl⟩ := hcs
    simp only [if_true] at hz
    refine ⟨ss.take len, by rw [List.length_take]; omega, ?_, by omega, fun s hs => hws s (List.mem_of_mem_take hs)⟩
    by_cases h0 : len = 0
    · exact .inl (by rw [h0]; rfl)
    · obtain ⟨b, off, spot⟩ := ad
      have hspot : spot = none := by simpa [Addr.add] using World.cell?_spot (hcell 0 (by omega))
      subst hspot
      have hc : ∀ j, j < ss.length → W.cell? ⟨b, off + j, none⟩ = some (.string (ss.getD j ByteArray.empty)) := fun j hj => by rw [← Go.WideShapes.add_plain]; exact hcell j hj
      refine .inr ⟨b, off, rfl, lt_of_cell (hc 0 (by omega)), fun j hj => ?_⟩
      rw [List.length_take] at hj
      rw [hc j (by omega)]
      simp only [List.getD, List.getElem?_take_of_lt (show j < len by omega)]
end Go.Proofs.Qxb6626507aFmt
