/- The walks' common ground for seat b6626507aF: what a slice of strings, and one of ints, is told as. -/
import Derived.Test.Qxb6626507aFmtProg
import Derived.WalkKit
import Derived.WalkLawsBesides
import Derived.WalkSpells
namespace Go.Proofs.Qxb6626507aFmt
open Go.RowKit

/-- A slice of strings whose elements are ss: none, or a row of cells among the blocks that lie. -/
def Strs (w : World) (a : Option Addr) (ss : List ByteArray) : Prop :=
  ss = [] ∨ ∃ b off, a = some ⟨b, off, none⟩ ∧ b < w.heap.size ∧ ∀ j, j < ss.length → w.cell? ⟨b, off + j, none⟩ = some (.string (ss.getD j ByteArray.empty))

theorem Strs.below {w w' : World} {a : Option Addr} {ss : List ByteArray} (h : Strs w a ss) (hb : Below w.heap.size w w') : Strs w' a ss := by
  rcases h with h | ⟨b, off, rfl, hl, hc⟩
  · exact .inl h
  · exact .inr ⟨b, off, rfl, Nat.lt_of_lt_of_le hl hb.size, fun j hj => (hb.cell (p := ⟨b, off + j, none⟩) hl).trans (hc j hj)⟩

theorem Strs.ways {w : World} {a : Option Addr} {ss : List ByteArray} (h : Strs w a ss) :
    ss.length ≤ 0 ∨ ∃ b off, a = some ⟨b, off, none⟩ ∧ b < w.heap.size ∧ ∀ j, j < ss.length → w.cell? ⟨b, off + j, none⟩ = some (.string (ss.getD j ByteArray.empty)) := by
  rcases h with rfl | h
  · exact .inl (Nat.le_refl _)
  · exact .inr h

theorem bcell {W w1 : World} {B : Nat} (hb : Below B W w1) : (∀ b o, b < B → w1.cell? ⟨b, o, none⟩ = W.cell? ⟨b, o, none⟩) ∧ (∀ b o, b < B → w1.frozen? ⟨b, o, none⟩ = W.frozen? ⟨b, o, none⟩) :=
  ⟨fun b o h => hb.cell (p := ⟨b, o, none⟩) h, fun b o h => hb.frozen (p := ⟨b, o, none⟩) h⟩

/-- A bool that meets p is handed back. (A word of its own, so that the walk's simp leaves it alone.) -/
def IsB (p : Bool → Prop) (e : Ending) : Prop := ∃ b, e = .returned (.bool b) ∧ p b
theorem IsB.mk {p : Bool → Prop} (b : Bool) (h : p b) : IsB p (.returned (.bool b)) := ⟨b, rfl, h⟩

end Go.Proofs.Qxb6626507aFmt
