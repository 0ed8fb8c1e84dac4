/- Seat b6625450a: sums of sizes, and what a slice of ints and a page is told as. -/
import Derived.Test.Qxb6625450aProg
import Derived.WalkKit
import Derived.WalkLawsBesides
import Derived.WalkSpells
import Derived.WalkSmall
import Derived.BigQuiet
import Derived.Below
import Derived.OwnWalk
namespace Go.Proofs.Qxb6625450a
open Go.RowKit

/-- The sum of the first j sizes. -/
def S (zs : List Int) : Nat → Int
  | 0 => 0
  | j + 1 => S zs j + zs.getD j 0

theorem S_succ (zs : List Int) (j : Nat) : S zs (j + 1) = S zs j + zs.getD j 0 := rfl

/-- Every size lies between 0 and 2^30. -/
def Fit (zs : List Int) : Prop := ∀ j, j < zs.length → 0 ≤ zs.getD j 0 ∧ zs.getD j 0 ≤ 1073741824

theorem S_bound {zs : List Int} (h : Fit zs) : ∀ j, j ≤ zs.length → 0 ≤ S zs j ∧ S zs j ≤ 1073741824 * (j : Int)
  | 0, _ => by simp [S]
  | j + 1, hj => by
    have ih := S_bound h j (by omega)
    have hz := h j (by omega)
    rw [S_succ]
    omega

theorem S_mono {zs : List Int} (h : Fit zs) (i : Nat) : ∀ d, i + d ≤ zs.length → S zs i ≤ S zs (i + d)
  | 0, _ => Int.le_refl _
  | d + 1, hj => by
    have ih := S_mono h i d (by omega)
    have hz := h (i + d) (by omega)
    rw [← Nat.add_assoc, S_succ]
    omega

theorem S_le {zs : List Int} (h : Fit zs) {i j : Nat} (hij : i ≤ j) (hj : j ≤ zs.length) : S zs i ≤ S zs j := by
  have := S_mono h i (j - i) (by omega)
  rwa [show i + (j - i) = j by omega] at this

/-- A slice of ints whose elements are zs. -/
def Zs (w : World) (a : Option Addr) (zs : List Int) : Prop :=
  zs = [] ∨ ∃ b off, a = some ⟨b, off, none⟩ ∧ b < w.heap.size ∧ ∀ j, j < zs.length → w.cell? ⟨b, off + j, none⟩ = some (.int .i64 (zs.getD j 0))

theorem Zs.ways {w : World} {a : Option Addr} {zs : List Int} (h : Zs w a zs) :
    zs.length ≤ 0 ∨ ∃ b off, a = some ⟨b, off, none⟩ ∧ b < w.heap.size ∧ ∀ j, j < zs.length → w.cell? ⟨b, off + j, none⟩ = some (.int .i64 (zs.getD j 0)) := by
  rcases h with rfl | h
  · exact .inl (Nat.le_refl _)
  · exact .inr h

theorem Zs.below {w w' : World} {a : Option Addr} {zs : List Int} (h : Zs w a zs) (hb : Below w.heap.size w w') : Zs w' a zs := by
  rcases h with h | ⟨b, off, rfl, hl, hc⟩
  · exact .inl h
  · exact .inr ⟨b, off, rfl, Nat.lt_of_lt_of_le hl hb.size, fun j hj => (hb.cell (p := ⟨b, off + j, none⟩) hl).trans (hc j hj)⟩

/-- A page: its three numbers in block g. -/
structure Pg (w : World) (g : Nat) (l i s : Int) : Prop where
  c0 : w.cell? ⟨g, 0, none⟩ = some (.int .i64 l)
  c1 : w.cell? ⟨g, 1, none⟩ = some (.int .i64 i)
  c2 : w.cell? ⟨g, 2, none⟩ = some (.int .i64 s)
  f1 : w.frozen? ⟨g, 1, none⟩ = false
  f2 : w.frozen? ⟨g, 2, none⟩ = false

theorem Pg.drewN {w : World} {g : Nat} {l i s : Int} (h : Pg w g l i s) (n : Nat) : Pg (w.drewN n) g l i s := ⟨h.c0, h.c1, h.c2, h.f1, h.f2⟩

theorem Pg.taken {w : World} {g : Nat} {l i s : Int} (h : Pg w g l i s) (i' s' : Int) :
    Pg ((w.setCell ⟨g, 1, none⟩ (.int .i64 i')).setCell ⟨g, 2, none⟩ (.int .i64 s')) g l i' s' := by
  refine ⟨?_, ?_, ?_, by simpa using h.f1, by simpa using h.f2⟩
  · rw [World.cell?_setCell_other _ ⟨g, 2, none⟩ ⟨g, 0, none⟩ _ (by simp), World.cell?_setCell_other _ ⟨g, 1, none⟩ ⟨g, 0, none⟩ _ (by simp)]
    exact h.c0
  · rw [World.cell?_setCell_other _ ⟨g, 2, none⟩ ⟨g, 1, none⟩ _ (by simp)]
    exact World.cell?_setCell_same _ _ _ h.c1
  · refine World.cell?_setCell_same _ _ _ (u := .int .i64 s) ?_
    rw [World.cell?_setCell_other _ ⟨g, 1, none⟩ ⟨g, 2, none⟩ _ (by simp)]
    exact h.c2

end Go.Proofs.Qxb6625450a
