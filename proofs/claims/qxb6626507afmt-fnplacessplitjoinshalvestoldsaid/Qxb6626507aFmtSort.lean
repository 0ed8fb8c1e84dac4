/- slices.Sort at []int, by the shelf's contract, in the walk's own words. -/
import Derived.Test.Qxb6626507aFmtLays
import Derived.Test.Qxb6626507aFmtPlaces
import Derived.Sort.OwnSortedInts
namespace Go.Proofs.Qxb6626507aFmt
open Go.RowKit Go.Sort
set_option linter.unusedVariables false

theorem sort16 : Sort16 := by
  intro base g cap zs w hown hl
  rcases hown.2 with ⟨h, _⟩ | ⟨g', cap', cur, hv, hbase, hb, h1, h2, h3, h4⟩
  · cases h
  cases hv
  have hH : Holds (Value.int .i64) w g 0 zs.toArray := holds_of_blockI hb (by simpa using h4)
  refine (Any.slices_Sort_int Tryf.lays189 g 0 cap zs w hH (Array.getElem?_eq_some_iff.1 hb).1 hl).mono ?_
  rintro e w' ⟨rfl, n, os, rfl⟩
  exact ⟨rfl, ownsRow_sortedI (by simp) hbase hb h1 h2 h3, grownBy_sortedI _⟩
end Go.Proofs.Qxb6626507aFmt
