/- Seat b6625450a: what the row's frame tells of a slice, turned into the walks' own words. -/
import Derived.Test.Qxb6625450aBase
import Derived.OpenShut
namespace Go.Proofs.Qxb6625450a
open Go.RowKit

theorem row_addr {w : World} {x : Addr} {v : Value} (h : w.cell? (x.add 0) = some v) : x = ⟨x.block, x.off, none⟩ ∧ x.block < w.heap.size := by
  obtain ⟨b, off, spot⟩ := x
  have hspot : spot = none := by simpa [Addr.add] using World.cell?_spot h
  subst hspot
  exact ⟨rfl, World.block_lt_of_cell? w _ h⟩

theorem row_ints {w : World} {a : Option Addr} {len cap : Nat} {zs : List Int}
    (h : (a = none ∧ len = 0 ∧ cap = 0 ∧ zs = []) ∨ ∃ x, a = some x ∧ len ≤ cap ∧ cap ≤ maxLen ∧ zs.length = cap ∧ (∀ i, i < zs.length → w.cell? (x.add i) = some (.int .i64 (zs.getD i 0))) ∧ ∀ n ∈ zs, (Lit.int .i64 n).wf = true) :
    ∃ l : List Int, l.length = len ∧ Zs w a l ∧ len ≤ 9223372036854775807 := by
  rcases h with ⟨rfl, rfl, rfl, rfl⟩ | ⟨x, rfl, hl, hm, hz, hc, hwf⟩
  · exact ⟨[], rfl, .inl rfl, by omega⟩
  · refine ⟨zs.take len, by simp; omega, ?_, by unfold maxLen at hm; omega⟩
    rcases Nat.eq_zero_or_pos len with h0 | hp
    · subst h0; exact .inl rfl
    · obtain ⟨hx, hb⟩ := row_addr (hc 0 (by omega))
      refine .inr ⟨x.block, x.off, by rw [← hx], hb, fun j hj => ?_⟩
      have hj1 : j < len := by simp at hj; omega
      have hjz : j < zs.length := by omega
      have h1 := hc j hjz
      rw [hx, Addr.add_lit] at h1
      rw [h1]
      simp [List.getD, hj1, hjz]
end Go.Proofs.Qxb6625450a
