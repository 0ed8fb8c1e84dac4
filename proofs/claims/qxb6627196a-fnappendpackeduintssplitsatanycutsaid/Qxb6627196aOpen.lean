/- Seat b6627196a: what the row's frame tells of a slice, turned into the walks' own words. -/
import Derived.Test.Qxb6627196aBase
import Derived.OpenShut
namespace Go.Proofs.Qxb6627196a
open Go.RowKit

theorem row_addr {w : World} {x : Addr} {v : Value} (h : w.cell? (x.add 0) = some v) : x = ⟨x.block, x.off, none⟩ ∧ x.block < w.heap.size := by
  obtain ⟨b, off, spot⟩ := x
  have hspot : spot = none := by simpa [Addr.add] using World.cell?_spot h
  subst hspot
  exact ⟨rfl, World.block_lt_of_cell? w _ h⟩

theorem row_bytes {w : World} {a : Option Addr} {len cap : Nat} {zs : List Int}
    (h : (a = none ∧ len = 0 ∧ cap = 0 ∧ zs = []) ∨ ∃ x, a = some x ∧ len ≤ cap ∧ cap ≤ maxLen ∧ zs.length = cap ∧ (∀ i, i < zs.length → w.cell? (x.add i) = some (.int .u8 (zs.getD i 0))) ∧ ∀ n ∈ zs, (Lit.int .u8 n).wf = true) :
    ∃ l : List UInt8, l.length = len ∧ Bs w a l ∧ len ≤ 9223372036854775807 := by
  rcases h with ⟨rfl, rfl, rfl, rfl⟩ | ⟨x, rfl, hl, hm, hz, hc, hwf⟩
  · exact ⟨[], rfl, .inl rfl, by omega⟩
  · refine ⟨(zs.take len).map (fun z => z.toNat.toUInt8), by simp; omega, ?_, by unfold maxLen at hm; omega⟩
    rcases Nat.eq_zero_or_pos len with h0 | hp
    · subst h0; exact .inl rfl
    · obtain ⟨hx, hb⟩ := row_addr (hc 0 (by omega))
      refine .inr ⟨x.block, x.off, by rw [← hx], hb, fun j hj => ?_⟩
      have hj1 : j < len := by simp at hj; omega
      have hjz : j < zs.length := by omega
      have h1 := hc j hjz
      rw [hx, Addr.add_lit] at h1
      rw [h1]
      have h2 := hwf (zs.getD j 0) (by simp [List.getD, hjz])
      simp [Lit.wf, IntKind.min, IntKind.max, IntKind.bits, IntKind.signed] at h2
      have h3 : ((zs.take len).map (fun z => z.toNat.toUInt8)).getD j 0 = (zs.getD j 0).toNat.toUInt8 := by
        simp [List.getD, hj1, hjz]
      have h4 : zs.getD j 0 = zs[j] := by simp [List.getD, hjz]
      rw [h3, Lib.toUInt8_toNat (by rw [h4]; simp [hjz] at h2; omega)]
      congr 2
      rw [h4]; simp [hjz] at h2; omega

theorem row_uints {w : World} {a : Option Addr} {len cap : Nat} {zs : List Int}
    (h : (a = none ∧ len = 0 ∧ cap = 0 ∧ zs = []) ∨ ∃ x, a = some x ∧ len ≤ cap ∧ cap ≤ maxLen ∧ zs.length = cap ∧ (∀ i, i < zs.length → w.cell? (x.add i) = some (.int .u64 (zs.getD i 0))) ∧ ∀ n ∈ zs, (Lit.int .u64 n).wf = true) :
    ∃ l : List Nat, l.length = len ∧ Us w w.heap.size a l ∧ len ≤ 9223372036854775807 ∧ ∀ v ∈ l, v < 18446744073709551616 := by
  rcases h with ⟨rfl, rfl, rfl, rfl⟩ | ⟨x, rfl, hl, hm, hz, hc, hwf⟩
  · exact ⟨[], rfl, .inl rfl, by omega, fun v hv => by cases hv⟩
  · refine ⟨(zs.take len).map (fun z => z.toNat), by simp; omega, ?_, by unfold maxLen at hm; omega, ?_⟩
    · rcases Nat.eq_zero_or_pos len with h0 | hp
      · subst h0; exact .inl rfl
      · obtain ⟨hx, hb⟩ := row_addr (hc 0 (by omega))
        refine .inr ⟨x.block, x.off, by rw [← hx], hb, fun j hj => ?_⟩
        have hj1 : j < len := by simp at hj; omega
        have hjz : j < zs.length := by omega
        have h1 := hc j hjz
        rw [hx, Addr.add_lit] at h1
        rw [h1]
        have h4 : zs.getD j 0 = zs[j] := by simp [List.getD, hjz]
        have h2 := hwf zs[j] (by simp)
        simp [Lit.wf, IntKind.min, IntKind.max, IntKind.bits, IntKind.signed] at h2
        have h3 : ((zs.take len).map (fun z => z.toNat)).getD j 0 = (zs.getD j 0).toNat := by
          simp [List.getD, hj1, hjz]
        rw [h3, h4]
        congr 2
        omega
    · intro v hv
      obtain ⟨z, hz1, rfl⟩ := List.mem_map.1 hv
      have h2 := hwf z (List.mem_of_mem_take hz1)
      simp [Lit.wf, IntKind.min, IntKind.max, IntKind.bits, IntKind.signed] at h2
      omega
end Go.Proofs.Qxb6627196a
