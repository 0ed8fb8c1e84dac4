/- zzb1Copy: nil for nil; else the same strings in a new row. -/
import Derived.Test.Qxb6626507aFmtBase
namespace Go.Proofs.Qxb6626507aFmt
open Go.RowKit
set_option linter.unusedVariables false

theorem Tryf.info9 : (Tryf.prog.info? 9).map (fun i => (i.zero, i.size, i.bytes)) = some (some (.string ByteArray.empty), 1, 16) := by kernel_rfl

/-- A slice of strings was handed back that holds ss. -/
def IsSs (ss : List ByteArray) (e : Ending) (w' : World) : Prop := ∃ a c, e = .returned (.slice a ss.length c) ∧ Strs w' a ss
theorem IsSs.mk {ss : List ByteArray} {w' : World} (a : Option Addr) (n c : Nat) (hn : n = ss.length) (h : Strs w' a ss) : IsSs ss (.returned (.slice a n c)) w' := ⟨a, c, by rw [hn], h⟩

theorem copied_step {ss : List ByteArray} {xs : List Value} {k : Nat} (hk : k < ss.length) (hl : xs.length = ss.length) (h : ∀ j, j < k → xs[j]? = some (.string (ss.getD j ByteArray.empty))) :
    ∀ j, j < k + 1 → (xs.set k (.string (ss.getD k ByteArray.empty)))[j]? = some (.string (ss.getD j ByteArray.empty)) := by
  intro j hj
  by_cases e : j = k
  · subst e; rw [List.getElem?_set_self (by omega)]
  · rw [List.getElem?_set_ne (by omega)]; exact h j (by omega)

theorem copied_end {w wr : World} {ss : List ByteArray} {xs : List Value} {k : Nat} (hk : ss.length ≤ k) (hown : wr.ownsRow w.heap.size 9 1 (.slice (some ⟨w.heap.size, 0, none⟩) ss.length ss.length) ss.length xs)
    (hxs : ∀ j, j < k → xs[j]? = some (.string (ss.getD j ByteArray.empty))) (hlt : w.heap.size < wr.heap.size) : IsSs ss (.returned (.slice (some ⟨w.heap.size, 0, none⟩) ss.length ss.length)) wr := by
  refine IsSs.mk _ _ _ rfl (.inr ⟨_, 0, rfl, hlt, fun j hj => ?_⟩)
  rw [Nat.zero_add, hown.cellAt j (by omega)]
  exact hxs j (by omega)

theorem own_lt {w wr : World} {B n c : Nat} {e : TypeId} {xs : List Value} (h : wr.ownsRow B e 1 (.slice (some ⟨w.heap.size, 0, none⟩) n c) n xs) : w.heap.size < wr.heap.size := by
  rcases h.2 with ⟨h, _⟩ | ⟨g, cap, cur, h, _, hb, _⟩
  · cases h
  · cases h; exact (Array.getElem?_eq_some_iff.1 hb).1

set_option maxRecDepth 100000 in
set_option maxHeartbeats 1000000 in
theorem copy8 (a : Option Addr) (c : Nat) (ss : List ByteArray) (w : World) (h : Strs w a ss) (hl : ss.length ≤ 1048576) :
    Calls Tryf.prog 8 #[.slice a ss.length c] w fun e w' => IsSs ss e w' ∧ Below w.heap.size w w' := by
  obtain ⟨i0, hi, hz0, hz1, hz2⟩ := info_parts Tryf.info9
  have q22 : ∀ (w : World) (a : Option Addr) (n c n' c' : Nat), (binOp .eql 22 (.slice a n c) (.slice none n' c')).run Tryf.prog w = .ok (.bool a.isNone) w := fun w a n c n' c' => Lib.run_eql_slice_nil w _ _ a n c n' c' Tryf.underlying22
  cases a with
  | none =>
    have hs : ss = [] := by rcases h with h | ⟨_, _, h, _⟩; exact h; cases h
    subst hs
    go_enter Tryf.func8, Tryf.ntmps8
    go_wp2
    go_ret
    exact ⟨IsSs.mk _ _ _ rfl (.inl rfl), Below.refl _ _⟩
  | some x =>
    rcases h.ways with h0 | ⟨b, off, hx, hb, hc⟩
    case' inr => cases hx
    all_goals
      go_enter Tryf.func8, Tryf.ntmps8
      go_wp2_with (at_make; refine wpList_make_full _ rfl _ _ 22 rfl w.heap.size 9 i0 (.string ByteArray.empty) 1 Tryf.underlying22 hi hz0 hz1 .i64 .i64 _ _ ss.length rfl rfl rfl rfl (by rw [hz2]; omega) (by unfold maxLen; omega) (Nat.le_refl _) ?_; intro w1 hown0 hgrow0)
      go_wp2
      go_loopw [4] (fun i wr => ∃ (k : Nat) (xs : List Value), k ≤ ss.length ∧ i = .int .i64 k ∧ wr.ownsRow w.heap.size 9 1 (.slice (some ⟨w.heap.size, 0, none⟩) ss.length ss.length) ss.length xs ∧
          (∀ j, j < k → xs[j]? = some (.string (ss.getD j ByteArray.empty))) ∧ Below w.heap.size w wr) (fun i _ => ss.length - (intOf i).toNat)
      case atStart => exact ⟨0, _, Nat.zero_le _, rfl, hown0, fun j hj => absurd hj (by omega), (Below.refl _ _).grown hgrow0 (Nat.le_refl _) (fun k hk => by cases hk)⟩
      case round =>
        clear hown0 hgrow0
        obtain ⟨k, xs, hk, rfl, hown, hxs, hnx⟩ := hrel
        have hxl : xs.length = ss.length := by simpa using hown.1
        by_cases hlt : k < ss.length
        · first
          | (exfalso; omega)
          | (obtain ⟨s, hs⟩ : ∃ s, s = ss.getD k ByteArray.empty := ⟨_, rfl⟩
             have hcx : wr.cell? ⟨b, off + k, none⟩ = some (.string s) := by rw [hs]; exact (hnx.cell (by exact hb)).trans (hc k hlt)
             have hold : wr.cell? ⟨w.heap.size, k, none⟩ = some (xs[k]'(by omega)) := by rw [hown.cellAt k (by omega), List.getElem?_eq_getElem]
             have hfz := hown.frozenAt k
             obtain ⟨hown1, hgrow1⟩ := hown.stored k (.string s)
             have R1 := copied_step hlt hxl hxs
             rw [← hs] at R1
             have R2 := hnx.grown hgrow1 hnx.size (fun j hj => by cases hj; exact Nat.le_refl _)
             clear hgrow1 hs
             go_wp2
             go_roundw
             case rel => exact ⟨k + 1, _, by omega, by go_num, hown1, R1, R2⟩
             case measure => simp [intOf]; omega)
        · have hlt2 := own_lt hown
          go_wp2
          go_ret
          exact ⟨copied_end (by omega) hown hxs hlt2, hnx⟩
end Go.Proofs.Qxb6626507aFmt
