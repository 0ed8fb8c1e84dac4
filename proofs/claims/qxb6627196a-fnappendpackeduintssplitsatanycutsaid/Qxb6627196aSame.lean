/- Seat b6627196a: sameBytes, cloneBytes and the guards walked. -/
import Derived.Test.Qxb6627196aBase
import Derived.BigQuiet
import Derived.WalkSmall
namespace Go.Proofs.Qxb6627196a
open Go.RowKit
set_option linter.unusedVariables false
set_option linter.unusedSimpArgs false

set_option maxHeartbeats 8000000 in
set_option maxRecDepth 100000 in
/-- sameBytes: two slices of the same bytes: true. -/
theorem sameBytes_true (l : List UInt8) (a a' : Option Addr) (c c' : Nat) (w : World) (h1 : Bs w a l) (h2 : Bs w a' l) (hl : l.length ≤ 1152921504606846976) :
    Calls Try.prog 8 #[.slice a l.length c, .slice a' l.length c'] w fun e w' => e = .returned (.bool true) ∧ Below w.heap.size w w' := by
  have e1 : ((l.length : Int) != (l.length : Int)) = false := by simp
  go_enter Try.func8, Try.ntmps8
  go_wp2_with fail
  go_loopw [5] (fun vi wr => ∃ k : Nat, vi = .int .i64 k ∧ k ≤ l.length ∧ Below w.heap.size w wr)
    (fun vi _ => l.length - (intOf vi).toNat)
  case atStart => exact ⟨0, rfl, by omega, Below.refl _ _⟩
  case round =>
    obtain ⟨k, rfl, hk, hbr⟩ := hrel
    by_cases hkl : k < l.length
    · rcases (h1.below hbr).ways with hz | ⟨b, off, rfl, hbl, hcell⟩
      · exfalso; omega
      rcases (h2.below hbr).ways with hz | ⟨b', off', rfl, hbl', hcell'⟩
      · exfalso; omega
      have hc := hcell k hkl
      have hc' := hcell' k hkl
      obtain ⟨x, hx⟩ : ∃ x, x = (l.getD k 0).toNat := ⟨_, rfl⟩
      rw [← hx] at hc hc'
      have hx2 : x < 256 := by rw [hx]; exact UInt8.toNat_lt _
      clear hcell hcell' hx
      go_wp2_with fail
      go_quiet (fail)
      go_wp2_with fail
      go_roundw
      case rel => exact ⟨k + 1, by go_num, by omega, below_drewN hbr _⟩
      case measure => simp [intOf]; omega
    · go_wp2_with fail
      go_ret
      exact ⟨rfl, hbr⟩

theorem copied_step {l : List UInt8} {xs : List Value} {k : Nat} (hk : k < l.length) (hl : xs.length = l.length) (h : ∀ j, j < k → xs[j]? = some (.int .u8 ((l.getD j 0).toNat : Int))) :
    ∀ j, j < k + 1 → (xs.set k (.int .u8 ((l.getD k 0).toNat : Int)))[j]? = some (.int .u8 ((l.getD j 0).toNat : Int)) := by
  intro j hj
  by_cases e : j = k
  · subst e; rw [List.getElem?_set_self (by omega)]
  · rw [List.getElem?_set_ne (by omega)]; exact h j (by omega)

theorem copied_all {l : List UInt8} {xs : List Value} (hl : xs.length = l.length) (h : ∀ j, j < l.length → xs[j]? = some (.int .u8 ((l.getD j 0).toNat : Int))) : xs = Lib.byteCells l := by
  apply List.ext_getElem?
  intro j
  by_cases hj : j < l.length
  · rw [h j hj]; simp [Lib.byteCells, List.getD, hj]
  · rw [List.getElem?_eq_none (by omega), List.getElem?_eq_none (by simp [Lib.byteCells]; omega)]

set_option maxRecDepth 100000 in
set_option maxHeartbeats 1000000 in
/-- cloneBytes: a row of one's own with the same bytes; nil for nil. -/
theorem clone_put (a : Option Addr) (c : Nat) (l : List UInt8) (w : World) (h : Bs w a l) (hl : l.length ≤ 1048576) :
    Calls Try.prog 6 #[.slice a l.length c] w fun e w' => ∃ v', e = .returned v' ∧ w'.ownsRow w.heap.size 5 1 v' l.length (Lib.byteCells l) ∧ Below w.heap.size w w' := by
  obtain ⟨i0, hi, hz0, hz1, hz2⟩ := info_parts (P := Try.prog) (e := 5) (z := .int .u8 0) (size := 1) (bytes := 1) (by kernel_rfl)
  have q22 : ∀ (w : World) (a : Option Addr) (n c n' c' : Nat), (binOp .eql 22 (.slice a n c) (.slice none n' c')).run Try.prog w = .ok (.bool a.isNone) w := fun w a n c n' c' => Lib.run_eql_slice_nil w _ _ a n c n' c' Try.underlying22
  cases a with
  | none =>
    have hs : l = [] := by rcases h with h | ⟨_, _, h, _⟩; exact h; cases h
    subst hs
    go_enter Try.func6, Try.ntmps6
    go_wp2
    go_ret
    exact ⟨_, rfl, World.ownsRow_nil _ _ _ _, Below.refl _ _⟩
  | some x =>
    rcases h.ways with h0 | ⟨b, off, hx, hb, hc⟩
    case' inr => cases hx
    all_goals
      go_enter Try.func6, Try.ntmps6
      go_wp2_with (at_make; refine wpList_make_full _ rfl _ _ 22 rfl w.heap.size 5 i0 (.int .u8 0) 1 Try.underlying22 hi hz0 hz1 .i64 .i64 _ _ l.length rfl rfl rfl rfl (by rw [hz2]; omega) (by unfold maxLen; omega) (Nat.le_refl _) ?_; intro w1 hown0 hgrow0)
      go_wp2
      go_loopw [4] (fun i wr => ∃ (k : Nat) (xs : List Value), k ≤ l.length ∧ i = .int .i64 k ∧ wr.ownsRow w.heap.size 5 1 (.slice (some ⟨w.heap.size, 0, none⟩) l.length l.length) l.length xs ∧
          (∀ j, j < k → xs[j]? = some (.int .u8 ((l.getD j 0).toNat : Int))) ∧ Below w.heap.size w wr) (fun i _ => l.length - (intOf i).toNat)
      case atStart => exact ⟨0, _, Nat.zero_le _, rfl, hown0, fun j hj => absurd hj (by omega), (Below.refl _ _).grown hgrow0 (Nat.le_refl _) (fun k hk => by cases hk)⟩
      case round =>
        clear hown0 hgrow0
        obtain ⟨k, xs, hk, rfl, hown, hxs, hnx⟩ := hrel
        have hxl : xs.length = l.length := by simpa using hown.1
        by_cases hlt : k < l.length
        · first
          | (exfalso; omega)
          | (obtain ⟨s, hs⟩ : ∃ s, s = (l.getD k 0).toNat := ⟨_, rfl⟩
             have hcx : wr.cell? ⟨b, off + k, none⟩ = some (.int .u8 (s : Int)) := by rw [hs]; exact (hnx.cell (by exact hb)).trans (hc k hlt)
             have hold : wr.cell? ⟨w.heap.size, k, none⟩ = some (xs[k]'(by omega)) := by rw [hown.cellAt k (by omega), List.getElem?_eq_getElem]
             have hfz := hown.frozenAt k
             obtain ⟨hown1, hgrow1⟩ := hown.stored k (.int .u8 (s : Int))
             have R1 := copied_step hlt hxl hxs
             rw [← hs] at R1
             have R2 := hnx.grown hgrow1 hnx.size (fun j hj => by cases hj; exact Nat.le_refl _)
             clear hgrow1 hs
             go_wp2
             go_roundw
             case rel => exact ⟨k + 1, _, by omega, by go_num, hown1, R1, R2⟩
             case measure => simp [intOf]; omega)
        · have hkl : k = l.length := by omega
          rw [copied_all hxl (by rw [← hkl]; exact hxs)] at hown
          clear hkl hxs
          go_wp2
          go_ret
          exact ⟨_, rfl, hown, hnx⟩

/-- The guard's answer: a bool; where true the lengths are bounded. (A word of its own.) -/
def IsB (p : Bool → Prop) (e : Ending) : Prop := ∃ b, e = .returned (.bool b) ∧ p b

set_option maxRecDepth 100000 in
set_option maxHeartbeats 1000000 in
theorem guard5 (a a' : Option Addr) (n c m c' : Nat) (num : Int) (w : World) (h1 : n ≤ 9223372036854775807) (h2 : m ≤ 9223372036854775807) :
    Calls Try.prog 5 #[.slice a n c, .int .i64 num, .slice a' m c'] w fun e w' => IsB (fun b => b = true → n + m ≤ 1048576) e ∧ w = w' := by
  go_enter Try.func5, Try.ntmps5
  by_cases c1 : n ≤ 1048576
  · by_cases c2 : m ≤ 1048576
    · by_cases c3 : n + m ≤ 1048576
      · go_wp2
        go_ret
        exact ⟨⟨_, rfl, fun _ => c3⟩, rfl⟩
      · go_wp2
        go_ret
        exact ⟨⟨_, rfl, fun h => by cases h⟩, rfl⟩
    · go_wp2
      go_ret
      exact ⟨⟨_, rfl, fun h => by cases h⟩, rfl⟩
  · go_wp2
    go_ret
    exact ⟨⟨_, rfl, fun h => by cases h⟩, rfl⟩

set_option maxRecDepth 100000 in
set_option maxHeartbeats 1000000 in
theorem guard11 (a a' : Option Addr) (n c m c' : Nat) (num k : Int) (w : World) (h1 : n ≤ 9223372036854775807) (h2 : m ≤ 9223372036854775807) :
    Calls Try.prog 11 #[.slice a n c, .int .i64 num, .slice a' m c', .int .i64 k] w fun e w' => IsB (fun b => b = true → n + m ≤ 1048576) e ∧ w = w' := by
  go_enter Try.func11, Try.ntmps11
  by_cases c1 : n ≤ 1048576
  · by_cases c2 : m ≤ 1048576
    · by_cases c3 : n + m ≤ 1048576
      · go_wp2
        go_ret
        exact ⟨⟨_, rfl, fun _ => c3⟩, rfl⟩
      · go_wp2
        go_ret
        exact ⟨⟨_, rfl, fun h => by cases h⟩, rfl⟩
    · go_wp2
      go_ret
      exact ⟨⟨_, rfl, fun h => by cases h⟩, rfl⟩
  · go_wp2
    go_ret
    exact ⟨⟨_, rfl, fun h => by cases h⟩, rfl⟩
end Go.Proofs.Qxb6627196a
