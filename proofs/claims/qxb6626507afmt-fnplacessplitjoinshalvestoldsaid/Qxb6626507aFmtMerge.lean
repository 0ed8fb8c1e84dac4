/- zzb1Merge: the walk. -/
import Derived.Test.Qxb6626507aFmtPlain4
import Derived.Test.Qxb6626507aFmtBase
import Derived.BigQuiet
import Derived.Deep.QuietTactic
namespace Go.Proofs.Qxb6626507aFmt
open Go.RowKit
set_option linter.unusedVariables false

/-- A slice of ints whose elements are zs. -/
def Ints (w : World) (a : Option Addr) (zs : List Int) : Prop :=
  zs = [] ∨ ∃ b off, a = some ⟨b, off, none⟩ ∧ b < w.heap.size ∧ ∀ j, j < zs.length → w.cell? ⟨b, off + j, none⟩ = some (.int .i64 (zs.getD j 0))

theorem Ints.ways {w : World} {a : Option Addr} {zs : List Int} (h : Ints w a zs) :
    zs.length ≤ 0 ∨ ∃ b off, a = some ⟨b, off, none⟩ ∧ b < w.heap.size ∧ ∀ j, j < zs.length → w.cell? ⟨b, off + j, none⟩ = some (.int .i64 (zs.getD j 0)) := by
  rcases h with rfl | h
  · exact .inl (Nat.le_refl _)
  · exact .inr h

/-- What Merge hands back. -/
def MergeIs (xs ys : List Int) (e : Ending) (w' : World) : Prop :=
  (¬ (∀ z ∈ xs, z ∉ ys) ∧ e = .returned (.tuple #[.slice none 0 0, .bool false])) ∨
  ∃ g cap ms, IsMerge xs ys ms ∧ e = .returned (.tuple #[.slice (some ⟨g, 0, none⟩) (xs.length + ys.length) cap, .bool true]) ∧ g < w'.heap.size ∧ ∀ j, j < ms.length → w'.cell? ⟨g, j, none⟩ = some (.int .i64 (ms.getD j 0))

theorem info3' : (Tryf.prog.info? 3).map (fun i => (i.zero, i.size, i.bytes)) = some (some (.int .i64 0), 1, 8) := by kernel_rfl

theorem MergeIs.no {xs ys : List Int} {w' : World} {i j : Nat} (hi : i < xs.length) (hj : j < ys.length) (e : xs.getD i 0 = ys.getD j 0) : MergeIs xs ys (.returned (.tuple #[.slice none 0 0, .bool false])) w' :=
  .inl ⟨fun h => h _ (getD_mem' hi) (e ▸ getD_mem' hj), rfl⟩

theorem MergeIs.yes {xs ys ms : List Int} {w' : World} {g cap B n i j : Nat} (hi : i = xs.length) (hj : j = ys.length) (h : Merged xs ys i j ms) (hn : n = i + j) (hown : w'.ownsRow B 3 1 (.slice (some ⟨g, 0, none⟩) n cap) n (ms.map (Value.int .i64))) :
    MergeIs xs ys (.returned (.tuple #[.slice (some ⟨g, 0, none⟩) n cap, .bool true])) w' := by
  subst hi hj hn
  refine .inr ⟨g, cap, ms, merged_end h, rfl, ?_, fun q hq => ?_⟩
  · rcases hown.2 with ⟨h, _⟩ | ⟨g', cap', cur, h, _, hb, _⟩
    · cases h
    · cases h; exact (Array.getElem?_eq_some_iff.1 hb).1
  · rw [hown.cellAt q (by rw [h.len] at hq; omega), List.getElem?_map, List.getElem?_eq_getElem hq, getD_of_lt hq]
    rfl

theorem own_snoc {w : World} {B g cap n : Nat} {ms : List Int} {x : Int} (h : w.ownsRow B 3 1 (.slice (some ⟨g, 0, none⟩) (n + 1) cap) (n + 1) (ms.map (Value.int .i64) ++ [.int .i64 x])) :
    w.ownsRow B 3 1 (.slice (some ⟨g, 0, none⟩) (n + 1) cap) (n + 1) ((ms ++ [x]).map (Value.int .i64)) := by
  rw [List.map_append]; exact h

theorem grown_drewN {w wr w2 : World} {B n r : Nat} {o : Obj} (h : Below B w wr) (hg : ((wr.drewN n).alloc o).grownBy w2 (some r)) (hw : B ≤ wr.heap.size) (hr : B ≤ r) : Below B w w2 :=
  ((below_drewN h n).alloc hw o).grown hg (Nat.le_trans hw (by simp)) (fun k hk => by cases hk; exact hr)

set_option maxRecDepth 100000 in
set_option maxHeartbeats 2000000 in
theorem merge13 (a b : Option Addr) (ca cb : Nat) (xs ys : List Int) (w : World) (h1 : Ints w a xs) (h2 : Ints w b ys) (l1 : xs.length ≤ 1048576) (l2 : ys.length ≤ 1048576) (p1 : xs.Pairwise (· < ·)) (p2 : ys.Pairwise (· < ·)) :
    Calls Tryf.prog 13 #[.slice a xs.length ca, .slice b ys.length cb] w fun e w' => MergeIs xs ys e w' ∧ Below w.heap.size w w' := by
  obtain ⟨i0, hi, hz0, hz1, hz2⟩ := info_parts info3'
  go_enter Tryf.func13, Tryf.ntmps13
  go_wp2_with (at_make; refine wpList_make_own _ rfl _ _ 30 rfl w.heap.size 3 i0 (.int .i64 0) 1 Tryf.underlying30 hi hz0 hz1 .i64 .i64 _ (xs.length + ys.length) rfl rfl (by omega) (by rw [hz2]; omega) (by unfold maxLen; omega) (Nat.le_refl _) ?_; intro w1 hown0 hgrow0)
  go_wp2_with fail
  go_loopw [6, 7, 8] (fun v p q wr => ∃ (i j : Nat) (ms : List Int), i ≤ xs.length ∧ j ≤ ys.length ∧ p = .int .i64 i ∧ q = .int .i64 j ∧ v = .slice (some ⟨w.heap.size, 0, none⟩) (i + j) (xs.length + ys.length) ∧
      wr.ownsRow w.heap.size 3 1 (.slice (some ⟨w.heap.size, 0, none⟩) (i + j) (xs.length + ys.length)) (i + j) (ms.map (Value.int .i64)) ∧ Merged xs ys i j ms ∧ Below w.heap.size w wr) (fun _ p q _ => xs.length - (intOf p).toNat + (ys.length - (intOf q).toNat))
  case atStart => exact ⟨0, 0, [], Nat.zero_le _, Nat.zero_le _, rfl, rfl, rfl, hown0, merged_start _ _, (Below.refl _ _).grown hgrow0 (Nat.le_refl _) (fun k hk => by cases hk)⟩
  case round =>
    clear hown0 hgrow0
    obtain ⟨i, j, ms, hil, hjl, rfl, rfl, rfl, hown, hmg, hnx⟩ := hrel
    by_cases ci : i < xs.length
    · by_cases cj : j < ys.length
      · rcases h1.ways with h0 | ⟨b1, o1, rfl, hb1, hc1⟩
        · exfalso; omega
        rcases h2.ways with h0 | ⟨b2, o2, rfl, hb2, hc2⟩
        · exfalso; omega
        obtain ⟨x, hx⟩ : ∃ x, x = xs.getD i 0 := ⟨_, rfl⟩
        obtain ⟨y, hy⟩ : ∃ y, y = ys.getD j 0 := ⟨_, rfl⟩
        have hcx : wr.cell? ⟨b1, o1 + i, none⟩ = some (.int .i64 x) := by rw [hx]; exact (hnx.cell (by exact hb1)).trans (hc1 i ci)
        have hcy : wr.cell? ⟨b2, o2 + j, none⟩ = some (.int .i64 y) := by rw [hy]; exact (hnx.cell (by exact hb2)).trans (hc2 j cj)
        have HX : Hid (x = xs.getD i 0) := hx
        have HY : Hid (y = ys.getD j 0) := hy
        clear hx hy hc1 hc2
        rcases Int.lt_trichotomy x y with hxy | hxy | hxy
        · have hmg2 := merged_left p1 p2 hmg ci (fun _ => by rw [← HX.out, ← HY.out]; exact hxy)
          rw [← HX.out] at hmg2
          have hne : (x == y) = false := by simp; omega
          have hownN : ∀ n, (wr.drewN n).ownsRow w.heap.size 3 1 (.slice (some ⟨w.heap.size, 0, none⟩) (i + j) (xs.length + ys.length)) (i + j) (ms.map (Value.int .i64)) := fun n => hown
          go_wp2_with fail
          go_quiet (fail)
          go_wp2_with fail
          go_quiet (fail)
          go_wp2_with (at_builtin; refine wpList_append_fits _ rfl _ _ 30 rfl w.heap.size 3 i0 1 Tryf.underlying30 hi hz1 w.heap.size (i + j) (xs.length + ys.length) _ rfl ((hownN _).alloc _) ⟨wr.heap.size, 0, none⟩ 1 1 [.int .i64 x] rfl rfl (cell_one_new _ _ _) (ints_oneCell .i64 [x]) (by omega) ?_; intro w2 hown2 hgrow2)
          have R2 := grown_drewN hnx hgrow2 hnx.size (Nat.le_refl _)
          have hown3 := own_snoc hown2
          clear hown2 hgrow2 hownN hown
          go_wp2_with fail
          go_roundw
          case rel => exact ⟨i + 1, j, _, by omega, by omega, by go_num, rfl, by rw [show i + 1 + j = i + j + 1 by omega], by rw [show i + 1 + j = i + j + 1 by omega]; exact hown3, hmg2, R2⟩
          case measure => simp [intOf]; omega
        · have heq : (x == y) = true := by simp; exact hxy
          have HQ : Hid (x = y) := hxy
          clear hxy
          go_wp2_with fail
          go_quiet (fail)
          go_wp2_with fail
          go_ret2
          exact ⟨MergeIs.no ci cj (by rw [← HX.out, ← HY.out]; exact HQ.out), below_drewN hnx _⟩
        · have hmg2 := merged_right p1 p2 hmg cj (fun _ => by rw [← HX.out, ← HY.out]; exact hxy)
          rw [← HY.out] at hmg2
          have hne : (x == y) = false := by simp; omega
          have hownN : ∀ n, (wr.drewN n).ownsRow w.heap.size 3 1 (.slice (some ⟨w.heap.size, 0, none⟩) (i + j) (xs.length + ys.length)) (i + j) (ms.map (Value.int .i64)) := fun n => hown
          go_wp2_with fail
          go_quiet (fail)
          go_wp2_with fail
          go_quiet (fail)
          go_wp2_with (at_builtin; refine wpList_append_fits _ rfl _ _ 30 rfl w.heap.size 3 i0 1 Tryf.underlying30 hi hz1 w.heap.size (i + j) (xs.length + ys.length) _ rfl ((hownN _).alloc _) ⟨wr.heap.size, 0, none⟩ 1 1 [.int .i64 y] rfl rfl (cell_one_new _ _ _) (ints_oneCell .i64 [y]) (by omega) ?_; intro w2 hown2 hgrow2)
          have R2 := grown_drewN hnx hgrow2 hnx.size (Nat.le_refl _)
          have hown3 := own_snoc hown2
          clear hown2 hgrow2 hownN hown
          go_wp2_with fail
          go_roundw
          case rel => exact ⟨i, j + 1, _, by omega, by omega, rfl, by go_num, rfl, hown3, hmg2, R2⟩
          case measure => simp [intOf]; omega
      · have hor : i < xs.length → ys.length ≤ j := by omega
        go_wp2_with fail
        go_loopw [6, 7] (fun v p wr => ∃ (i : Nat) (ms : List Int), i ≤ xs.length ∧ (i < xs.length → ys.length ≤ j) ∧ p = .int .i64 i ∧ v = .slice (some ⟨w.heap.size, 0, none⟩) (i + j) (xs.length + ys.length) ∧
            wr.ownsRow w.heap.size 3 1 (.slice (some ⟨w.heap.size, 0, none⟩) (i + j) (xs.length + ys.length)) (i + j) (ms.map (Value.int .i64)) ∧ Merged xs ys i j ms ∧ Below w.heap.size w wr) (fun _ p _ => xs.length - (intOf p).toNat)
        case atStart => exact ⟨i, ms, hil, hor, rfl, rfl, hown, hmg, hnx⟩
        case round =>
          clear hown hmg hnx hor hil
          obtain ⟨i, ms, hil, hor, rfl, rfl, hown, hmg, hnx⟩ := hrel
          by_cases di : i < xs.length
          · rcases h1.ways with h0 | ⟨b1, o1, rfl, hb1, hc1⟩
            · exfalso; omega
            obtain ⟨x, hx⟩ : ∃ x, x = xs.getD i 0 := ⟨_, rfl⟩
            have hcx : wr.cell? ⟨b1, o1 + i, none⟩ = some (.int .i64 x) := by rw [hx]; exact (hnx.cell (by exact hb1)).trans (hc1 i di)
            have hmg2 := merged_left p1 p2 hmg di (fun h => absurd h (by have := hor di; omega))
            rw [← hx] at hmg2
            clear hx hc1
            go_wp2_with (at_builtin; refine wpList_append_fits _ rfl _ _ 30 rfl w.heap.size 3 i0 1 Tryf.underlying30 hi hz1 w.heap.size (i + j) (xs.length + ys.length) _ rfl (hown.alloc _) ⟨wr.heap.size, 0, none⟩ 1 1 [.int .i64 x] rfl rfl (cell_one_new _ _ _) (ints_oneCell .i64 [x]) (by omega) ?_; intro w2 hown2 hgrow2)
            have R2 := grown_drewN (n := 0) hnx hgrow2 hnx.size (Nat.le_refl _)
            have hown3 := own_snoc hown2
            clear hown2 hgrow2 hown
            go_wp2_with fail
            go_roundw
            case rel => exact ⟨i + 1, _, by omega, by omega, by go_num, by rw [show i + 1 + j = i + j + 1 by omega], by rw [show i + 1 + j = i + j + 1 by omega]; exact hown3, hmg2, R2⟩
            case measure => simp [intOf]; omega
          · go_wp2_with fail
            go_loopw [6, 8] (fun v q wr => ∃ (j : Nat) (ms : List Int), j ≤ ys.length ∧ q = .int .i64 j ∧ v = .slice (some ⟨w.heap.size, 0, none⟩) (i + j) (xs.length + ys.length) ∧
                wr.ownsRow w.heap.size 3 1 (.slice (some ⟨w.heap.size, 0, none⟩) (i + j) (xs.length + ys.length)) (i + j) (ms.map (Value.int .i64)) ∧ Merged xs ys i j ms ∧ Below w.heap.size w wr) (fun _ q _ => ys.length - (intOf q).toNat)
            case atStart => exact ⟨j, ms, hjl, rfl, rfl, hown, hmg, hnx⟩
            case round =>
              clear hown hmg hnx hor hjl
              obtain ⟨j, ms, hjl, rfl, rfl, hown, hmg, hnx⟩ := hrel
              by_cases dj : j < ys.length
              · rcases h2.ways with h0 | ⟨b2, o2, rfl, hb2, hc2⟩
                · exfalso; omega
                obtain ⟨y, hy⟩ : ∃ y, y = ys.getD j 0 := ⟨_, rfl⟩
                have hcy : wr.cell? ⟨b2, o2 + j, none⟩ = some (.int .i64 y) := by rw [hy]; exact (hnx.cell (by exact hb2)).trans (hc2 j dj)
                have hmg2 := merged_right p1 p2 hmg dj (fun h => absurd h (by omega))
                rw [← hy] at hmg2
                clear hy hc2
                go_wp2_with (at_builtin; refine wpList_append_fits _ rfl _ _ 30 rfl w.heap.size 3 i0 1 Tryf.underlying30 hi hz1 w.heap.size (i + j) (xs.length + ys.length) _ rfl (hown.alloc _) ⟨wr.heap.size, 0, none⟩ 1 1 [.int .i64 y] rfl rfl (cell_one_new _ _ _) (ints_oneCell .i64 [y]) (by omega) ?_; intro w2 hown2 hgrow2)
                have R2 := grown_drewN (n := 0) hnx hgrow2 hnx.size (Nat.le_refl _)
                have hown3 := own_snoc hown2
                clear hown2 hgrow2 hown
                go_wp2_with fail
                go_roundw
                case rel => exact ⟨j + 1, _, by omega, by go_num, rfl, hown3, hmg2, R2⟩
                case measure => simp [intOf]; omega
              · go_wp2_with fail
                go_ret2
                exact ⟨MergeIs.yes (by omega) (by omega) hmg rfl hown, hnx⟩
    · have hor : i < xs.length → ys.length ≤ j := by omega
      go_wp2_with fail
      go_loopw [6, 7] (fun v p wr => ∃ (i : Nat) (ms : List Int), i ≤ xs.length ∧ (i < xs.length → ys.length ≤ j) ∧ p = .int .i64 i ∧ v = .slice (some ⟨w.heap.size, 0, none⟩) (i + j) (xs.length + ys.length) ∧
          wr.ownsRow w.heap.size 3 1 (.slice (some ⟨w.heap.size, 0, none⟩) (i + j) (xs.length + ys.length)) (i + j) (ms.map (Value.int .i64)) ∧ Merged xs ys i j ms ∧ Below w.heap.size w wr) (fun _ p _ => xs.length - (intOf p).toNat)
      case atStart => exact ⟨i, ms, hil, hor, rfl, rfl, hown, hmg, hnx⟩
      case round =>
        clear hown hmg hnx hor hil
        obtain ⟨i, ms, hil, hor, rfl, rfl, hown, hmg, hnx⟩ := hrel
        by_cases di : i < xs.length
        · rcases h1.ways with h0 | ⟨b1, o1, rfl, hb1, hc1⟩
          · exfalso; omega
          obtain ⟨x, hx⟩ : ∃ x, x = xs.getD i 0 := ⟨_, rfl⟩
          have hcx : wr.cell? ⟨b1, o1 + i, none⟩ = some (.int .i64 x) := by rw [hx]; exact (hnx.cell (by exact hb1)).trans (hc1 i di)
          have hmg2 := merged_left p1 p2 hmg di (fun h => absurd h (by have := hor di; omega))
          rw [← hx] at hmg2
          clear hx hc1
          go_wp2_with (at_builtin; refine wpList_append_fits _ rfl _ _ 30 rfl w.heap.size 3 i0 1 Tryf.underlying30 hi hz1 w.heap.size (i + j) (xs.length + ys.length) _ rfl (hown.alloc _) ⟨wr.heap.size, 0, none⟩ 1 1 [.int .i64 x] rfl rfl (cell_one_new _ _ _) (ints_oneCell .i64 [x]) (by omega) ?_; intro w2 hown2 hgrow2)
          have R2 := grown_drewN (n := 0) hnx hgrow2 hnx.size (Nat.le_refl _)
          have hown3 := own_snoc hown2
          clear hown2 hgrow2 hown
          go_wp2_with fail
          go_roundw
          case rel => exact ⟨i + 1, _, by omega, by omega, by go_num, by rw [show i + 1 + j = i + j + 1 by omega], by rw [show i + 1 + j = i + j + 1 by omega]; exact hown3, hmg2, R2⟩
          case measure => simp [intOf]; omega
        · go_wp2_with fail
          go_loopw [6, 8] (fun v q wr => ∃ (j : Nat) (ms : List Int), j ≤ ys.length ∧ q = .int .i64 j ∧ v = .slice (some ⟨w.heap.size, 0, none⟩) (i + j) (xs.length + ys.length) ∧
              wr.ownsRow w.heap.size 3 1 (.slice (some ⟨w.heap.size, 0, none⟩) (i + j) (xs.length + ys.length)) (i + j) (ms.map (Value.int .i64)) ∧ Merged xs ys i j ms ∧ Below w.heap.size w wr) (fun _ q _ => ys.length - (intOf q).toNat)
          case atStart => exact ⟨j, ms, hjl, rfl, rfl, hown, hmg, hnx⟩
          case round =>
            clear hown hmg hnx hor hjl
            obtain ⟨j, ms, hjl, rfl, rfl, hown, hmg, hnx⟩ := hrel
            by_cases dj : j < ys.length
            · rcases h2.ways with h0 | ⟨b2, o2, rfl, hb2, hc2⟩
              · exfalso; omega
              obtain ⟨y, hy⟩ : ∃ y, y = ys.getD j 0 := ⟨_, rfl⟩
              have hcy : wr.cell? ⟨b2, o2 + j, none⟩ = some (.int .i64 y) := by rw [hy]; exact (hnx.cell (by exact hb2)).trans (hc2 j dj)
              have hmg2 := merged_right p1 p2 hmg dj (fun h => absurd h (by omega))
              rw [← hy] at hmg2
              clear hy hc2
              go_wp2_with (at_builtin; refine wpList_append_fits _ rfl _ _ 30 rfl w.heap.size 3 i0 1 Tryf.underlying30 hi hz1 w.heap.size (i + j) (xs.length + ys.length) _ rfl (hown.alloc _) ⟨wr.heap.size, 0, none⟩ 1 1 [.int .i64 y] rfl rfl (cell_one_new _ _ _) (ints_oneCell .i64 [y]) (by omega) ?_; intro w2 hown2 hgrow2)
              have R2 := grown_drewN (n := 0) hnx hgrow2 hnx.size (Nat.le_refl _)
              have hown3 := own_snoc hown2
              clear hown2 hgrow2 hown
              go_wp2_with fail
              go_roundw
              case rel => exact ⟨j + 1, _, by omega, by go_num, rfl, hown3, hmg2, R2⟩
              case measure => simp [intOf]; omega
            · go_wp2_with fail
              go_ret2
              exact ⟨MergeIs.yes (by omega) (by omega) hmg rfl hown, hnx⟩
end Go.Proofs.Qxb6626507aFmt
