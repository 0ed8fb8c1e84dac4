/- Seat b6625450a: the law FnPageFillTakeScriptHoldsLeastStoppingPrefix walked. -/
import Derived.Test.Qxb6625450aPage
namespace Go.Proofs.Qxb6625450a
open Go.RowKit
set_option linter.unusedVariables false
set_option linter.unusedSimpArgs false

set_option maxHeartbeats 64000000 in
set_option maxRecDepth 100000 in
theorem law3 (zs : List Int) (a : Option Addr) (c : Nat) (l : Int) (w : World) (hz : Zs w a zs) (hn : zs.length ≤ 9223372036854775807) :
    Calls Try.prog 3 #[.int .i64 l, .slice a zs.length c] w fun e w' => e = .returned (.bool true) ∧ Below w.heap.size w w' := by
  have hg := guard5 a zs.length c l w hn
  go_enter Try.func3, Try.ntmps3
  go_wp2_with fail
  refine hg.mono ?_
  rintro e w' ⟨⟨b, rfl, hsum⟩, rfl⟩
  clear hg
  cases b
  · go_wp2_with fail
    go_ret
    exact ⟨rfl, Below.refl _ _⟩
  clear hsum
  by_cases t1 : zs.length ≤ 65536
  case neg =>
    go_wp2_with fail
    go_ret
    exact ⟨rfl, Below.refl _ _⟩
  have d1 : decide ((65536 : Int) < (zs.length : Int)) = false := decide_eq_false (by omega)
  go_wp2_with fail
  go_loop [5] (fun vk => ∃ k : Nat, vk = .int .i64 k ∧ k ≤ zs.length ∧ ∀ j, j < k → 0 ≤ zs.getD j 0 ∧ zs.getD j 0 ≤ 1073741824)
    (fun vk => zs.length - (intOf vk).toNat)
  case atStart => exact ⟨0, rfl, by omega, fun j hj => by omega⟩
  case round =>
    obtain ⟨k, rfl, hk, hfk⟩ := hrel
    by_cases hkl : k < zs.length
    · rcases hz.ways with h0 | ⟨b, off, rfl, hb, hcell⟩
      · exfalso; omega
      have hc := hcell k hkl
      obtain ⟨z, hzd⟩ : ∃ z, z = zs.getD k 0 := ⟨_, rfl⟩
      rw [← hzd] at hc
      have HZ : Hid (z = zs.getD k 0) := hzd
      clear hcell hzd
      by_cases z1 : z < 0
      · have dz : decide (z < 0) = true := decide_eq_true z1
        go_wp2_with fail
        go_ret
        exact ⟨rfl, Below.refl _ _⟩
      have dz : decide (z < 0) = false := decide_eq_false z1
      by_cases z2 : 1073741824 < z
      · have dz2 : decide (1073741824 < z) = true := decide_eq_true z2
        go_wp2_with fail
        go_ret
        exact ⟨rfl, Below.refl _ _⟩
      have dz2 : decide (1073741824 < z) = false := decide_eq_false z2
      go_wp2_with fail
      go_round
      case rel =>
        refine ⟨k + 1, by go_num, by omega, fun j hj => ?_⟩
        by_cases e : j = k
        · subst e; rw [← HZ.out]; omega
        · exact hfk j (by omega)
      case measure => simp [intOf]; omega
    have hfit : Fit zs := fun j hj => hfk j (by omega)
    have dk : decide ((k : Int) < (zs.length : Int)) = false := decide_eq_false (by omega)
    have e : zs.length = k := by omega
    subst e
    clear hfk hk hkl
    go_wp2_with fail
    go_loop [7, 8, 9] (fun vm va vj => ∃ j : Nat, vm = .int .i64 zs.length ∧ vj = .int .i64 j ∧ va = .int .i64 (S zs j) ∧ j ≤ zs.length ∧ ∀ i, i < j → S zs i < 1048576)
      (fun _ _ vj => zs.length - (intOf vj).toNat)
    case atStart => exact ⟨0, rfl, rfl, rfl, by omega, fun i hi => by omega⟩
    case round =>
      obtain ⟨j, rfl, rfl, rfl, hj, hall⟩ := hrel
      have hsb := S_bound hfit j hj
      by_cases hjn : j < zs.length
      · by_cases hac : 1048576 ≤ S zs j
        · -- the total stands at the bound: m = j
          have da : decide ((1048576 : Int) ≤ S zs j) = true := decide_eq_true hac
          by_cases c0 : l < 0
          · have dl : decide ((0 : Int) ≤ l) = false := decide_eq_false (by omega)
            have dm : decide ((j : Int) < (zs.length : Int)) = true := decide_eq_true (by omega)
            have hKall : ∀ i, i < j → S zs i < 1048576 := hall
            have hKl : ∀ i : Nat, i < j → (i : Int) ≠ l := fun i hi => by omega
            have hstop : Hid (j < zs.length → ((j : Nat) : Int) = l ∨ 1048576 ≤ S zs j) := fun h => .inr hac
            go_wp2_with fail
            go_loop [11, 12] (fun vs vj => ∃ q : Nat, vj = .int .i64 q ∧ vs = .int .i64 (S zs q) ∧ q ≤ j) (fun _ vj => j - (intOf vj).toNat)
            case atStart => exact ⟨0, rfl, rfl, by omega⟩
            case round =>
              obtain ⟨q, rfl, rfl, hq⟩ := hrel
              have hqb := S_bound hfit q (by omega)
              by_cases hqk : q < j
              · rcases hz.ways with h0 | ⟨b, off, rfl, hb, hcell⟩
                · exfalso; omega
                have hc := hcell q (by omega)
                have hzb := hfit q (by omega)
                obtain ⟨z, hzd⟩ : ∃ z, z = zs.getD q 0 := ⟨_, rfl⟩
                rw [← hzd] at hc hzb
                have HZ : Hid (z = zs.getD q 0) := hzd
                clear hcell hzd hall hstop hKl hKall
                go_wp2_with fail
                go_round
                case rel => exact ⟨q + 1, by go_num, by rw [S_succ, ← HZ.out], by omega⟩
                case measure => simp [intOf]; omega
              have e : j = q := by omega
              subst e
              clear hqk hq
              have dqq : decide (((j : Nat) : Int) < ((j : Nat) : Int)) = false := decide_eq_false (by omega)
              go_wp2_with fail
              refine (new6 _ w).mono ?_
              rintro e w1 ⟨g, rfl, hg, hp, hbel⟩
              go_wp2_with fail
              go_loopw [14] (fun vi wr => ∃ i : Nat, vi = .int .i64 i ∧ i ≤ zs.length ∧ Pg wr g l ((min i j : Nat) : Int) (S zs (min i j)) ∧ Below w.heap.size w wr) (fun vi _ => zs.length - (intOf vi).toNat)
              case atStart => exact ⟨0, rfl, by omega, by rw [Nat.zero_min]; exact hp, hbel⟩
              case round =>
                obtain ⟨i, rfl, hi, hpg, hbr⟩ := hrel
                by_cases hin : i < zs.length
                · rcases (hz.below hbr).ways with h0 | ⟨b, off, rfl, hb, hcell⟩
                  · exfalso; omega
                  have hc := hcell i hin
                  have hzb := hfit i hin
                  have hib := S_bound hfit i (by omega)
                  obtain ⟨z, hzd⟩ : ∃ z, z = zs.getD i 0 := ⟨_, rfl⟩
                  rw [← hzd] at hc hzb
                  have HZ : Hid (z = zs.getD i 0) := hzd
                  clear hcell hzd
                  by_cases hik : i < j
                  · rw [Nat.min_eq_left (by omega)] at hpg
                    have htk := take7_yes w.heap.size g l i (S zs i) z wr hpg hg (hKl i hik) (hKall i hik) (by omega) (by omega) hib.1 hzb.1 hzb.2
                    have dik : decide ((i : Int) < ((j : Nat) : Int)) = true := decide_eq_true (by omega)
                    clear hall hstop hKl hKall hpg
                    go_wp2_with fail
                    refine htk.mono ?_
                    rintro e w2 ⟨rfl, hq2, hb2⟩
                    clear htk
                    go_wp2_with fail
                    go_roundw
                    case rel =>
                      refine ⟨i + 1, by go_num, by omega, ?_, hbr.trans hb2⟩
                      rw [Nat.min_eq_left (by omega), S_succ, ← HZ.out, Int.natCast_add]
                      exact hq2
                    case measure => simp [intOf]; omega
                  · rw [Nat.min_eq_right (by omega)] at hpg
                    have htk := take7_no w.heap.size g l (j : Nat) (S zs j) z wr hpg hg (hstop.out (by omega))
                    have dik : decide ((i : Int) < ((j : Nat) : Int)) = false := decide_eq_false (by omega)
                    clear hall hstop hKl hKall hpg
                    go_wp2_with fail
                    refine htk.mono ?_
                    rintro e w2 ⟨rfl, hq2, hb2⟩
                    clear htk
                    go_wp2_with fail
                    go_roundw
                    case rel =>
                      refine ⟨i + 1, by go_num, by omega, ?_, hbr.trans hb2⟩
                      rw [Nat.min_eq_right (by omega)]
                      exact hq2
                    case measure => simp [intOf]; omega
                · have e : i = zs.length := by omega
                  rw [Nat.min_eq_right (by omega)] at hpg
                  have din : decide ((i : Int) < (zs.length : Int)) = false := decide_eq_false (by omega)
                  have dKK : ((((j : Nat) : Int)) == (((j : Nat) : Int))) = true := by simp
                  have dSS : (S zs j == S zs j) = true := by simp
                  clear hall hstop hKl hKall e
                  go_wp2_with fail
                  refine (items8 g _ _ _ wr hpg).mono ?_
                  rintro e w' ⟨rfl, rfl⟩
                  go_wp2_with fail
                  refine (size9 g _ _ _ wr hpg).mono ?_
                  rintro e w' ⟨rfl, rfl⟩
                  go_wp2_with fail
                  go_ret
                  exact ⟨rfl, hbr⟩
          · have dl : decide ((0 : Int) ≤ l) = true := decide_eq_true (by omega)
            by_cases c1 : l < (zs.length : Int)
            · obtain ⟨K0, hK0⟩ : ∃ K0 : Nat, l = (K0 : Int) := ⟨l.toNat, by omega⟩
              subst hK0
              have dl2 : decide ((K0 : Int) < (zs.length : Int)) = true := decide_eq_true c1
              by_cases c2 : j < K0
              · have dm : decide ((j : Int) < (K0 : Int)) = true := decide_eq_true (by omega)
                have hKall : ∀ i, i < j → S zs i < 1048576 := hall
                have hKl : ∀ i : Nat, i < j → (i : Int) ≠ (K0 : Int) := fun i hi => by omega
                have hstop : Hid (j < zs.length → ((j : Nat) : Int) = (K0 : Int) ∨ 1048576 ≤ S zs j) := fun h => .inr hac
                go_wp2_with fail
                go_loop [11, 12] (fun vs vj => ∃ q : Nat, vj = .int .i64 q ∧ vs = .int .i64 (S zs q) ∧ q ≤ j) (fun _ vj => j - (intOf vj).toNat)
                case atStart => exact ⟨0, rfl, rfl, by omega⟩
                case round =>
                  obtain ⟨q, rfl, rfl, hq⟩ := hrel
                  have hqb := S_bound hfit q (by omega)
                  by_cases hqk : q < j
                  · rcases hz.ways with h0 | ⟨b, off, rfl, hb, hcell⟩
                    · exfalso; omega
                    have hc := hcell q (by omega)
                    have hzb := hfit q (by omega)
                    obtain ⟨z, hzd⟩ : ∃ z, z = zs.getD q 0 := ⟨_, rfl⟩
                    rw [← hzd] at hc hzb
                    have HZ : Hid (z = zs.getD q 0) := hzd
                    clear hcell hzd hall hstop hKl hKall
                    go_wp2_with fail
                    go_round
                    case rel => exact ⟨q + 1, by go_num, by rw [S_succ, ← HZ.out], by omega⟩
                    case measure => simp [intOf]; omega
                  have e : j = q := by omega
                  subst e
                  clear hqk hq
                  have dqq : decide (((j : Nat) : Int) < ((j : Nat) : Int)) = false := decide_eq_false (by omega)
                  go_wp2_with fail
                  refine (new6 _ w).mono ?_
                  rintro e w1 ⟨g, rfl, hg, hp, hbel⟩
                  go_wp2_with fail
                  go_loopw [14] (fun vi wr => ∃ i : Nat, vi = .int .i64 i ∧ i ≤ zs.length ∧ Pg wr g (K0 : Int) ((min i j : Nat) : Int) (S zs (min i j)) ∧ Below w.heap.size w wr) (fun vi _ => zs.length - (intOf vi).toNat)
                  case atStart => exact ⟨0, rfl, by omega, by rw [Nat.zero_min]; exact hp, hbel⟩
                  case round =>
                    obtain ⟨i, rfl, hi, hpg, hbr⟩ := hrel
                    by_cases hin : i < zs.length
                    · rcases (hz.below hbr).ways with h0 | ⟨b, off, rfl, hb, hcell⟩
                      · exfalso; omega
                      have hc := hcell i hin
                      have hzb := hfit i hin
                      have hib := S_bound hfit i (by omega)
                      obtain ⟨z, hzd⟩ : ∃ z, z = zs.getD i 0 := ⟨_, rfl⟩
                      rw [← hzd] at hc hzb
                      have HZ : Hid (z = zs.getD i 0) := hzd
                      clear hcell hzd
                      by_cases hik : i < j
                      · rw [Nat.min_eq_left (by omega)] at hpg
                        have htk := take7_yes w.heap.size g (K0 : Int) i (S zs i) z wr hpg hg (hKl i hik) (hKall i hik) (by omega) (by omega) hib.1 hzb.1 hzb.2
                        have dik : decide ((i : Int) < ((j : Nat) : Int)) = true := decide_eq_true (by omega)
                        clear hall hstop hKl hKall hpg
                        go_wp2_with fail
                        refine htk.mono ?_
                        rintro e w2 ⟨rfl, hq2, hb2⟩
                        clear htk
                        go_wp2_with fail
                        go_roundw
                        case rel =>
                          refine ⟨i + 1, by go_num, by omega, ?_, hbr.trans hb2⟩
                          rw [Nat.min_eq_left (by omega), S_succ, ← HZ.out, Int.natCast_add]
                          exact hq2
                        case measure => simp [intOf]; omega
                      · rw [Nat.min_eq_right (by omega)] at hpg
                        have htk := take7_no w.heap.size g (K0 : Int) (j : Nat) (S zs j) z wr hpg hg (hstop.out (by omega))
                        have dik : decide ((i : Int) < ((j : Nat) : Int)) = false := decide_eq_false (by omega)
                        clear hall hstop hKl hKall hpg
                        go_wp2_with fail
                        refine htk.mono ?_
                        rintro e w2 ⟨rfl, hq2, hb2⟩
                        clear htk
                        go_wp2_with fail
                        go_roundw
                        case rel =>
                          refine ⟨i + 1, by go_num, by omega, ?_, hbr.trans hb2⟩
                          rw [Nat.min_eq_right (by omega)]
                          exact hq2
                        case measure => simp [intOf]; omega
                    · have e : i = zs.length := by omega
                      rw [Nat.min_eq_right (by omega)] at hpg
                      have din : decide ((i : Int) < (zs.length : Int)) = false := decide_eq_false (by omega)
                      have dKK : ((((j : Nat) : Int)) == (((j : Nat) : Int))) = true := by simp
                      have dSS : (S zs j == S zs j) = true := by simp
                      clear hall hstop hKl hKall e
                      go_wp2_with fail
                      refine (items8 g _ _ _ wr hpg).mono ?_
                      rintro e w' ⟨rfl, rfl⟩
                      go_wp2_with fail
                      refine (size9 g _ _ _ wr hpg).mono ?_
                      rintro e w' ⟨rfl, rfl⟩
                      go_wp2_with fail
                      go_ret
                      exact ⟨rfl, hbr⟩
              · have dm : decide ((j : Int) < (K0 : Int)) = false := decide_eq_false (by omega)
                have hKall : ∀ i, i < K0 → S zs i < 1048576 := fun i hi => hall i (by omega)
                have hKl : ∀ i : Nat, i < K0 → (i : Int) ≠ (K0 : Int) := fun i hi => by omega
                have hstop : Hid (K0 < zs.length → ((K0 : Nat) : Int) = (K0 : Int) ∨ 1048576 ≤ S zs K0) := fun h => .inl rfl
                go_wp2_with fail
                go_loop [11, 12] (fun vs vj => ∃ q : Nat, vj = .int .i64 q ∧ vs = .int .i64 (S zs q) ∧ q ≤ K0) (fun _ vj => K0 - (intOf vj).toNat)
                case atStart => exact ⟨0, rfl, rfl, by omega⟩
                case round =>
                  obtain ⟨q, rfl, rfl, hq⟩ := hrel
                  have hqb := S_bound hfit q (by omega)
                  by_cases hqk : q < K0
                  · rcases hz.ways with h0 | ⟨b, off, rfl, hb, hcell⟩
                    · exfalso; omega
                    have hc := hcell q (by omega)
                    have hzb := hfit q (by omega)
                    obtain ⟨z, hzd⟩ : ∃ z, z = zs.getD q 0 := ⟨_, rfl⟩
                    rw [← hzd] at hc hzb
                    have HZ : Hid (z = zs.getD q 0) := hzd
                    clear hcell hzd hall hstop hKl hKall
                    go_wp2_with fail
                    go_round
                    case rel => exact ⟨q + 1, by go_num, by rw [S_succ, ← HZ.out], by omega⟩
                    case measure => simp [intOf]; omega
                  have e : K0 = q := by omega
                  subst e
                  clear hqk hq
                  have dqq : decide (((K0 : Nat) : Int) < ((K0 : Nat) : Int)) = false := decide_eq_false (by omega)
                  go_wp2_with fail
                  refine (new6 _ w).mono ?_
                  rintro e w1 ⟨g, rfl, hg, hp, hbel⟩
                  go_wp2_with fail
                  go_loopw [14] (fun vi wr => ∃ i : Nat, vi = .int .i64 i ∧ i ≤ zs.length ∧ Pg wr g (K0 : Int) ((min i K0 : Nat) : Int) (S zs (min i K0)) ∧ Below w.heap.size w wr) (fun vi _ => zs.length - (intOf vi).toNat)
                  case atStart => exact ⟨0, rfl, by omega, by rw [Nat.zero_min]; exact hp, hbel⟩
                  case round =>
                    obtain ⟨i, rfl, hi, hpg, hbr⟩ := hrel
                    by_cases hin : i < zs.length
                    · rcases (hz.below hbr).ways with h0 | ⟨b, off, rfl, hb, hcell⟩
                      · exfalso; omega
                      have hc := hcell i hin
                      have hzb := hfit i hin
                      have hib := S_bound hfit i (by omega)
                      obtain ⟨z, hzd⟩ : ∃ z, z = zs.getD i 0 := ⟨_, rfl⟩
                      rw [← hzd] at hc hzb
                      have HZ : Hid (z = zs.getD i 0) := hzd
                      clear hcell hzd
                      by_cases hik : i < K0
                      · rw [Nat.min_eq_left (by omega)] at hpg
                        have htk := take7_yes w.heap.size g (K0 : Int) i (S zs i) z wr hpg hg (hKl i hik) (hKall i hik) (by omega) (by omega) hib.1 hzb.1 hzb.2
                        have dik : decide ((i : Int) < ((K0 : Nat) : Int)) = true := decide_eq_true (by omega)
                        clear hall hstop hKl hKall hpg
                        go_wp2_with fail
                        refine htk.mono ?_
                        rintro e w2 ⟨rfl, hq2, hb2⟩
                        clear htk
                        go_wp2_with fail
                        go_roundw
                        case rel =>
                          refine ⟨i + 1, by go_num, by omega, ?_, hbr.trans hb2⟩
                          rw [Nat.min_eq_left (by omega), S_succ, ← HZ.out, Int.natCast_add]
                          exact hq2
                        case measure => simp [intOf]; omega
                      · rw [Nat.min_eq_right (by omega)] at hpg
                        have htk := take7_no w.heap.size g (K0 : Int) (K0 : Nat) (S zs K0) z wr hpg hg (.inl rfl)
                        have dik : decide ((i : Int) < ((K0 : Nat) : Int)) = false := decide_eq_false (by omega)
                        clear hall hstop hKl hKall hpg
                        go_wp2_with fail
                        refine htk.mono ?_
                        rintro e w2 ⟨rfl, hq2, hb2⟩
                        clear htk
                        go_wp2_with fail
                        go_roundw
                        case rel =>
                          refine ⟨i + 1, by go_num, by omega, ?_, hbr.trans hb2⟩
                          rw [Nat.min_eq_right (by omega)]
                          exact hq2
                        case measure => simp [intOf]; omega
                    · have e : i = zs.length := by omega
                      rw [Nat.min_eq_right (by omega)] at hpg
                      have din : decide ((i : Int) < (zs.length : Int)) = false := decide_eq_false (by omega)
                      have dKK : ((((K0 : Nat) : Int)) == (((K0 : Nat) : Int))) = true := by simp
                      have dSS : (S zs K0 == S zs K0) = true := by simp
                      clear hall hstop hKl hKall e
                      go_wp2_with fail
                      refine (items8 g _ _ _ wr hpg).mono ?_
                      rintro e w' ⟨rfl, rfl⟩
                      go_wp2_with fail
                      refine (size9 g _ _ _ wr hpg).mono ?_
                      rintro e w' ⟨rfl, rfl⟩
                      go_wp2_with fail
                      go_ret
                      exact ⟨rfl, hbr⟩
            · have dl2 : decide (l < (zs.length : Int)) = false := decide_eq_false c1
              have dm : decide ((j : Int) < (zs.length : Int)) = true := decide_eq_true (by omega)
              have hKall : ∀ i, i < j → S zs i < 1048576 := hall
              have hKl : ∀ i : Nat, i < j → (i : Int) ≠ l := fun i hi => by omega
              have hstop : Hid (j < zs.length → ((j : Nat) : Int) = l ∨ 1048576 ≤ S zs j) := fun h => .inr hac
              go_wp2_with fail
              go_loop [11, 12] (fun vs vj => ∃ q : Nat, vj = .int .i64 q ∧ vs = .int .i64 (S zs q) ∧ q ≤ j) (fun _ vj => j - (intOf vj).toNat)
              case atStart => exact ⟨0, rfl, rfl, by omega⟩
              case round =>
                obtain ⟨q, rfl, rfl, hq⟩ := hrel
                have hqb := S_bound hfit q (by omega)
                by_cases hqk : q < j
                · rcases hz.ways with h0 | ⟨b, off, rfl, hb, hcell⟩
                  · exfalso; omega
                  have hc := hcell q (by omega)
                  have hzb := hfit q (by omega)
                  obtain ⟨z, hzd⟩ : ∃ z, z = zs.getD q 0 := ⟨_, rfl⟩
                  rw [← hzd] at hc hzb
                  have HZ : Hid (z = zs.getD q 0) := hzd
                  clear hcell hzd hall hstop hKl hKall
                  go_wp2_with fail
                  go_round
                  case rel => exact ⟨q + 1, by go_num, by rw [S_succ, ← HZ.out], by omega⟩
                  case measure => simp [intOf]; omega
                have e : j = q := by omega
                subst e
                clear hqk hq
                have dqq : decide (((j : Nat) : Int) < ((j : Nat) : Int)) = false := decide_eq_false (by omega)
                go_wp2_with fail
                refine (new6 _ w).mono ?_
                rintro e w1 ⟨g, rfl, hg, hp, hbel⟩
                go_wp2_with fail
                go_loopw [14] (fun vi wr => ∃ i : Nat, vi = .int .i64 i ∧ i ≤ zs.length ∧ Pg wr g l ((min i j : Nat) : Int) (S zs (min i j)) ∧ Below w.heap.size w wr) (fun vi _ => zs.length - (intOf vi).toNat)
                case atStart => exact ⟨0, rfl, by omega, by rw [Nat.zero_min]; exact hp, hbel⟩
                case round =>
                  obtain ⟨i, rfl, hi, hpg, hbr⟩ := hrel
                  by_cases hin : i < zs.length
                  · rcases (hz.below hbr).ways with h0 | ⟨b, off, rfl, hb, hcell⟩
                    · exfalso; omega
                    have hc := hcell i hin
                    have hzb := hfit i hin
                    have hib := S_bound hfit i (by omega)
                    obtain ⟨z, hzd⟩ : ∃ z, z = zs.getD i 0 := ⟨_, rfl⟩
                    rw [← hzd] at hc hzb
                    have HZ : Hid (z = zs.getD i 0) := hzd
                    clear hcell hzd
                    by_cases hik : i < j
                    · rw [Nat.min_eq_left (by omega)] at hpg
                      have htk := take7_yes w.heap.size g l i (S zs i) z wr hpg hg (hKl i hik) (hKall i hik) (by omega) (by omega) hib.1 hzb.1 hzb.2
                      have dik : decide ((i : Int) < ((j : Nat) : Int)) = true := decide_eq_true (by omega)
                      clear hall hstop hKl hKall hpg
                      go_wp2_with fail
                      refine htk.mono ?_
                      rintro e w2 ⟨rfl, hq2, hb2⟩
                      clear htk
                      go_wp2_with fail
                      go_roundw
                      case rel =>
                        refine ⟨i + 1, by go_num, by omega, ?_, hbr.trans hb2⟩
                        rw [Nat.min_eq_left (by omega), S_succ, ← HZ.out, Int.natCast_add]
                        exact hq2
                      case measure => simp [intOf]; omega
                    · rw [Nat.min_eq_right (by omega)] at hpg
                      have htk := take7_no w.heap.size g l (j : Nat) (S zs j) z wr hpg hg (hstop.out (by omega))
                      have dik : decide ((i : Int) < ((j : Nat) : Int)) = false := decide_eq_false (by omega)
                      clear hall hstop hKl hKall hpg
                      go_wp2_with fail
                      refine htk.mono ?_
                      rintro e w2 ⟨rfl, hq2, hb2⟩
                      clear htk
                      go_wp2_with fail
                      go_roundw
                      case rel =>
                        refine ⟨i + 1, by go_num, by omega, ?_, hbr.trans hb2⟩
                        rw [Nat.min_eq_right (by omega)]
                        exact hq2
                      case measure => simp [intOf]; omega
                  · have e : i = zs.length := by omega
                    rw [Nat.min_eq_right (by omega)] at hpg
                    have din : decide ((i : Int) < (zs.length : Int)) = false := decide_eq_false (by omega)
                    have dKK : ((((j : Nat) : Int)) == (((j : Nat) : Int))) = true := by simp
                    have dSS : (S zs j == S zs j) = true := by simp
                    clear hall hstop hKl hKall e
                    go_wp2_with fail
                    refine (items8 g _ _ _ wr hpg).mono ?_
                    rintro e w' ⟨rfl, rfl⟩
                    go_wp2_with fail
                    refine (size9 g _ _ _ wr hpg).mono ?_
                    rintro e w' ⟨rfl, rfl⟩
                    go_wp2_with fail
                    go_ret
                    exact ⟨rfl, hbr⟩
        · have da : decide ((1048576 : Int) ≤ S zs j) = false := decide_eq_false hac
          rcases hz.ways with h0 | ⟨b, off, rfl, hb, hcell⟩
          · exfalso; omega
          have hc := hcell j hjn
          have hzb := hfit j hjn
          obtain ⟨z, hzd⟩ : ∃ z, z = zs.getD j 0 := ⟨_, rfl⟩
          rw [← hzd] at hc hzb
          have HZ : Hid (z = zs.getD j 0) := hzd
          clear hcell hzd
          go_wp2_with fail
          go_round
          case rel =>
            refine ⟨j + 1, rfl, by go_num, by rw [S_succ, ← HZ.out], by omega, fun i hi => ?_⟩
            by_cases e : i = j
            · subst e; omega
            · exact hall i (by omega)
          case measure => simp [intOf]; omega
      · -- no index stops: m = n
        have e : zs.length = j := by omega
        subst e
        clear hjn
        by_cases c0 : l < 0
        · have dl : decide ((0 : Int) ≤ l) = false := decide_eq_false (by omega)
          have dm : decide ((zs.length : Int) < (zs.length : Int)) = false := decide_eq_false (by omega)
          have hKall : ∀ i, i < zs.length → S zs i < 1048576 := hall
          have hKl : ∀ i : Nat, i < zs.length → (i : Int) ≠ l := fun i hi => by omega
          have hstop : Hid (zs.length < zs.length → ((zs.length : Nat) : Int) = l ∨ 1048576 ≤ S zs zs.length ) := fun h => by omega
          go_wp2_with fail
          go_loop [11, 12] (fun vs vj => ∃ q : Nat, vj = .int .i64 q ∧ vs = .int .i64 (S zs q) ∧ q ≤ zs.length) (fun _ vj => zs.length - (intOf vj).toNat)
          case atStart => exact ⟨0, rfl, rfl, by omega⟩
          case round =>
            obtain ⟨q, rfl, rfl, hq⟩ := hrel
            have hqb := S_bound hfit q (by omega)
            by_cases hqk : q < zs.length
            · rcases hz.ways with h0 | ⟨b, off, rfl, hb, hcell⟩
              · exfalso; omega
              have hc := hcell q (by omega)
              have hzb := hfit q (by omega)
              obtain ⟨z, hzd⟩ : ∃ z, z = zs.getD q 0 := ⟨_, rfl⟩
              rw [← hzd] at hc hzb
              have HZ : Hid (z = zs.getD q 0) := hzd
              clear hcell hzd hall hstop hKl hKall
              go_wp2_with fail
              go_round
              case rel => exact ⟨q + 1, by go_num, by rw [S_succ, ← HZ.out], by omega⟩
              case measure => simp [intOf]; omega
            have e : zs.length = q := by omega
            subst e
            clear hqk hq
            have dqq : decide (((zs.length : Nat) : Int) < ((zs.length : Nat) : Int)) = false := decide_eq_false (by omega)
            go_wp2_with fail
            refine (new6 _ w).mono ?_
            rintro e w1 ⟨g, rfl, hg, hp, hbel⟩
            go_wp2_with fail
            go_loopw [14] (fun vi wr => ∃ i : Nat, vi = .int .i64 i ∧ i ≤ zs.length ∧ Pg wr g l ((min i zs.length : Nat) : Int) (S zs (min i zs.length)) ∧ Below w.heap.size w wr) (fun vi _ => zs.length - (intOf vi).toNat)
            case atStart => exact ⟨0, rfl, by omega, by rw [Nat.zero_min]; exact hp, hbel⟩
            case round =>
              obtain ⟨i, rfl, hi, hpg, hbr⟩ := hrel
              by_cases hin : i < zs.length
              · rcases (hz.below hbr).ways with h0 | ⟨b, off, rfl, hb, hcell⟩
                · exfalso; omega
                have hc := hcell i hin
                have hzb := hfit i hin
                have hib := S_bound hfit i (by omega)
                obtain ⟨z, hzd⟩ : ∃ z, z = zs.getD i 0 := ⟨_, rfl⟩
                rw [← hzd] at hc hzb
                have HZ : Hid (z = zs.getD i 0) := hzd
                clear hcell hzd
                by_cases hik : i < zs.length
                · rw [Nat.min_eq_left (by omega)] at hpg
                  have htk := take7_yes w.heap.size g l i (S zs i) z wr hpg hg (hKl i hik) (hKall i hik) (by omega) (by omega) hib.1 hzb.1 hzb.2
                  have dik : decide ((i : Int) < ((zs.length : Nat) : Int)) = true := decide_eq_true (by omega)
                  clear hall hstop hKl hKall hpg
                  go_wp2_with fail
                  refine htk.mono ?_
                  rintro e w2 ⟨rfl, hq2, hb2⟩
                  clear htk
                  go_wp2_with fail
                  go_roundw
                  case rel =>
                    refine ⟨i + 1, by go_num, by omega, ?_, hbr.trans hb2⟩
                    rw [Nat.min_eq_left (by omega), S_succ, ← HZ.out, Int.natCast_add]
                    exact hq2
                  case measure => simp [intOf]; omega
                · exfalso; omega
              · have e : i = zs.length := by omega
                rw [Nat.min_eq_right (by omega)] at hpg
                have din : decide ((i : Int) < (zs.length : Int)) = false := decide_eq_false (by omega)
                have dKK : ((((zs.length : Nat) : Int)) == (((zs.length : Nat) : Int))) = true := by simp
                have dSS : (S zs zs.length == S zs zs.length) = true := by simp
                clear hall hstop hKl hKall e
                go_wp2_with fail
                refine (items8 g _ _ _ wr hpg).mono ?_
                rintro e w' ⟨rfl, rfl⟩
                go_wp2_with fail
                refine (size9 g _ _ _ wr hpg).mono ?_
                rintro e w' ⟨rfl, rfl⟩
                go_wp2_with fail
                go_ret
                exact ⟨rfl, hbr⟩
        · have dl : decide ((0 : Int) ≤ l) = true := decide_eq_true (by omega)
          by_cases c1 : l < (zs.length : Int)
          · obtain ⟨K0, hK0⟩ : ∃ K0 : Nat, l = (K0 : Int) := ⟨l.toNat, by omega⟩
            subst hK0
            have dl2 : decide ((K0 : Int) < (zs.length : Int)) = true := decide_eq_true c1
            have dm : decide ((zs.length : Int) < (K0 : Int)) = false := decide_eq_false (by omega)
            have hKall : ∀ i, i < K0 → S zs i < 1048576 := fun i hi => hall i (by omega)
            have hKl : ∀ i : Nat, i < K0 → (i : Int) ≠ (K0 : Int) := fun i hi => by omega
            have hstop : Hid (K0 < zs.length → ((K0 : Nat) : Int) = (K0 : Int) ∨ 1048576 ≤ S zs K0) := fun h => .inl rfl
            go_wp2_with fail
            go_loop [11, 12] (fun vs vj => ∃ q : Nat, vj = .int .i64 q ∧ vs = .int .i64 (S zs q) ∧ q ≤ K0) (fun _ vj => K0 - (intOf vj).toNat)
            case atStart => exact ⟨0, rfl, rfl, by omega⟩
            case round =>
              obtain ⟨q, rfl, rfl, hq⟩ := hrel
              have hqb := S_bound hfit q (by omega)
              by_cases hqk : q < K0
              · rcases hz.ways with h0 | ⟨b, off, rfl, hb, hcell⟩
                · exfalso; omega
                have hc := hcell q (by omega)
                have hzb := hfit q (by omega)
                obtain ⟨z, hzd⟩ : ∃ z, z = zs.getD q 0 := ⟨_, rfl⟩
                rw [← hzd] at hc hzb
                have HZ : Hid (z = zs.getD q 0) := hzd
                clear hcell hzd hall hstop hKl hKall
                go_wp2_with fail
                go_round
                case rel => exact ⟨q + 1, by go_num, by rw [S_succ, ← HZ.out], by omega⟩
                case measure => simp [intOf]; omega
              have e : K0 = q := by omega
              subst e
              clear hqk hq
              have dqq : decide (((K0 : Nat) : Int) < ((K0 : Nat) : Int)) = false := decide_eq_false (by omega)
              go_wp2_with fail
              refine (new6 _ w).mono ?_
              rintro e w1 ⟨g, rfl, hg, hp, hbel⟩
              go_wp2_with fail
              go_loopw [14] (fun vi wr => ∃ i : Nat, vi = .int .i64 i ∧ i ≤ zs.length ∧ Pg wr g (K0 : Int) ((min i K0 : Nat) : Int) (S zs (min i K0)) ∧ Below w.heap.size w wr) (fun vi _ => zs.length - (intOf vi).toNat)
              case atStart => exact ⟨0, rfl, by omega, by rw [Nat.zero_min]; exact hp, hbel⟩
              case round =>
                obtain ⟨i, rfl, hi, hpg, hbr⟩ := hrel
                by_cases hin : i < zs.length
                · rcases (hz.below hbr).ways with h0 | ⟨b, off, rfl, hb, hcell⟩
                  · exfalso; omega
                  have hc := hcell i hin
                  have hzb := hfit i hin
                  have hib := S_bound hfit i (by omega)
                  obtain ⟨z, hzd⟩ : ∃ z, z = zs.getD i 0 := ⟨_, rfl⟩
                  rw [← hzd] at hc hzb
                  have HZ : Hid (z = zs.getD i 0) := hzd
                  clear hcell hzd
                  by_cases hik : i < K0
                  · rw [Nat.min_eq_left (by omega)] at hpg
                    have htk := take7_yes w.heap.size g (K0 : Int) i (S zs i) z wr hpg hg (hKl i hik) (hKall i hik) (by omega) (by omega) hib.1 hzb.1 hzb.2
                    have dik : decide ((i : Int) < ((K0 : Nat) : Int)) = true := decide_eq_true (by omega)
                    clear hall hstop hKl hKall hpg
                    go_wp2_with fail
                    refine htk.mono ?_
                    rintro e w2 ⟨rfl, hq2, hb2⟩
                    clear htk
                    go_wp2_with fail
                    go_roundw
                    case rel =>
                      refine ⟨i + 1, by go_num, by omega, ?_, hbr.trans hb2⟩
                      rw [Nat.min_eq_left (by omega), S_succ, ← HZ.out, Int.natCast_add]
                      exact hq2
                    case measure => simp [intOf]; omega
                  · rw [Nat.min_eq_right (by omega)] at hpg
                    have htk := take7_no w.heap.size g (K0 : Int) (K0 : Nat) (S zs K0) z wr hpg hg (.inl rfl)
                    have dik : decide ((i : Int) < ((K0 : Nat) : Int)) = false := decide_eq_false (by omega)
                    clear hall hstop hKl hKall hpg
                    go_wp2_with fail
                    refine htk.mono ?_
                    rintro e w2 ⟨rfl, hq2, hb2⟩
                    clear htk
                    go_wp2_with fail
                    go_roundw
                    case rel =>
                      refine ⟨i + 1, by go_num, by omega, ?_, hbr.trans hb2⟩
                      rw [Nat.min_eq_right (by omega)]
                      exact hq2
                    case measure => simp [intOf]; omega
                · have e : i = zs.length := by omega
                  rw [Nat.min_eq_right (by omega)] at hpg
                  have din : decide ((i : Int) < (zs.length : Int)) = false := decide_eq_false (by omega)
                  have dKK : ((((K0 : Nat) : Int)) == (((K0 : Nat) : Int))) = true := by simp
                  have dSS : (S zs K0 == S zs K0) = true := by simp
                  clear hall hstop hKl hKall e
                  go_wp2_with fail
                  refine (items8 g _ _ _ wr hpg).mono ?_
                  rintro e w' ⟨rfl, rfl⟩
                  go_wp2_with fail
                  refine (size9 g _ _ _ wr hpg).mono ?_
                  rintro e w' ⟨rfl, rfl⟩
                  go_wp2_with fail
                  go_ret
                  exact ⟨rfl, hbr⟩
          · have dl2 : decide (l < (zs.length : Int)) = false := decide_eq_false c1
            have dm : decide ((zs.length : Int) < (zs.length : Int)) = false := decide_eq_false (by omega)
            have hKall : ∀ i, i < zs.length → S zs i < 1048576 := hall
            have hKl : ∀ i : Nat, i < zs.length → (i : Int) ≠ l := fun i hi => by omega
            have hstop : Hid (zs.length < zs.length → ((zs.length : Nat) : Int) = l ∨ 1048576 ≤ S zs zs.length ) := fun h => by omega
            go_wp2_with fail
            go_loop [11, 12] (fun vs vj => ∃ q : Nat, vj = .int .i64 q ∧ vs = .int .i64 (S zs q) ∧ q ≤ zs.length) (fun _ vj => zs.length - (intOf vj).toNat)
            case atStart => exact ⟨0, rfl, rfl, by omega⟩
            case round =>
              obtain ⟨q, rfl, rfl, hq⟩ := hrel
              have hqb := S_bound hfit q (by omega)
              by_cases hqk : q < zs.length
              · rcases hz.ways with h0 | ⟨b, off, rfl, hb, hcell⟩
                · exfalso; omega
                have hc := hcell q (by omega)
                have hzb := hfit q (by omega)
                obtain ⟨z, hzd⟩ : ∃ z, z = zs.getD q 0 := ⟨_, rfl⟩
                rw [← hzd] at hc hzb
                have HZ : Hid (z = zs.getD q 0) := hzd
                clear hcell hzd hall hstop hKl hKall
                go_wp2_with fail
                go_round
                case rel => exact ⟨q + 1, by go_num, by rw [S_succ, ← HZ.out], by omega⟩
                case measure => simp [intOf]; omega
              have e : zs.length = q := by omega
              subst e
              clear hqk hq
              have dqq : decide (((zs.length : Nat) : Int) < ((zs.length : Nat) : Int)) = false := decide_eq_false (by omega)
              go_wp2_with fail
              refine (new6 _ w).mono ?_
              rintro e w1 ⟨g, rfl, hg, hp, hbel⟩
              go_wp2_with fail
              go_loopw [14] (fun vi wr => ∃ i : Nat, vi = .int .i64 i ∧ i ≤ zs.length ∧ Pg wr g l ((min i zs.length : Nat) : Int) (S zs (min i zs.length)) ∧ Below w.heap.size w wr) (fun vi _ => zs.length - (intOf vi).toNat)
              case atStart => exact ⟨0, rfl, by omega, by rw [Nat.zero_min]; exact hp, hbel⟩
              case round =>
                obtain ⟨i, rfl, hi, hpg, hbr⟩ := hrel
                by_cases hin : i < zs.length
                · rcases (hz.below hbr).ways with h0 | ⟨b, off, rfl, hb, hcell⟩
                  · exfalso; omega
                  have hc := hcell i hin
                  have hzb := hfit i hin
                  have hib := S_bound hfit i (by omega)
                  obtain ⟨z, hzd⟩ : ∃ z, z = zs.getD i 0 := ⟨_, rfl⟩
                  rw [← hzd] at hc hzb
                  have HZ : Hid (z = zs.getD i 0) := hzd
                  clear hcell hzd
                  by_cases hik : i < zs.length
                  · rw [Nat.min_eq_left (by omega)] at hpg
                    have htk := take7_yes w.heap.size g l i (S zs i) z wr hpg hg (hKl i hik) (hKall i hik) (by omega) (by omega) hib.1 hzb.1 hzb.2
                    have dik : decide ((i : Int) < ((zs.length : Nat) : Int)) = true := decide_eq_true (by omega)
                    clear hall hstop hKl hKall hpg
                    go_wp2_with fail
                    refine htk.mono ?_
                    rintro e w2 ⟨rfl, hq2, hb2⟩
                    clear htk
                    go_wp2_with fail
                    go_roundw
                    case rel =>
                      refine ⟨i + 1, by go_num, by omega, ?_, hbr.trans hb2⟩
                      rw [Nat.min_eq_left (by omega), S_succ, ← HZ.out, Int.natCast_add]
                      exact hq2
                    case measure => simp [intOf]; omega
                  · exfalso; omega
                · have e : i = zs.length := by omega
                  rw [Nat.min_eq_right (by omega)] at hpg
                  have din : decide ((i : Int) < (zs.length : Int)) = false := decide_eq_false (by omega)
                  have dKK : ((((zs.length : Nat) : Int)) == (((zs.length : Nat) : Int))) = true := by simp
                  have dSS : (S zs zs.length == S zs zs.length) = true := by simp
                  clear hall hstop hKl hKall e
                  go_wp2_with fail
                  refine (items8 g _ _ _ wr hpg).mono ?_
                  rintro e w' ⟨rfl, rfl⟩
                  go_wp2_with fail
                  refine (size9 g _ _ _ wr hpg).mono ?_
                  rintro e w' ⟨rfl, rfl⟩
                  go_wp2_with fail
                  go_ret
                  exact ⟨rfl, hbr⟩
end Go.Proofs.Qxb6625450a

