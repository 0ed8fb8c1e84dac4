/- Seat b6625450a: the law FnPageFillPagesCoverListInOrder walked. -/
import Derived.Test.Qxb6625450aPage
namespace Go.Proofs.Qxb6625450a
open Go.RowKit
set_option linter.unusedVariables false
set_option linter.unusedSimpArgs false

set_option maxHeartbeats 64000000 in
set_option maxRecDepth 100000 in
theorem law4 (zs : List Int) (a : Option Addr) (c : Nat) (l : Int) (w : World) (hz : Zs w a zs) (hn : zs.length ≤ 9223372036854775807) :
    Calls Try.prog 4 #[.int .i64 l, .slice a zs.length c] w fun e w' => e = .returned (.bool true) ∧ Below w.heap.size w w' := by
  have hg := guard10 a zs.length c l w hn
  go_enter Try.func4, Try.ntmps4
  go_wp2_with fail
  refine hg.mono ?_
  rintro e w' ⟨⟨b, rfl, hsum⟩, rfl⟩
  clear hg
  cases b
  · go_wp2_with fail
    go_ret
    exact ⟨rfl, Below.refl _ _⟩
  clear hsum
  by_cases t1 : zs.length ≤ 65536
  case neg =>
    go_wp2_with fail
    go_ret
    exact ⟨rfl, Below.refl _ _⟩
  have d1 : decide ((65536 : Int) < (zs.length : Int)) = false := decide_eq_false (by omega)
  go_wp2_with fail
  go_loop [5] (fun vk => ∃ k : Nat, vk = .int .i64 k ∧ k ≤ zs.length ∧ ∀ j, j < k → 0 ≤ zs.getD j 0 ∧ zs.getD j 0 ≤ 1073741824)
    (fun vk => zs.length - (intOf vk).toNat)
  case atStart => exact ⟨0, rfl, by omega, fun j hj => by omega⟩
  case round =>
    obtain ⟨k, rfl, hk, hfk⟩ := hrel
    by_cases hkl : k < zs.length
    · rcases hz.ways with h0 | ⟨b, off, rfl, hb, hcell⟩
      · exfalso; omega
      have hc := hcell k hkl
      obtain ⟨z, hzd⟩ : ∃ z, z = zs.getD k 0 := ⟨_, rfl⟩
      rw [← hzd] at hc
      have HZ : Hid (z = zs.getD k 0) := hzd
      clear hcell hzd
      by_cases z1 : z < 0
      · have dz : decide (z < 0) = true := decide_eq_true z1
        go_wp2_with fail
        go_ret
        exact ⟨rfl, Below.refl _ _⟩
      have dz : decide (z < 0) = false := decide_eq_false z1
      by_cases z2 : 1073741824 < z
      · have dz2 : decide (1073741824 < z) = true := decide_eq_true z2
        go_wp2_with fail
        go_ret
        exact ⟨rfl, Below.refl _ _⟩
      have dz2 : decide (1073741824 < z) = false := decide_eq_false z2
      go_wp2_with fail
      go_round
      case rel =>
        refine ⟨k + 1, by go_num, by omega, fun j hj => ?_⟩
        by_cases e : j = k
        · subst e; rw [← HZ.out]; omega
        · exact hfk j (by omega)
      case measure => simp [intOf]; omega
    have hfit : Fit zs := fun j hj => hfk j (by omega)
    have dk : decide ((k : Int) < (zs.length : Int)) = false := decide_eq_false (by omega)
    have e : zs.length = k := by omega
    subst e
    clear hfk hk hkl
    by_cases hl1 : l < 1
    · have dl : decide (l < 1) = true := decide_eq_true hl1
      go_wp2_with fail
      go_ret
      exact ⟨rfl, Below.refl _ _⟩
    have dl : decide (l < 1) = false := decide_eq_false hl1
    go_wp2_with fail
    go_loopw [7] (fun vs wr => ∃ st : Nat, vs = .int .i64 st ∧ st ≤ zs.length ∧ Below w.heap.size w wr)
      (fun vs _ => zs.length - (intOf vs).toNat)
    case atStart => exact ⟨0, rfl, by omega, Below.refl _ _⟩
    case round =>
      obtain ⟨st, rfl, hst, hbr⟩ := hrel
      by_cases hsn : st < zs.length
      case neg =>
        have ds : decide ((st : Int) < (zs.length : Int)) = false := decide_eq_false (by omega)
        go_wp2_with fail
        go_ret
        exact ⟨rfl, hbr⟩
      have ds : decide ((st : Int) < (zs.length : Int)) = true := decide_eq_true (by omega)
      have hsst := S_bound hfit st hst
      go_wp2_with fail
      refine (new6 l wr).mono ?_
      rintro e w1 ⟨g, rfl, hg, hp, hbel1⟩
      have hgw : w.heap.size ≤ g := Nat.le_trans hbr.size hg
      have hbw1 := hbr.trans (hbel1.mono hbr.size)
      clear hbel1
      go_wp2_with fail
      go_loopw [9] (fun vi w2 => ∃ i : Nat, vi = .int .i64 i ∧ st ≤ i ∧ i ≤ zs.length ∧ Pg w2 g l ((i : Int) - (st : Int)) (S zs i - S zs st) ∧ (∀ q : Nat, st ≤ q → q < i → S zs q - S zs st < 1048576 ∧ (q : Int) - (st : Int) < l) ∧ Below w.heap.size w w2)
        (fun vi _ => zs.length - (intOf vi).toNat)
      case atStart => exact ⟨st, rfl, Nat.le_refl _, hst, by rw [Int.sub_self, Int.sub_self]; exact hp, fun q h1 h2 => by omega, hbw1⟩
      case round =>
        obtain ⟨i, rfl, hsi, hin, hpg, hall, hb2⟩ := hrel
        have hib := S_bound hfit i hin
        have hmono := S_le hfit hsi hin
        have hlt : (i : Int) - (st : Int) ≤ l := by
          rcases Nat.eq_or_lt_of_le hsi with e | h
          · omega
          · have := (hall (i - 1) (by omega) (by omega)).2
            omega
        by_cases hil : i < zs.length
        · have di : decide ((i : Int) < (zs.length : Int)) = true := decide_eq_true (by omega)
          rcases (hz.below hb2).ways with h0 | ⟨b, off, rfl, hb, hcell⟩
          · exfalso; omega
          have hc := hcell i hil
          have hzb := hfit i hil
          obtain ⟨z, hzd⟩ : ∃ z, z = zs.getD i 0 := ⟨_, rfl⟩
          rw [← hzd] at hc hzb
          have HZ : Hid (z = zs.getD i 0) := hzd
          clear hzd
          by_cases hstop : (i : Int) - (st : Int) = l ∨ 1048576 ≤ S zs i - S zs st
          · -- the page refuses the item i
            have htk := take7_no w.heap.size g l ((i : Int) - (st : Int)) (S zs i - S zs st) z wr hpg hgw hstop
            have hsi1 : st < i := by
              rcases Nat.eq_or_lt_of_le hsi with e | h
              · subst e; exfalso; rw [Int.sub_self, Int.sub_self] at hstop; omega
              · exact h
            have HSTOP : Hid ((i : Int) - (st : Int) = l ∨ 1048576 ≤ S zs i - S zs st) := hstop
            clear hstop hpg hcell
            go_wp2_with fail
            refine htk.mono ?_
            rintro e w3 ⟨rfl, hpg, hb3⟩
            clear htk
            have hbW := hb2.trans hb3
            obtain ⟨m, hm⟩ : ∃ m, i = m + 1 := ⟨i - 1, by omega⟩
            subst hm
            have hc3 : ((m + 1 : Nat) : Int) = (m : Int) + 1 := by omega
            have hmb := S_bound hfit m (by omega)
            have hmm := S_le hfit (show st ≤ m by omega) (show m ≤ zs.length by omega)
            have hzm := hfit m (by omega)
            have hcW := hz.below hbW
            rcases hcW.ways with h0 | ⟨bb, off2, hx, hbb, hcell2⟩
            · exfalso; omega
            cases hx
            have hcm := hcell2 m (by omega)
            obtain ⟨y, hyd⟩ : ∃ y, y = zs.getD m 0 := ⟨_, rfl⟩
            rw [← hyd] at hcm hzm
            have hS : S zs (m + 1) - S zs st = S zs m - S zs st + y := by rw [S_succ, ← hyd]; omega
            rw [hS, hc3] at hpg
            have hst1 := HSTOP.out
            rw [hS, hc3] at hst1
            have hci := hcell2 (m + 1) (by omega)
            rw [← HZ.out] at hci
            have HST : Hid ((m : Int) + 1 - (st : Int) = l ∨ 1048576 ≤ S zs m - S zs st + y) := hst1
            clear hst1 HSTOP
            have dc1 : decide ((m : Int) + 1 - (st : Int) < 1) = false := decide_eq_false (by omega)
            have dc2 : decide (l < (m : Int) + 1 - (st : Int)) = false := decide_eq_false (by omega)
            have HY : Hid (y = zs.getD m 0) := hyd
            have HALL : Hid (∀ q : Nat, st ≤ q → q < m + 1 → S zs q - S zs st < 1048576 ∧ (q : Int) - (st : Int) < l) := hall
            clear hyd hS hc3 hall
            rw [Int.natCast_add] at *
            go_wp2_with fail
            go_loop [11, 12] (fun vb vj => ∃ j : Nat, vj = .int .i64 j ∧ vb = .int .i64 (S zs j - S zs st) ∧ st ≤ j ∧ j ≤ m)
              (fun _ vj => m - (intOf vj).toNat)
            case atStart => exact ⟨st, rfl, by rw [Int.sub_self], Nat.le_refl _, by omega⟩
            case round =>
              obtain ⟨j, rfl, rfl, hsj, hjm⟩ := hrel
              have hjb := S_bound hfit j (by omega)
              have hjm2 := S_le hfit hsj (show j ≤ zs.length by omega)
              by_cases hj : j < m
              · have dj : decide ((j : Int) < (m : Int)) = true := decide_eq_true (by omega)
                have hcj := hcell2 j (by omega)
                have hzj := hfit j (by omega)
                obtain ⟨x, hxd⟩ : ∃ x, x = zs.getD j 0 := ⟨_, rfl⟩
                rw [← hxd] at hcj hzj
                have hS2 : S zs (j + 1) - S zs st = S zs j - S zs st + x := by rw [S_succ, ← hxd]; omega
                have hlt2 := (HALL.out (j + 1) (by omega) (by omega)).1
                rw [hS2] at hlt2
                have db : decide ((1048576 : Int) ≤ S zs j - S zs st + x) = false := decide_eq_false (by omega)
                have HX : Hid (S zs (j + 1) - S zs st = S zs j - S zs st + x) := hS2
                clear hxd hS2 hcell2 hcm
                go_wp2_with fail
                go_round
                case rel => exact ⟨j + 1, by go_num, by rw [HX.out], by omega, by omega⟩
                case measure => simp [intOf]; omega
              have dj : decide ((j : Int) < (m : Int)) = false := decide_eq_false (by omega)
              have e : m = j := by omega
              subst e
              clear hj hjm hsj hcell2
              go_wp2_with fail
              refine (items8 g _ _ _ w3 hpg).mono ?_
              rintro e w' ⟨rfl, rfl⟩
              go_wp2_with fail
              refine (size9 g _ _ _ w3 hpg).mono ?_
              rintro e w' ⟨rfl, rfl⟩
              have htk2 := take7_no w.heap.size g l ((m : Int) + 1 - (st : Int)) (S zs m - S zs st + y) z w3 hpg hgw HST.out
              rcases HST.out with hq | hq
              · have dcl : (((m : Int) + 1 - (st : Int)) != l) = false := by rw [hq]; simp
                clear hq
                go_wp2_with fail
                refine htk2.mono ?_
                rintro e w4 ⟨rfl, hpg4, hb4⟩
                clear htk2
                go_wp2_with fail
                go_roundw
                case rel => exact ⟨m + 1, by go_num, by omega, hbW.trans hb4⟩
                case measure => simp [intOf]; omega
              · by_cases hq2 : ((m : Int) + 1 - (st : Int)) = l
                · have dcl : (((m : Int) + 1 - (st : Int)) != l) = false := by rw [hq2]; simp
                  clear hq hq2
                  go_wp2_with fail
                  refine htk2.mono ?_
                  rintro e w4 ⟨rfl, hpg4, hb4⟩
                  clear htk2
                  go_wp2_with fail
                  go_roundw
                  case rel => exact ⟨m + 1, by go_num, by omega, hbW.trans hb4⟩
                  case measure => simp [intOf]; omega
                · have dcl : (((m : Int) + 1 - (st : Int)) != l) = true := bne_iff_ne.2 hq2
                  have dt : decide (S zs m - S zs st + y < 1048576) = false := decide_eq_false (by omega)
                  clear hq hq2
                  go_wp2_with fail
                  refine htk2.mono ?_
                  rintro e w4 ⟨rfl, hpg4, hb4⟩
                  clear htk2
                  go_wp2_with fail
                  go_roundw
                  case rel => exact ⟨m + 1, by go_num, by omega, hbW.trans hb4⟩
                  case measure => simp [intOf]; omega
          · -- the page takes it
            have hc1 : (i : Int) - (st : Int) ≠ l := fun h => hstop (.inl h)
            have hc2 : S zs i - S zs st < 1048576 := by
              rcases Int.lt_or_le (S zs i - S zs st) 1048576 with h | h
              · exact h
              · exact absurd (.inr h) hstop
            have htk := take7_yes w.heap.size g l ((i : Int) - (st : Int)) (S zs i - S zs st) z wr hpg hgw hc1 hc2 (by omega) (by omega) (by omega) hzb.1 hzb.2
            have hc3 : (i : Int) - (st : Int) < l := by omega
            clear hstop hpg hcell hc1
            go_wp2_with fail
            refine htk.mono ?_
            rintro e w3 ⟨rfl, hpg, hb3⟩
            clear htk
            go_wp2_with fail
            go_roundw
            case rel =>
              refine ⟨i + 1, by go_num, by omega, by omega, ?_, fun q h1 h2 => ?_, hb2.trans hb3⟩
              · have e1 : ((i + 1 : Nat) : Int) - (st : Int) = (i : Int) - (st : Int) + 1 := by omega
                have e2 : S zs (i + 1) - S zs st = S zs i - S zs st + z := by rw [S_succ, ← HZ.out]; omega
                rw [e1, e2]
                exact hpg
              · by_cases e : q = i
                · subst e; exact ⟨hc2, hc3⟩
                · exact hall q h1 (by omega)
            case measure => simp [intOf]; omega
        · -- the list is at its end
          have di : decide ((i : Int) < (zs.length : Int)) = false := decide_eq_false (by omega)
          have hsi1 : st < i := by omega
          have hbW := hb2
          have hil2 : zs.length ≤ i := by omega
          clear hil
          obtain ⟨m, hm⟩ : ∃ m, i = m + 1 := ⟨i - 1, by omega⟩
          subst hm
          have hc3 : ((m + 1 : Nat) : Int) = (m : Int) + 1 := by omega
          have hmb := S_bound hfit m (by omega)
          have hmm := S_le hfit (show st ≤ m by omega) (show m ≤ zs.length by omega)
          have hzm := hfit m (by omega)
          have hcW := hz.below hbW
          rcases hcW.ways with h0 | ⟨bb, off2, hx, hbb, hcell2⟩
          · exfalso; omega
          subst hx
          have hcm := hcell2 m (by omega)
          obtain ⟨y, hyd⟩ : ∃ y, y = zs.getD m 0 := ⟨_, rfl⟩
          rw [← hyd] at hcm hzm
          have hS : S zs (m + 1) - S zs st = S zs m - S zs st + y := by rw [S_succ, ← hyd]; omega
          rw [hS, hc3] at hpg
          have dc1 : decide ((m : Int) + 1 - (st : Int) < 1) = false := decide_eq_false (by omega)
          have dc2 : decide (l < (m : Int) + 1 - (st : Int)) = false := decide_eq_false (by omega)
          have HY : Hid (y = zs.getD m 0) := hyd
          have HALL : Hid (∀ q : Nat, st ≤ q → q < m + 1 → S zs q - S zs st < 1048576 ∧ (q : Int) - (st : Int) < l) := hall
          clear hyd hS hc3 hall
          rw [Int.natCast_add] at *
          go_wp2_with fail
          go_loop [11, 12] (fun vb vj => ∃ j : Nat, vj = .int .i64 j ∧ vb = .int .i64 (S zs j - S zs st) ∧ st ≤ j ∧ j ≤ m)
            (fun _ vj => m - (intOf vj).toNat)
          case atStart => exact ⟨st, rfl, by rw [Int.sub_self], Nat.le_refl _, by omega⟩
          case round =>
            obtain ⟨j, rfl, rfl, hsj, hjm⟩ := hrel
            have hjb := S_bound hfit j (by omega)
            have hjm2 := S_le hfit hsj (show j ≤ zs.length by omega)
            by_cases hj : j < m
            · have dj : decide ((j : Int) < (m : Int)) = true := decide_eq_true (by omega)
              have hcj := hcell2 j (by omega)
              have hzj := hfit j (by omega)
              obtain ⟨x, hxd⟩ : ∃ x, x = zs.getD j 0 := ⟨_, rfl⟩
              rw [← hxd] at hcj hzj
              have hS2 : S zs (j + 1) - S zs st = S zs j - S zs st + x := by rw [S_succ, ← hxd]; omega
              have hlt2 := (HALL.out (j + 1) (by omega) (by omega)).1
              rw [hS2] at hlt2
              have db : decide ((1048576 : Int) ≤ S zs j - S zs st + x) = false := decide_eq_false (by omega)
              have HX : Hid (S zs (j + 1) - S zs st = S zs j - S zs st + x) := hS2
              clear hxd hS2 hcell2 hcm
              go_wp2_with fail
              go_round
              case rel => exact ⟨j + 1, by go_num, by rw [HX.out], by omega, by omega⟩
              case measure => simp [intOf]; omega
            have dj : decide ((j : Int) < (m : Int)) = false := decide_eq_false (by omega)
            have e : m = j := by omega
            subst e
            clear hj hjm hsj hcell2
            go_wp2_with fail
            refine (items8 g _ _ _ wr hpg).mono ?_
            rintro e w' ⟨rfl, rfl⟩
            go_wp2_with fail
            refine (size9 g _ _ _ wr hpg).mono ?_
            rintro e w' ⟨rfl, rfl⟩
            go_wp2_with fail
            go_roundw
            case rel => exact ⟨m + 1, by go_num, by omega, hbW⟩
            case measure => simp [intOf]; omega
end Go.Proofs.Qxb6625450a

