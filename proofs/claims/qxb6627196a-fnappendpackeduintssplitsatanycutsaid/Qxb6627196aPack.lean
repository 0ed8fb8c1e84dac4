/- Seat b6627196a: AppendPackedUints walked. -/
import Derived.Test.Qxb6627196aPut
namespace Go.Proofs.Qxb6627196a
open Go.RowKit
set_option linter.unusedVariables false
set_option linter.unusedSimpArgs false

/-- What comes back owns l. (A word of its own.) -/
def Owned (B : Nat) (w : World) (l : List UInt8) (v : Value) (w' : World) : Prop := w'.ownsRow B 5 1 v l.length (Lib.byteCells l) ∧ Below B w w'

set_option maxHeartbeats 8000000 in
set_option maxRecDepth 100000 in
theorem packed_put (B : Nat) (num : Int) (sv : Value) (l : List UInt8) (a : Option Addr) (c : Nat) (vs : List Nat) (w : World)
    (hown : w.ownsRow B 5 1 sv l.length (Lib.byteCells l)) (hBw : B ≤ w.heap.size) (hv : Us w B a vs) (hsm : ∀ v ∈ vs, v < 18446744073709551616)
    (hl : l.length ≤ 1048576) (hn : vs.length ≤ 1048576) :
    Calls Try.prog 7 #[sv, .int .i64 num, .slice a vs.length c] w fun e w' => ∃ v', e = .returned v' ∧ Owned B w (l ++ packed num vs) v' w' := by
  have hsmk : ∀ k, k < vs.length → vs.getD k 0 < 18446744073709551616 := by
    intro k hk
    apply hsm
    simp [List.getD, hk]
  have hbl := body_length_le vs hsm
  rcases Nat.eq_zero_or_pos vs.length with h0 | hpos
  · have hvs : vs = [] := List.eq_nil_of_length_eq_zero h0
    subst hvs
    go_enter Try.func7, Try.ntmps7
    go_wp2_with fail
    go_ret
    exact ⟨sv, rfl, by simpa [packed] using hown, Below.refl _ _⟩
  · have hne : ((vs.length : Int) == 0) = false := beq_eq_false_iff_ne.2 (by omega)
    have hpk : packed num vs = Lib.uvarint (tagOf num) ++ (Lib.uvarint (body vs).length ++ body vs) := by
      unfold packed
      rw [if_neg (by intro h; simp [h] at hpos)]
    go_enter Try.func7, Try.ntmps7
    go_wp2_with fail
    go_loop [7, 18] (fun vn vk => ∃ (k : Nat), vk = .int .i64 k ∧ vn = .int .i64 ((body (vs.take k)).length : Nat) ∧ k ≤ vs.length)
      (fun _ vk => vs.length - (intOf vk).toNat)
    case atStart => exact ⟨0, rfl, rfl, by omega⟩
    case round =>
      obtain ⟨k, rfl, rfl, hk⟩ := hrel
      have hb1 : (body (vs.take k)).length ≤ 10 * vs.length := by
        have := body_length_le (vs.take k) (fun v hv => hsm v (List.mem_of_mem_take hv))
        simp at this; omega
      by_cases hkl : k < vs.length
      · rcases hv.ways with hz | ⟨b, off, rfl, hbB, hcell⟩
        · exfalso; omega
        have hc := hcell k hkl
        have hst := body_take_succ vs k hkl
        obtain ⟨v, hvdef⟩ : ∃ v, v = vs.getD k 0 := ⟨_, rfl⟩
        have hv64 : v < 18446744073709551616 := hvdef ▸ hsmk k hkl
        rw [← hvdef] at hc hst
        have hlen := Lib.uvarint_length64 hv64
        have hstl := congrArg List.length hst
        rw [List.length_append] at hstl
        clear hcell hst hvdef hsmk hsm hpk
        go_wp2_with fail
        refine (varintLen_len v hv64 w).mono ?_
        rintro e w' ⟨rfl, rfl⟩
        go_wp2_with fail
        go_round
        case rel =>
          refine ⟨k + 1, by go_num, ?_, by omega⟩
          rw [hstl]
          go_num
        case measure => simp [intOf]; omega
      · obtain rfl : k = vs.length := by omega
        rw [List.take_length] at *
        go_wp2_with fail
        refine (appendTag_put B l.length num sv (Lib.byteCells l) w hown hBw (by omega)).mono ?_
        rintro e w1 ⟨v1, rfl, ho1, hbel1⟩
        have hl1 := Lib.uvarint_length64 (tagOf_lt num)
        have hb64 : (body vs).length < 18446744073709551616 := by omega
        have hl2 := Lib.uvarint_length64 hb64
        have hv1 := hv.below hbel1 (Nat.le_refl _)
        have hc2 := appendVarint_put B _ (body vs).length hb64 v1 _ w1 ho1 (Nat.le_trans hBw hbel1.size) (by omega)
        go_wp2_with fail
        refine hc2.mono ?_
        rintro e w2 ⟨v2, rfl, ho2, hbel2⟩
        have hv2 := hv1.below hbel2 (Nat.le_refl _)
        have hbel : Below B w w2 := hbel1.trans hbel2
        have hown2 : w2.ownsRow B 5 1 v2 (l ++ (Lib.uvarint (tagOf num) ++ Lib.uvarint (body vs).length)).length (Lib.byteCells (l ++ (Lib.uvarint (tagOf num) ++ Lib.uvarint (body vs).length))) := by
          have e1 : (l ++ (Lib.uvarint (tagOf num) ++ Lib.uvarint (body vs).length)).length = l.length + (Lib.uvarint (tagOf num)).length + (Lib.uvarint (body vs).length).length := by simp; omega
          rw [e1, Lib.byteCells_append, Lib.byteCells_append, ← List.append_assoc]
          exact ho2
        obtain ⟨L, hL⟩ : ∃ L, L = l ++ (Lib.uvarint (tagOf num) ++ Lib.uvarint (body vs).length) := ⟨_, rfl⟩
        have hLl : L.length ≤ 1048600 := by rw [hL]; simp; omega
        have hpk2 : l ++ packed num vs = L ++ body vs := by rw [hpk, hL]; simp
        rw [← hL] at hown2
        have hB2 : B ≤ w2.heap.size := Nat.le_trans hBw hbel.size
        clear hL hpk ho2 ho1 hc2 hv1 hbel1 hbel2 hv hown hl1 hl2
        go_wp2_with fail
        go_loopw [0, 35] (fun vb vk wr => ∃ (k : Nat), vk = .int .i64 k ∧ k ≤ vs.length ∧ wr.ownsRow B 5 1 vb (L ++ body (vs.take k)).length (Lib.byteCells (L ++ body (vs.take k))) ∧ Below B w2 wr)
          (fun _ vk _ => vs.length - (intOf vk).toNat)
        case atStart => exact ⟨0, rfl, by omega, by simpa [body] using hown2, Below.refl _ _⟩
        case round =>
          obtain ⟨k, rfl, hk, hownr, hbr⟩ := hrel
          by_cases hkl : k < vs.length
          · rcases (hv2.below hbr (Nat.le_refl _)).ways with hz | ⟨b, off, rfl, hbB, hcell⟩
            · exfalso; omega
            have hc := hcell k hkl
            have hst := body_take_succ vs k hkl
            have hb1 : (body (vs.take k)).length ≤ 10 * vs.length := by
              have := body_length_le (vs.take k) (fun v hv => hsm v (List.mem_of_mem_take hv))
              simp at this; omega
            obtain ⟨v, hvdef⟩ : ∃ v, v = vs.getD k 0 := ⟨_, rfl⟩
            have hv64 : v < 18446744073709551616 := hvdef ▸ hsmk k hkl
            rw [← hvdef] at hc hst
            clear hcell hvdef hsmk hsm hpk2 hown2
            have hc2 := appendVarint_put B _ v hv64 _ _ wr hownr (Nat.le_trans hB2 hbr.size) (by simp; omega)
            go_wp2_with fail
            refine hc2.mono ?_
            rintro e w3 ⟨v3, rfl, ho3, hbel3⟩
            clear hc2 hc
            go_wp2_with fail
            go_roundw
            case rel =>
              refine ⟨k + 1, by go_num, by omega, ?_, hbr.trans hbel3⟩
              rw [hst, ← List.append_assoc, List.length_append, Lib.byteCells_append]
              exact ho3
            case measure => simp [intOf]; omega
          · obtain rfl : k = vs.length := by omega
            rw [List.take_length] at hownr
            go_wp2_with fail
            go_ret
            refine ⟨_, rfl, ?_, hbel.trans hbr⟩
            rw [hpk2]
            exact hownr
end Go.Proofs.Qxb6627196a
