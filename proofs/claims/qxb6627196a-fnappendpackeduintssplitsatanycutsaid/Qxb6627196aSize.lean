/- Seat b6627196a: varintSize walked: one byte, and one for each threshold 2^(7k) that the value reaches: the length of its varint. -/
import Derived.Test.Qxb6627196aBase
namespace Go.Proofs.Qxb6627196a
open Go.RowKit
set_option linter.unusedVariables false
set_option linter.unusedSimpArgs false

theorem uvarint_len_gt : ∀ (k v : Nat), k + 1 < (Lib.uvarint v).length ↔ 128 ^ (k + 1) ≤ v
  | 0, v => by
    by_cases h : v < 128
    · rw [Lib.uvarint_small h]; simp; omega
    · rw [Lib.uvarint_big (by omega), List.length_cons]
      have := Lib.uvarint_pos (v / 128)
      constructor
      · intro _; simp; omega
      · intro _; omega
  | k + 1, v => by
    by_cases h : v < 128
    · rw [Lib.uvarint_small h]
      have h1 : 128 ≤ 128 ^ (k + 1 + 1) := by
        rw [Nat.pow_succ]
        have : 0 < 128 ^ (k + 1) := Nat.pow_pos (by omega)
        omega
      constructor
      · intro h2; simp at h2
      · intro h2; omega
    · rw [Lib.uvarint_big (by omega), List.length_cons]
      have ih := uvarint_len_gt k (v / 128)
      rw [Nat.le_div_iff_mul_le (by omega), ← Nat.pow_succ] at ih
      rw [← ih]
      omega

set_option maxHeartbeats 8000000 in
set_option maxRecDepth 100000 in
theorem varintSize_len (v : Nat) (hv : v < 18446744073709551616) (w : World) :
    Calls Try.prog 12 #[.int .u64 v] w fun e w' => e = .returned (.int .i64 ((Lib.uvarint v).length : Nat)) ∧ w = w' := by
  have hlen := Lib.uvarint_length64 hv
  have hpos := Lib.uvarint_pos v
  have hgt := fun k => uvarint_len_gt k v
  obtain ⟨len, hld⟩ : ∃ n, n = (Lib.uvarint v).length := ⟨_, rfl⟩
  rw [← hld] at hlen hpos ⊢
  simp only [← hld] at hgt
  clear hld
  go_enter Try.func12, Try.ntmps12
  go_wp2_with fail
  go_loop [3, 4] (fun vn vk => ∃ (k n : Nat), vk = .int .u64 k ∧ vn = .int .i64 n ∧ 1 ≤ k ∧ k ≤ 10 ∧ n = min len k)
    (fun _ vk => 20 - (intOf vk).toNat)
  case atStart => exact ⟨1, 1, rfl, rfl, by omega, by omega, by omega⟩
  case round =>
    obtain ⟨k, n, rfl, rfl, hk1, hk2, hn⟩ := hrel
    have hks : k = 1 ∨ k = 2 ∨ k = 3 ∨ k = 4 ∨ k = 5 ∨ k = 6 ∨ k = 7 ∨ k = 8 ∨ k = 9 ∨ k = 10 := by omega
    rcases hks with rfl | rfl | rfl | rfl | rfl | rfl | rfl | rfl | rfl | rfl
    · have h0 := hgt 0
      have e7 : (128 : Nat) ^ (0 + 1) = 128 := by decide
      rw [e7] at h0
      clear e7 hgt
      by_cases hge : 128 ≤ v
      · have hl : 1 < len := h0.2 hge
        obtain rfl : n = 1 := by omega
        clear h0 hn
        have hgeI : (128 : Int) ≤ (v : Int) := by omega
        clear hge
        go_wp2_with fail
        go_round
        case rel => exact ⟨2, 2, rfl, rfl, by omega, by omega, by omega⟩
        case measure => simp [intOf]
      · have hl : ¬ 1 < len := fun h => hge (h0.1 h)
        have hn2 : n = min len 2 := by omega
        have n1 : n ≤ min len 2 := by omega
        have n2 : min len 2 ≤ n := by omega
        have n3 : n ≤ 10 := by omega
        have hgeI : decide ((128 : Int) ≤ (v : Int)) = false := decide_eq_false (by omega)
        clear h0 hn hn2 hge
        go_wp2_with fail
        go_round
        case rel => exact ⟨2, n, rfl, rfl, by omega, by omega, by omega⟩
        case measure => simp [intOf]
    · have h0 := hgt 1
      have e7 : (128 : Nat) ^ (1 + 1) = 16384 := by decide
      rw [e7] at h0
      clear e7 hgt
      by_cases hge : 16384 ≤ v
      · have hl : 2 < len := h0.2 hge
        obtain rfl : n = 2 := by omega
        clear h0 hn
        have hgeI : (16384 : Int) ≤ (v : Int) := by omega
        clear hge
        go_wp2_with fail
        go_round
        case rel => exact ⟨3, 3, rfl, rfl, by omega, by omega, by omega⟩
        case measure => simp [intOf]
      · have hl : ¬ 2 < len := fun h => hge (h0.1 h)
        have hn2 : n = min len 3 := by omega
        have n1 : n ≤ min len 3 := by omega
        have n2 : min len 3 ≤ n := by omega
        have n3 : n ≤ 10 := by omega
        have hgeI : decide ((16384 : Int) ≤ (v : Int)) = false := decide_eq_false (by omega)
        clear h0 hn hn2 hge
        go_wp2_with fail
        go_round
        case rel => exact ⟨3, n, rfl, rfl, by omega, by omega, by omega⟩
        case measure => simp [intOf]
    · have h0 := hgt 2
      have e7 : (128 : Nat) ^ (2 + 1) = 2097152 := by decide
      rw [e7] at h0
      clear e7 hgt
      by_cases hge : 2097152 ≤ v
      · have hl : 3 < len := h0.2 hge
        obtain rfl : n = 3 := by omega
        clear h0 hn
        have hgeI : (2097152 : Int) ≤ (v : Int) := by omega
        clear hge
        go_wp2_with fail
        go_round
        case rel => exact ⟨4, 4, rfl, rfl, by omega, by omega, by omega⟩
        case measure => simp [intOf]
      · have hl : ¬ 3 < len := fun h => hge (h0.1 h)
        have hn2 : n = min len 4 := by omega
        have n1 : n ≤ min len 4 := by omega
        have n2 : min len 4 ≤ n := by omega
        have n3 : n ≤ 10 := by omega
        have hgeI : decide ((2097152 : Int) ≤ (v : Int)) = false := decide_eq_false (by omega)
        clear h0 hn hn2 hge
        go_wp2_with fail
        go_round
        case rel => exact ⟨4, n, rfl, rfl, by omega, by omega, by omega⟩
        case measure => simp [intOf]
    · have h0 := hgt 3
      have e7 : (128 : Nat) ^ (3 + 1) = 268435456 := by decide
      rw [e7] at h0
      clear e7 hgt
      by_cases hge : 268435456 ≤ v
      · have hl : 4 < len := h0.2 hge
        obtain rfl : n = 4 := by omega
        clear h0 hn
        have hgeI : (268435456 : Int) ≤ (v : Int) := by omega
        clear hge
        go_wp2_with fail
        go_round
        case rel => exact ⟨5, 5, rfl, rfl, by omega, by omega, by omega⟩
        case measure => simp [intOf]
      · have hl : ¬ 4 < len := fun h => hge (h0.1 h)
        have hn2 : n = min len 5 := by omega
        have n1 : n ≤ min len 5 := by omega
        have n2 : min len 5 ≤ n := by omega
        have n3 : n ≤ 10 := by omega
        have hgeI : decide ((268435456 : Int) ≤ (v : Int)) = false := decide_eq_false (by omega)
        clear h0 hn hn2 hge
        go_wp2_with fail
        go_round
        case rel => exact ⟨5, n, rfl, rfl, by omega, by omega, by omega⟩
        case measure => simp [intOf]
    · have h0 := hgt 4
      have e7 : (128 : Nat) ^ (4 + 1) = 34359738368 := by decide
      rw [e7] at h0
      clear e7 hgt
      by_cases hge : 34359738368 ≤ v
      · have hl : 5 < len := h0.2 hge
        obtain rfl : n = 5 := by omega
        clear h0 hn
        have hgeI : (34359738368 : Int) ≤ (v : Int) := by omega
        clear hge
        go_wp2_with fail
        go_round
        case rel => exact ⟨6, 6, rfl, rfl, by omega, by omega, by omega⟩
        case measure => simp [intOf]
      · have hl : ¬ 5 < len := fun h => hge (h0.1 h)
        have hn2 : n = min len 6 := by omega
        have n1 : n ≤ min len 6 := by omega
        have n2 : min len 6 ≤ n := by omega
        have n3 : n ≤ 10 := by omega
        have hgeI : decide ((34359738368 : Int) ≤ (v : Int)) = false := decide_eq_false (by omega)
        clear h0 hn hn2 hge
        go_wp2_with fail
        go_round
        case rel => exact ⟨6, n, rfl, rfl, by omega, by omega, by omega⟩
        case measure => simp [intOf]
    · have h0 := hgt 5
      have e7 : (128 : Nat) ^ (5 + 1) = 4398046511104 := by decide
      rw [e7] at h0
      clear e7 hgt
      by_cases hge : 4398046511104 ≤ v
      · have hl : 6 < len := h0.2 hge
        obtain rfl : n = 6 := by omega
        clear h0 hn
        have hgeI : (4398046511104 : Int) ≤ (v : Int) := by omega
        clear hge
        go_wp2_with fail
        go_round
        case rel => exact ⟨7, 7, rfl, rfl, by omega, by omega, by omega⟩
        case measure => simp [intOf]
      · have hl : ¬ 6 < len := fun h => hge (h0.1 h)
        have hn2 : n = min len 7 := by omega
        have n1 : n ≤ min len 7 := by omega
        have n2 : min len 7 ≤ n := by omega
        have n3 : n ≤ 10 := by omega
        have hgeI : decide ((4398046511104 : Int) ≤ (v : Int)) = false := decide_eq_false (by omega)
        clear h0 hn hn2 hge
        go_wp2_with fail
        go_round
        case rel => exact ⟨7, n, rfl, rfl, by omega, by omega, by omega⟩
        case measure => simp [intOf]
    · have h0 := hgt 6
      have e7 : (128 : Nat) ^ (6 + 1) = 562949953421312 := by decide
      rw [e7] at h0
      clear e7 hgt
      by_cases hge : 562949953421312 ≤ v
      · have hl : 7 < len := h0.2 hge
        obtain rfl : n = 7 := by omega
        clear h0 hn
        have hgeI : (562949953421312 : Int) ≤ (v : Int) := by omega
        clear hge
        go_wp2_with fail
        go_round
        case rel => exact ⟨8, 8, rfl, rfl, by omega, by omega, by omega⟩
        case measure => simp [intOf]
      · have hl : ¬ 7 < len := fun h => hge (h0.1 h)
        have hn2 : n = min len 8 := by omega
        have n1 : n ≤ min len 8 := by omega
        have n2 : min len 8 ≤ n := by omega
        have n3 : n ≤ 10 := by omega
        have hgeI : decide ((562949953421312 : Int) ≤ (v : Int)) = false := decide_eq_false (by omega)
        clear h0 hn hn2 hge
        go_wp2_with fail
        go_round
        case rel => exact ⟨8, n, rfl, rfl, by omega, by omega, by omega⟩
        case measure => simp [intOf]
    · have h0 := hgt 7
      have e7 : (128 : Nat) ^ (7 + 1) = 72057594037927936 := by decide
      rw [e7] at h0
      clear e7 hgt
      by_cases hge : 72057594037927936 ≤ v
      · have hl : 8 < len := h0.2 hge
        obtain rfl : n = 8 := by omega
        clear h0 hn
        have hgeI : (72057594037927936 : Int) ≤ (v : Int) := by omega
        clear hge
        go_wp2_with fail
        go_round
        case rel => exact ⟨9, 9, rfl, rfl, by omega, by omega, by omega⟩
        case measure => simp [intOf]
      · have hl : ¬ 8 < len := fun h => hge (h0.1 h)
        have hn2 : n = min len 9 := by omega
        have n1 : n ≤ min len 9 := by omega
        have n2 : min len 9 ≤ n := by omega
        have n3 : n ≤ 10 := by omega
        have hgeI : decide ((72057594037927936 : Int) ≤ (v : Int)) = false := decide_eq_false (by omega)
        clear h0 hn hn2 hge
        go_wp2_with fail
        go_round
        case rel => exact ⟨9, n, rfl, rfl, by omega, by omega, by omega⟩
        case measure => simp [intOf]
    · have h0 := hgt 8
      have e7 : (128 : Nat) ^ (8 + 1) = 9223372036854775808 := by decide
      rw [e7] at h0
      clear e7 hgt
      by_cases hge : 9223372036854775808 ≤ v
      · have hl : 9 < len := h0.2 hge
        obtain rfl : n = 9 := by omega
        clear h0 hn
        have hgeI : (9223372036854775808 : Int) ≤ (v : Int) := by omega
        clear hge
        go_wp2_with fail
        go_round
        case rel => exact ⟨10, 10, rfl, rfl, by omega, by omega, by omega⟩
        case measure => simp [intOf]
      · have hl : ¬ 9 < len := fun h => hge (h0.1 h)
        have hn2 : n = min len 10 := by omega
        have n1 : n ≤ min len 10 := by omega
        have n2 : min len 10 ≤ n := by omega
        have n3 : n ≤ 10 := by omega
        have hgeI : decide ((9223372036854775808 : Int) ≤ (v : Int)) = false := decide_eq_false (by omega)
        clear h0 hn hn2 hge
        go_wp2_with fail
        go_round
        case rel => exact ⟨10, n, rfl, rfl, by omega, by omega, by omega⟩
        case measure => simp [intOf]
    · obtain rfl : n = len := by omega
      clear hgt hn
      go_wp2_with fail
      go_ret
      exact ⟨rfl, rfl⟩
end Go.Proofs.Qxb6627196a

