/- Seat b6627196a: appendVarint, varintLen, appendTag walked. -/
import Derived.Test.Qxb6627196aBase
namespace Go.Proofs.Qxb6627196a
open Go.RowKit
set_option linter.unusedVariables false
set_option linter.unusedSimpArgs false

set_option maxHeartbeats 8000000 in
set_option maxRecDepth 100000 in
/-- appendVarint: what comes back owns the bytes handed in and, behind them, x's varint. -/
theorem appendVarint_put (B n x : Nat) (hx : x < 18446744073709551616) (sv : Value) (xs : List Value) (w : World) (hown : w.ownsRow B 5 1 sv n xs) (hBw : B ≤ w.heap.size) (hlim : n + 10 ≤ 140737488355328) :
    Calls Try.prog 14 #[sv, .int .u64 x] w fun e w' => ∃ v', e = .returned v' ∧ w'.ownsRow B 5 1 v' (n + (Lib.uvarint x).length) (xs ++ Lib.byteCells (Lib.uvarint x)) ∧ Below B w w' := by
  obtain ⟨i0, hi, hz0, hz1, hz2⟩ := info_parts (P := Try.prog) (e := 5) (z := .int .u8 0) (size := 1) (bytes := 1) (by kernel_rfl)
  have hlen := Lib.uvarint_length64 hx
  go_enter Try.func14, Try.ntmps14
  go_wp2
  go_loopw [0, 1] (fun vb vx wr => ∃ (y : Nat) (pre : List UInt8), vx = .int .u64 y ∧ y ≤ x ∧ Lib.uvarint x = pre ++ Lib.uvarint y ∧ wr.ownsRow B 5 1 vb (n + pre.length) (xs ++ Lib.byteCells pre) ∧ Below B w wr)
    (fun _ vx _ => (intOf vx).toNat)
  case atStart => exact ⟨x, [], rfl, Nat.le_refl _, rfl, by simpa [Lib.byteCells] using hown, Below.refl _ _⟩
  case round =>
    obtain ⟨y, pre, rfl, hy, hsplit, hown1, hnx⟩ := hrel
    have hpl : pre.length + (Lib.uvarint y).length ≤ 10 := by
      have h2 := congrArg List.length hsplit
      rw [List.length_append] at h2
      omega
    have hyp := Lib.uvarint_pos y
    by_cases h128 : 128 ≤ y
    · have hor : bits .or .u8 ((y : Int) % 256) 128 = ((y % 128 + 128 : Nat) : Int) := by
        rw [Lib.u8_or128_any _ (by omega) (by omega)]
        omega
      go_wp2_with (at_builtin; refine wpList_append_own _ rfl _ _ 22 rfl B 5 i0 (.int .u8 0) 1 1 Try.underlying22 hi hz0 hz1 hz2 rfl (by decide) _ _ _ rfl (hown1.alloc _) ⟨wr.heap.size, 0, none⟩ 1 1 [Value.int .u8 ((y % 128 + 128 : Nat) : Int)] rfl rfl ?c1 ?c2 ?c3 ?c4 ?c5 ?_)
      case c1 =>
        intro j u hj
        match j, hj with
        | 0, hj => simp at hj; subst hj; simp [Addr.add]
      case c2 => intro u hu; simp at hu; subst hu; rfl
      case c3 => unfold maxLen; omega
      case c4 => omega
      case c5 => have := hnx.size; simp; omega
      intro v' w1 hown' hgrow _
      have hnx1 : Below B w w1 := (hnx.alloc (by have := hnx.size; omega) _).grown hgrow (by have := hnx.size; simp; omega) (fun k hk => (hown1.lt k hk).1)
      go_wp2
      go_roundw
      case rel =>
        refine ⟨y / 128, pre ++ [(y % 128 + 128).toUInt8], by go_num, by omega, by rw [hsplit, Lib.uvarint_big h128]; simp, ?_, hnx1⟩
        have ec : ((y % 128 + 128 : Nat) : Int) = (y : Int) % 128 + 128 := by omega
        rw [Lib.byteCells_snoc pre (by omega), List.length_append, List.length_singleton, ← Nat.add_assoc, ec]
        exact hown'
      case measure => simp [intOf]; omega
    · have hsm : Lib.uvarint y = [y.toUInt8] := Lib.uvarint_small (by omega)
      go_wp2_with (at_builtin; refine wpList_append_own _ rfl _ _ 22 rfl B 5 i0 (.int .u8 0) 1 1 Try.underlying22 hi hz0 hz1 hz2 rfl (by decide) _ _ _ rfl (hown1.alloc _) ⟨wr.heap.size, 0, none⟩ 1 1 [Value.int .u8 (y : Int)] rfl rfl ?c1 ?c2 ?c3 ?c4 ?c5 ?_)
      case c1 =>
        intro j u hj
        match j, hj with
        | 0, hj => simp at hj; subst hj; simp [Addr.add]
      case c2 => intro u hu; simp at hu; subst hu; rfl
      case c3 => unfold maxLen; omega
      case c4 => omega
      case c5 => have := hnx.size; simp; omega
      intro v' w1 hown' hgrow _
      have hnx1 : Below B w w1 := (hnx.alloc (by have := hnx.size; omega) _).grown hgrow (by have := hnx.size; simp; omega) (fun k hk => (hown1.lt k hk).1)
      go_wp2
      go_ret
      refine ⟨v', rfl, ?_, hnx1⟩
      rw [hsplit, hsm, Lib.byteCells_snoc pre (by omega), List.length_append, List.length_singleton, ← Nat.add_assoc]
      exact hown'

set_option maxHeartbeats 8000000 in
set_option maxRecDepth 100000 in
/-- varintLen: the number of bytes of x's varint. -/
theorem varintLen_len (x : Nat) (hx : x < 18446744073709551616) (w : World) :
    Calls Try.prog 13 #[.int .u64 x] w fun e w' => e = .returned (.int .i64 ((Lib.uvarint x).length : Nat)) ∧ w = w' := by
  have hlen := Lib.uvarint_length64 hx
  go_enter Try.func13, Try.ntmps13
  go_wp2
  go_loop [0, 3] (fun vx vn => ∃ (y k : Nat), vx = .int .u64 y ∧ vn = .int .i64 k ∧ y ≤ x ∧ (Lib.uvarint x).length + 1 = k + (Lib.uvarint y).length)
    (fun vx _ => (intOf vx).toNat)
  case atStart => exact ⟨x, 1, rfl, rfl, Nat.le_refl _, by omega⟩
  case round =>
    obtain ⟨y, k, rfl, rfl, hy, hk⟩ := hrel
    have hyp := Lib.uvarint_pos y
    by_cases h128 : 128 ≤ y
    · have hb := congrArg List.length (Lib.uvarint_big h128)
      rw [List.length_cons] at hb
      have hyp2 := Lib.uvarint_pos (y / 128)
      have h128i : (128:Int) ≤ (y:Int) := by omega
      go_wp2
      refine ⟨⟨y / 128, k + 1, by go_num, by go_num, by omega, by omega⟩, by simp [intOf]; omega⟩
    · have hb := congrArg List.length (Lib.uvarint_small (x := y) (by omega))
      rw [List.length_singleton] at hb
      have h128i : ¬ (128:Int) ≤ (y:Int) := by omega
      go_wp2
      go_ret
      refine ⟨?_, rfl⟩
      have : k = (Lib.uvarint x).length := by omega
      rw [this]
      rfl

theorem wraps_u64' (n : Int) (h₀ : 0 ≤ n) (h₁ : n < 2 ^ 64) : IntKind.u64.wrap n = n := by simp [IntKind.wrap, IntKind.bits, IntKind.signed]; omega

theorem tag_bits (num : Int) : bits .or .u64 (IntKind.u64.wrap (IntKind.u64.wrap num * 8)) 2 = ((tagOf num : Nat) : Int) := by
  have e1 : IntKind.u64.wrap num = num % 18446744073709551616 := by simp [IntKind.wrap, IntKind.bits, IntKind.signed]
  have e2 : IntKind.u64.wrap (num % 18446744073709551616 * 8) = (num % 18446744073709551616 * 8) % 18446744073709551616 := by simp [IntKind.wrap, IntKind.bits, IntKind.signed]
  rw [e1, e2, bits_join .u64 64 (by decide) wraps_u64' 3 _ 2 (by omega) (by omega) (by omega) (by omega) (by omega) (by omega)]
  unfold tagOf
  omega

set_option maxHeartbeats 8000000 in
set_option maxRecDepth 100000 in
/-- appendTag (wire type 2): the tag's varint behind what was there. -/
theorem appendTag_put (B n : Nat) (num : Int) (sv : Value) (xs : List Value) (w : World) (hown : w.ownsRow B 5 1 sv n xs) (hBw : B ≤ w.heap.size) (hlim : n + 10 ≤ 140737488355328) :
    Calls Try.prog 15 #[sv, .int .i64 num, .int .u8 2] w fun e w' => ∃ v', e = .returned v' ∧ w'.ownsRow B 5 1 v' (n + (Lib.uvarint (tagOf num)).length) (xs ++ Lib.byteCells (Lib.uvarint (tagOf num))) ∧ Below B w w' := by
  have hc := appendVarint_put B n (tagOf num) (tagOf_lt num) sv xs w hown hBw hlim
  go_enter Try.func15, Try.ntmps15
  go_wp2_with fail
  rw [tag_bits num]
  refine hc.mono ?_
  rintro e w' ⟨v', rfl, ho, hb⟩
  go_wp2_with fail
  go_ret
  exact ⟨v', rfl, ho, hb⟩

end Go.Proofs.Qxb6627196a
