/- Seat b6627196a: p[n:] and p[:n], of bytes and of uint64. -/
import Derived.Test.Qxb6627196aBase
namespace Go.Proofs.Qxb6627196a
open Go.RowKit
set_option linter.unusedVariables false

theorem size5 (w : World) : (sizeOf 5).run Try.prog w = .ok 1 w := by kernel_rfl
theorem size28 (w : World) : (sizeOf 28).run Try.prog w = .ok 1 w := by kernel_rfl

theorem Bs.low {w : World} {a : Option Addr} {l : List UInt8} (h : Bs w a l) (pre rest : List UInt8) (hl : l = pre ++ rest) (c : Nat) (hc : l.length ≤ c) :
    ∃ (A : Option Addr) (C : Nat), Bs w A rest ∧ rest.length ≤ C ∧ C ≤ c ∧
      (∀ w', (Instr.slice 22 (.slice a l.length c) (some (.int .i64 ((pre.length : Nat) : Int))) none none).run Try.prog w' = .ok (.slice A rest.length C) w') := by
  have hlen := congrArg List.length hl
  rw [List.length_append] at hlen
  refine ⟨if c = pre.length then a else a.map (·.add pre.length), c - pre.length, ?_, by omega, by omega, fun w' => ?_⟩
  · rcases h.ways with h0 | ⟨b, off, rfl, hb, hcell⟩
    · exact .inl (List.eq_nil_of_length_eq_zero (by omega))
    · by_cases e : c = pre.length
      · exact .inl (List.eq_nil_of_length_eq_zero (by omega))
      · refine .inr ⟨b, off + pre.length, ?_, hb, fun j hj => ?_⟩
        · rw [if_neg e]; simp [Addr.add_lit]
        · rw [Nat.add_assoc, hcell (pre.length + j) (by omega), hl]
          simp only [List.getD]
          rw [List.getElem?_append_right (by omega), Nat.add_sub_cancel_left]
  · rw [run_slice_l w' 22 a l.length c Try.underlying22 .i64 ((pre.length : Nat) : Int) (by omega) (by omega)]
    show ((sizeOf 5).run Try.prog w').andThen _ = _
    rw [size5]
    simp [Result.andThen, sliced]
    omega

theorem Bs.high {w : World} {a : Option Addr} {l : List UInt8} (h : Bs w a l) (pre rest : List UInt8) (hl : l = pre ++ rest) (c : Nat) (hc : l.length ≤ c) :
    ∃ (A : Option Addr) (C : Nat), Bs w A pre ∧
      (∀ w', (Instr.slice 22 (.slice a l.length c) none (some (.int .i64 ((pre.length : Nat) : Int))) none).run Try.prog w' = .ok (.slice A pre.length C) w') := by
  have hlen := congrArg List.length hl
  rw [List.length_append] at hlen
  refine ⟨if c = 0 then a else a.map (·.add 0), c, ?_, fun w' => ?_⟩
  · rcases h.ways with h0 | ⟨b, off, rfl, hb, hcell⟩
    · exact .inl (List.eq_nil_of_length_eq_zero (by omega))
    · by_cases e : pre.length = 0
      · exact .inl (List.eq_nil_of_length_eq_zero e)
      · refine .inr ⟨b, off, ?_, hb, fun j hj => ?_⟩
        · rw [if_neg (by omega)]; rfl
        · rw [hcell j (by omega), hl]
          simp only [List.getD]
          rw [List.getElem?_append_left hj]
  · rw [run_slice_h w' 22 a l.length c Try.underlying22 .i64 ((pre.length : Nat) : Int) (by omega) (by omega)]
    show ((sizeOf 5).run Try.prog w').andThen _ = _
    rw [size5]
    simp [Result.andThen, sliced]

theorem Us.low {w : World} {B : Nat} {a : Option Addr} {l : List Nat} (h : Us w B a l) (pre rest : List Nat) (hl : l = pre ++ rest) (c : Nat) (hc : l.length ≤ c) :
    ∃ (A : Option Addr) (C : Nat), Us w B A rest ∧
      (∀ w', (Instr.slice 23 (.slice a l.length c) (some (.int .i64 ((pre.length : Nat) : Int))) none none).run Try.prog w' = .ok (.slice A rest.length C) w') := by
  have hlen := congrArg List.length hl
  rw [List.length_append] at hlen
  refine ⟨if c = pre.length then a else a.map (·.add pre.length), c - pre.length, ?_, fun w' => ?_⟩
  · rcases h.ways with h0 | ⟨b, off, rfl, hb, hcell⟩
    · exact .inl (List.eq_nil_of_length_eq_zero (by omega))
    · by_cases e : c = pre.length
      · exact .inl (List.eq_nil_of_length_eq_zero (by omega))
      · refine .inr ⟨b, off + pre.length, ?_, hb, fun j hj => ?_⟩
        · rw [if_neg e]; simp [Addr.add_lit]
        · rw [Nat.add_assoc, hcell (pre.length + j) (by omega), hl]
          simp only [List.getD]
          rw [List.getElem?_append_right (by omega), Nat.add_sub_cancel_left]
  · rw [run_slice_l w' 23 a l.length c Try.underlying23 .i64 ((pre.length : Nat) : Int) (by omega) (by omega)]
    show ((sizeOf 28).run Try.prog w').andThen _ = _
    rw [size28]
    simp [Result.andThen, sliced]
    omega

theorem Us.high {w : World} {B : Nat} {a : Option Addr} {l : List Nat} (h : Us w B a l) (pre rest : List Nat) (hl : l = pre ++ rest) (c : Nat) (hc : l.length ≤ c) :
    ∃ (A : Option Addr) (C : Nat), Us w B A pre ∧
      (∀ w', (Instr.slice 23 (.slice a l.length c) none (some (.int .i64 ((pre.length : Nat) : Int))) none).run Try.prog w' = .ok (.slice A pre.length C) w') := by
  have hlen := congrArg List.length hl
  rw [List.length_append] at hlen
  refine ⟨if c = 0 then a else a.map (·.add 0), c, ?_, fun w' => ?_⟩
  · rcases h.ways with h0 | ⟨b, off, rfl, hb, hcell⟩
    · exact .inl (List.eq_nil_of_length_eq_zero (by omega))
    · by_cases e : pre.length = 0
      · exact .inl (List.eq_nil_of_length_eq_zero e)
      · refine .inr ⟨b, off, ?_, hb, fun j hj => ?_⟩
        · rw [if_neg (by omega)]; rfl
        · rw [hcell j (by omega), hl]
          simp only [List.getD]
          rw [List.getElem?_append_left hj]
  · rw [run_slice_h w' 23 a l.length c Try.underlying23 .i64 ((pre.length : Nat) : Int) (by omega) (by omega)]
    show ((sizeOf 28).run Try.prog w').andThen _ = _
    rw [size28]
    simp [Result.andThen, sliced]
end Go.Proofs.Qxb6627196a
