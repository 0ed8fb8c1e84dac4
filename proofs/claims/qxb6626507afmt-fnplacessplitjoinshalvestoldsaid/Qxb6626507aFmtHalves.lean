/- req[:k] and req[k:]. -/
import Derived.Test.Qxb6626507aFmtBase
namespace Go.Proofs.Qxb6626507aFmt
open Go.RowKit
set_option linter.unusedVariables false

theorem size9 (w : World) : (sizeOf 9).run Tryf.prog w = .ok 1 w := by kernel_rfl

theorem halves {w : World} {a : Option Addr} {c k : Nat} {req : List ByteArray} (h : Strs w a req) (hk : k ≤ req.length) (hc : req.length ≤ c) :
    ∃ (A1 A2 : Option Addr) (C1 C2 : Nat) (r1 r2 : List ByteArray), r1 = req.take k ∧ r2 = req.drop k ∧ Strs w A1 r1 ∧ Strs w A2 r2 ∧
      (∀ w', (Instr.slice 22 (.slice a req.length c) none (some (.int .i64 k)) none).run Tryf.prog w' = .ok (.slice A1 r1.length C1) w') ∧
      (∀ w', (Instr.slice 22 (.slice a req.length c) (some (.int .i64 k)) none none).run Tryf.prog w' = .ok (.slice A2 r2.length C2) w') := by
  refine ⟨if c = 0 then a else a.map (·.add 0), if c = k then a else a.map (·.add k), c, c - k, _, _, rfl, rfl, ?_, ?_, fun w' => ?_, fun w' => ?_⟩
  · rcases h.ways with h0 | ⟨b, off, rfl, hb, hcell⟩
    · exact .inl (List.eq_nil_of_length_eq_zero (by rw [List.length_take]; omega))
    · by_cases e : k = 0
      · exact .inl (by rw [e]; rfl)
      · refine .inr ⟨b, off, ?_, hb, fun j hj => ?_⟩
        · rw [if_neg (by omega)]; rfl
        · rw [List.length_take] at hj
          rw [hcell j (by omega)]
          simp only [List.getD, List.getElem?_take_of_lt (show j < k by omega)]
  · rcases h.ways with h0 | ⟨b, off, rfl, hb, hcell⟩
    · exact .inl (List.eq_nil_of_length_eq_zero (by rw [List.length_drop]; omega))
    · by_cases e : c = k
      · exact .inl (List.eq_nil_of_length_eq_zero (by rw [List.length_drop]; omega))
      · refine .inr ⟨b, off + k, ?_, hb, fun j hj => ?_⟩
        · rw [if_neg e]; simp [Addr.add_lit]
        · rw [List.length_drop] at hj
          rw [Nat.add_assoc, hcell (k + j) (by omega)]
          simp only [List.getD, List.getElem?_drop]
  · rw [run_slice_h w' 22 a req.length c Tryf.underlying22 .i64 (k : Int) (by omega) (by omega)]
    show ((sizeOf 9).run Tryf.prog w').andThen _ = _
    rw [size9]
    simp [Result.andThen, sliced]
    omega
  · rw [run_slice_l w' 22 a req.length c Tryf.underlying22 .i64 (k : Int) (by omega) (by omega)]
    show ((sizeOf 9).run Tryf.prog w').andThen _ = _
    rw [size9]
    simp [Result.andThen, sliced]
end Go.Proofs.Qxb6626507aFmt
