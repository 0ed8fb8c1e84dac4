/- Seat b6627196a: splitField walked. -/
import Derived.Test.Qxb6627196aRead
import Derived.Test.Qxb6627196aCut
namespace Go.Proofs.Qxb6627196a
open Go.RowKit
set_option linter.unusedVariables false
set_option linter.unusedSimpArgs false

/-- The answer of splitField: the tag, a slice of the bytes behind, true. (A word of its own.) -/
def FieldIs (T : Nat) (rest : List UInt8) (w : World) (e : Ending) : Prop :=
  ∃ (A : Option Addr) (C : Nat), e = .returned (.tuple #[.int .u64 T, .slice A rest.length C, .bool true]) ∧ Bs w A rest ∧ rest.length ≤ C ∧ C ≤ 9223372036854775807

set_option maxHeartbeats 8000000 in
set_option maxRecDepth 100000 in
theorem splitField_at (T : Nat) (rest l : List UInt8) (a : Option Addr) (c : Nat) (w : World) (hT : T < 18446744073709551616) (hl : l = Lib.uvarint T ++ (Lib.uvarint rest.length ++ rest)) (hs : Bs w a l)
    (hlen : l.length ≤ 1073741824) (hlc : l.length ≤ c) (hc : c ≤ 9223372036854775807) :
    Calls Try.prog 9 #[.slice a l.length c] w fun e w' => FieldIs T rest w e ∧ w = w' := by
  have hll := congrArg List.length hl
  rw [List.length_append, List.length_append] at hll
  obtain ⟨A1, C1, hs1, hc1, hc1', hr1⟩ := hs.low (Lib.uvarint T) (Lib.uvarint rest.length ++ rest) hl c hlc
  obtain ⟨l1, hl1⟩ : ∃ l1, l1 = Lib.uvarint rest.length ++ rest := ⟨_, rfl⟩
  rw [← hl1] at hs1 hc1 hr1
  have hll1 := congrArg List.length hl1
  rw [List.length_append] at hll1
  obtain ⟨A2, C2, hs2, hc2, hc2', hr2⟩ := hs1.low (Lib.uvarint rest.length) rest hl1 C1 hc1
  have hR1 := readVarint_at T (Lib.uvarint rest.length ++ rest) l a c w hT hl hs (by omega)
  have hR2 := readVarint_at rest.length rest l1 A1 C1 w (by omega) hl1 hs1 (by omega)
  have hne : ((rest.length : Int) != (rest.length : Int)) = false := by simp
  have hb : rest.length ≤ 1073741824 := by omega
  have hbT := Lib.uvarint_length64 hT
  have hbR := Lib.uvarint_length64 (x := rest.length) (by omega)
  obtain ⟨nT, hnT⟩ : ∃ n, n = (Lib.uvarint T).length := ⟨_, rfl⟩
  obtain ⟨nR, hnR⟩ : ∃ n, n = (Lib.uvarint rest.length).length := ⟨_, rfl⟩
  rw [← hnT] at hr1 hR1 hbT
  rw [← hnR] at hr2 hR2 hbR
  clear hl hl1 hll hll1 hs hs1 hnT hnR
  go_enter Try.func9, Try.ntmps9
  go_wp2_with fail
  refine hR1.mono ?_
  rintro e w' ⟨rfl, rfl⟩
  clear hR1
  go_wp2_with fail
  refine hR2.mono ?_
  rintro e w' ⟨rfl, rfl⟩
  clear hR2
  go_wp2_with fail
  go_ret3
  exact ⟨⟨A2, C2, rfl, hs2, hc2, by omega⟩, rfl⟩
end Go.Proofs.Qxb6627196a
