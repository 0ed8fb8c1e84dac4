/- Seat b6627196a: readVarint walked: the varint of v at the head of a slice of bytes is read back as v. -/
import Derived.Test.Qxb6627196aBase
namespace Go.Proofs.Qxb6627196a
open Go.RowKit
set_option linter.unusedVariables false
set_option linter.unusedSimpArgs false

theorem drop_head_small {l rest : List UInt8} {k y : Nat} (h : l.drop k = Lib.uvarint y ++ rest) (hy : y < 128) :
    k < l.length ∧ (l.getD k 0).toNat = y := by
  rw [Lib.uvarint_small hy] at h
  have hk : k < l.length := by
    rcases Nat.lt_or_ge k l.length with hk | hk
    · exact hk
    · rw [List.drop_eq_nil_of_le hk] at h; simp at h
  refine ⟨hk, ?_⟩
  rw [List.drop_eq_getElem_cons hk] at h
  have h1 := (List.cons.inj h).1
  have h2 : l.getD k 0 = l[k] := by simp [List.getD, hk]
  rw [h2, h1, Lib.toUInt8_toNat (by omega)]

theorem drop_head_big {l rest : List UInt8} {k y : Nat} (h : l.drop k = Lib.uvarint y ++ rest) (hy : 128 ≤ y) :
    k < l.length ∧ (l.getD k 0).toNat = y % 128 + 128 ∧ l.drop (k + 1) = Lib.uvarint (y / 128) ++ rest := by
  rw [Lib.uvarint_big hy] at h
  have hk : k < l.length := by
    rcases Nat.lt_or_ge k l.length with hk | hk
    · exact hk
    · rw [List.drop_eq_nil_of_le hk] at h; simp at h
  rw [List.drop_eq_getElem_cons hk] at h
  have h1 := (List.cons.inj h).1
  have h2 : l.getD k 0 = l[k] := by simp [List.getD, hk]
  exact ⟨hk, by rw [h2, h1, Lib.toUInt8_toNat (by omega)], (List.cons.inj h).2⟩

theorem len_at_small {v k y : Nat} (h : (Lib.uvarint v).length = k + (Lib.uvarint y).length) (hy : y < 128) : (Lib.uvarint v).length = k + 1 := by
  rw [h, Lib.uvarint_small hy]; rfl

theorem len_at_big {v k y : Nat} (h : (Lib.uvarint v).length = k + (Lib.uvarint y).length) (hy : 128 ≤ y) : (Lib.uvarint v).length = k + 1 + (Lib.uvarint (y / 128)).length := by
  rw [h, Lib.uvarint_big hy, List.length_cons]; omega

set_option maxHeartbeats 32000000 in
set_option maxRecDepth 100000 in
/-- readVarint: on bytes that begin with v's varint: v, its length, true. -/
theorem readVarint_at (v : Nat) (rest l : List UInt8) (a : Option Addr) (c : Nat) (w : World) (hv64 : v < 18446744073709551616) (hl : l = Lib.uvarint v ++ rest) (hs : Bs w a l) (hlen : l.length ≤ 1152921504606846976) :
    Calls Try.prog 10 #[.slice a l.length c] w fun e w' => e = .returned (.tuple #[.int .u64 v, .int .i64 ((Lib.uvarint v).length : Nat), .bool true]) ∧ w = w' := by
  have hvp := Lib.uvarint_pos v
  have hl0 := congrArg List.length hl
  rw [List.length_append] at hl0
  rcases hs.ways with hz | ⟨b, off, rfl, hbl, hcell⟩
  · exfalso; omega
  clear hs
  go_enter Try.func10, Try.ntmps10
  go_wp2_with fail
  go_loop [5, 6, 7] (fun vx vs vi => ∃ k acc y : Nat, vi = .int .i64 k ∧ vs = .int .u64 ((7 * k : Nat) : Int) ∧ vx = .int .u64 acc ∧ k ≤ 9 ∧ acc < 2 ^ (7 * k) ∧ v = acc + y * 2 ^ (7 * k) ∧ l.drop k = Lib.uvarint y ++ rest ∧ (Lib.uvarint v).length = k + (Lib.uvarint y).length ∧ (0 < k → 0 < y))
    (fun _ _ vi => 20 - (intOf vi).toNat)
  case atStart => exact ⟨0, 0, v, rfl, rfl, rfl, by omega, by decide, by simp, hl, by omega, fun h => by omega⟩
  case round =>
    obtain ⟨k, acc, y, rfl, rfl, rfl, hk9, hacc, hval, hdrop, hlv, hpos⟩ := hrel
    clear hl hl0
    have hks : k = 0 ∨ k = 1 ∨ k = 2 ∨ k = 3 ∨ k = 4 ∨ k = 5 ∨ k = 6 ∨ k = 7 ∨ k = 8 ∨ k = 9 := by omega
    rcases hks with rfl | rfl | rfl | rfl | rfl | rfl | rfl | rfl | rfl | rfl
    · obtain rfl : acc = 0 := by simpa using hacc
      have hval' : v = y := by simpa using hval
      by_cases hy : y < 128
      · obtain ⟨hkl, hb⟩ := drop_head_small hdrop hy
        have hc := hcell 0 hkl
        have hlk := len_at_small hlv hy
        rw [hb] at hc
        have hc : w.cell? ⟨b, off, none⟩ = some (.int .u8 (y : Int)) := hc
        have hor : bits .or .u64 0 (IntKind.u64.wrap (IntKind.u64.wrap (bits .and .u8 (y : Int) 127))) = (v : Int) := by
          simp (disch := omega) only [u8_and127, u64_wrap_id, u64_orv0]
          omega
        clear hcell hdrop hlv hb hval hpos hval'
        go_wp2_with fail
        go_ret3
        exact ⟨by first | rfl | (rw [hlk]; rfl), rfl⟩
      · obtain ⟨hkl, hb, hdrop2⟩ := drop_head_big hdrop (by omega)
        have hc := hcell 0 hkl
        have hlv2 := len_at_big hlv (by omega)
        rw [hb] at hc
        have hc : w.cell? ⟨b, off, none⟩ = some (.int .u8 ((y % 128 + 128 : Nat) : Int)) := hc
        obtain ⟨z, hz⟩ : ∃ z, z = y % 128 + 128 := ⟨_, rfl⟩
        rw [← hz] at hc
        have hz1 : 128 ≤ z := by omega
        have hz2 : z < 256 := by omega
        have hv : bits .or .u64 0 (IntKind.u64.wrap (IntKind.u64.wrap (bits .and .u8 (z : Int) 127))) = ((0 + y % 128 : Nat) : Int) := by
          simp (disch := omega) only [u8_and127, u64_wrap_id, u64_orv0]
          omega
        obtain ⟨acc2, hacc2⟩ : ∃ t, t = 0 + y % 128 := ⟨_, rfl⟩
        rw [← hacc2] at hv
        have q1 : v ≤ 0 + y := by omega
        have q2 : 0 + y ≤ v := by omega
        have q3 : acc2 ≤ 0 + y % 128 := Nat.le_of_eq hacc2
        have q4 : 0 + y % 128 ≤ acc2 := Nat.le_of_eq hacc2.symm
        clear hcell hlv hb hval hdrop hpos hz hval' hacc2
        go_wp2_with fail
        go_round
        case rel => exact ⟨1, acc2, y / 128, rfl, rfl, rfl, by omega, (by show acc2 < 2 ^ 7; have e2 : (2 : Nat) ^ 7 = 128 := (by decide); omega), (by show v = acc2 + y / 128 * 2 ^ 7; have e2 : (2 : Nat) ^ 7 = 128 := (by decide); rw [e2]; omega), hdrop2, hlv2, fun _ => by omega⟩
        case measure => simp [intOf]
    · have e7 : (2 : Nat) ^ (7 * 1) = 128 := by decide
      have hacc' : acc < 128 := by rw [e7] at hacc; exact hacc
      have hval' : v = acc + y * 128 := by rw [e7] at hval; exact hval
      clear e7
      have hy0 : 0 < y := hpos (by decide)
      by_cases hy : y < 128
      · obtain ⟨hkl, hb⟩ := drop_head_small hdrop hy
        have hc := hcell 1 hkl
        have hlk := len_at_small hlv hy
        rw [hb] at hc
        have hor : bits .or .u64 (acc : Int) (IntKind.u64.wrap (IntKind.u64.wrap (bits .and .u8 (y : Int) 127) * 128)) = (v : Int) := by
          simp (disch := omega) only [u8_and127, u64_wrap_id, u64_orv7]
          omega
        have hyz : ((y : Int) == 0) = false := beq_eq_false_iff_ne.2 (by omega)
        clear hcell hdrop hlv hb hval hpos hval'
        go_wp2_with fail
        go_ret3
        exact ⟨by first | rfl | (rw [hlk]; rfl), rfl⟩
      · obtain ⟨hkl, hb, hdrop2⟩ := drop_head_big hdrop (by omega)
        have hc := hcell 1 hkl
        have hlv2 := len_at_big hlv (by omega)
        rw [hb] at hc
        obtain ⟨z, hz⟩ : ∃ z, z = y % 128 + 128 := ⟨_, rfl⟩
        rw [← hz] at hc
        have hz1 : 128 ≤ z := by omega
        have hz2 : z < 256 := by omega
        have hv : bits .or .u64 (acc : Int) (IntKind.u64.wrap (IntKind.u64.wrap (bits .and .u8 (z : Int) 127) * 128)) = ((acc + y % 128 * 128 : Nat) : Int) := by
          simp (disch := omega) only [u8_and127, u64_wrap_id, u64_orv7]
          omega
        obtain ⟨acc2, hacc2⟩ : ∃ t, t = acc + y % 128 * 128 := ⟨_, rfl⟩
        rw [← hacc2] at hv
        have q1 : v ≤ acc + y * 128 := by omega
        have q2 : acc + y * 128 ≤ v := by omega
        have q3 : acc2 ≤ acc + y % 128 * 128 := Nat.le_of_eq hacc2
        have q4 : acc + y % 128 * 128 ≤ acc2 := Nat.le_of_eq hacc2.symm
        clear hcell hlv hb hval hdrop hpos hz hval' hacc2
        go_wp2_with fail
        go_round
        case rel => exact ⟨2, acc2, y / 128, rfl, rfl, rfl, by omega, (by show acc2 < 2 ^ 14; have e2 : (2 : Nat) ^ 14 = 16384 := (by decide); omega), (by show v = acc2 + y / 128 * 2 ^ 14; have e2 : (2 : Nat) ^ 14 = 16384 := (by decide); rw [e2]; omega), hdrop2, hlv2, fun _ => by omega⟩
        case measure => simp [intOf]
    · have e7 : (2 : Nat) ^ (7 * 2) = 16384 := by decide
      have hacc' : acc < 16384 := by rw [e7] at hacc; exact hacc
      have hval' : v = acc + y * 16384 := by rw [e7] at hval; exact hval
      clear e7
      have hy0 : 0 < y := hpos (by decide)
      by_cases hy : y < 128
      · obtain ⟨hkl, hb⟩ := drop_head_small hdrop hy
        have hc := hcell 2 hkl
        have hlk := len_at_small hlv hy
        rw [hb] at hc
        have hor : bits .or .u64 (acc : Int) (IntKind.u64.wrap (IntKind.u64.wrap (bits .and .u8 (y : Int) 127) * 16384)) = (v : Int) := by
          simp (disch := omega) only [u8_and127, u64_wrap_id, u64_orv14]
          omega
        have hyz : ((y : Int) == 0) = false := beq_eq_false_iff_ne.2 (by omega)
        clear hcell hdrop hlv hb hval hpos hval'
        go_wp2_with fail
        go_ret3
        exact ⟨by first | rfl | (rw [hlk]; rfl), rfl⟩
      · obtain ⟨hkl, hb, hdrop2⟩ := drop_head_big hdrop (by omega)
        have hc := hcell 2 hkl
        have hlv2 := len_at_big hlv (by omega)
        rw [hb] at hc
        obtain ⟨z, hz⟩ : ∃ z, z = y % 128 + 128 := ⟨_, rfl⟩
        rw [← hz] at hc
        have hz1 : 128 ≤ z := by omega
        have hz2 : z < 256 := by omega
        have hv : bits .or .u64 (acc : Int) (IntKind.u64.wrap (IntKind.u64.wrap (bits .and .u8 (z : Int) 127) * 16384)) = ((acc + y % 128 * 16384 : Nat) : Int) := by
          simp (disch := omega) only [u8_and127, u64_wrap_id, u64_orv14]
          omega
        obtain ⟨acc2, hacc2⟩ : ∃ t, t = acc + y % 128 * 16384 := ⟨_, rfl⟩
        rw [← hacc2] at hv
        have q1 : v ≤ acc + y * 16384 := by omega
        have q2 : acc + y * 16384 ≤ v := by omega
        have q3 : acc2 ≤ acc + y % 128 * 16384 := Nat.le_of_eq hacc2
        have q4 : acc + y % 128 * 16384 ≤ acc2 := Nat.le_of_eq hacc2.symm
        clear hcell hlv hb hval hdrop hpos hz hval' hacc2
        go_wp2_with fail
        go_round
        case rel => exact ⟨3, acc2, y / 128, rfl, rfl, rfl, by omega, (by show acc2 < 2 ^ 21; have e2 : (2 : Nat) ^ 21 = 2097152 := (by decide); omega), (by show v = acc2 + y / 128 * 2 ^ 21; have e2 : (2 : Nat) ^ 21 = 2097152 := (by decide); rw [e2]; omega), hdrop2, hlv2, fun _ => by omega⟩
        case measure => simp [intOf]
    · have e7 : (2 : Nat) ^ (7 * 3) = 2097152 := by decide
      have hacc' : acc < 2097152 := by rw [e7] at hacc; exact hacc
      have hval' : v = acc + y * 2097152 := by rw [e7] at hval; exact hval
      clear e7
      have hy0 : 0 < y := hpos (by decide)
      by_cases hy : y < 128
      · obtain ⟨hkl, hb⟩ := drop_head_small hdrop hy
        have hc := hcell 3 hkl
        have hlk := len_at_small hlv hy
        rw [hb] at hc
        have hor : bits .or .u64 (acc : Int) (IntKind.u64.wrap (IntKind.u64.wrap (bits .and .u8 (y : Int) 127) * 2097152)) = (v : Int) := by
          simp (disch := omega) only [u8_and127, u64_wrap_id, u64_orv21]
          omega
        have hyz : ((y : Int) == 0) = false := beq_eq_false_iff_ne.2 (by omega)
        clear hcell hdrop hlv hb hval hpos hval'
        go_wp2_with fail
        go_ret3
        exact ⟨by first | rfl | (rw [hlk]; rfl), rfl⟩
      · obtain ⟨hkl, hb, hdrop2⟩ := drop_head_big hdrop (by omega)
        have hc := hcell 3 hkl
        have hlv2 := len_at_big hlv (by omega)
        rw [hb] at hc
        obtain ⟨z, hz⟩ : ∃ z, z = y % 128 + 128 := ⟨_, rfl⟩
        rw [← hz] at hc
        have hz1 : 128 ≤ z := by omega
        have hz2 : z < 256 := by omega
        have hv : bits .or .u64 (acc : Int) (IntKind.u64.wrap (IntKind.u64.wrap (bits .and .u8 (z : Int) 127) * 2097152)) = ((acc + y % 128 * 2097152 : Nat) : Int) := by
          simp (disch := omega) only [u8_and127, u64_wrap_id, u64_orv21]
          omega
        obtain ⟨acc2, hacc2⟩ : ∃ t, t = acc + y % 128 * 2097152 := ⟨_, rfl⟩
        rw [← hacc2] at hv
        have q1 : v ≤ acc + y * 2097152 := by omega
        have q2 : acc + y * 2097152 ≤ v := by omega
        have q3 : acc2 ≤ acc + y % 128 * 2097152 := Nat.le_of_eq hacc2
        have q4 : acc + y % 128 * 2097152 ≤ acc2 := Nat.le_of_eq hacc2.symm
        clear hcell hlv hb hval hdrop hpos hz hval' hacc2
        go_wp2_with fail
        go_round
        case rel => exact ⟨4, acc2, y / 128, rfl, rfl, rfl, by omega, (by show acc2 < 2 ^ 28; have e2 : (2 : Nat) ^ 28 = 268435456 := (by decide); omega), (by show v = acc2 + y / 128 * 2 ^ 28; have e2 : (2 : Nat) ^ 28 = 268435456 := (by decide); rw [e2]; omega), hdrop2, hlv2, fun _ => by omega⟩
        case measure => simp [intOf]
    · have e7 : (2 : Nat) ^ (7 * 4) = 268435456 := by decide
      have hacc' : acc < 268435456 := by rw [e7] at hacc; exact hacc
      have hval' : v = acc + y * 268435456 := by rw [e7] at hval; exact hval
      clear e7
      have hy0 : 0 < y := hpos (by decide)
      by_cases hy : y < 128
      · obtain ⟨hkl, hb⟩ := drop_head_small hdrop hy
        have hc := hcell 4 hkl
        have hlk := len_at_small hlv hy
        rw [hb] at hc
        have hor : bits .or .u64 (acc : Int) (IntKind.u64.wrap (IntKind.u64.wrap (bits .and .u8 (y : Int) 127) * 268435456)) = (v : Int) := by
          simp (disch := omega) only [u8_and127, u64_wrap_id, u64_orv28]
          omega
        have hyz : ((y : Int) == 0) = false := beq_eq_false_iff_ne.2 (by omega)
        clear hcell hdrop hlv hb hval hpos hval'
        go_wp2_with fail
        go_ret3
        exact ⟨by first | rfl | (rw [hlk]; rfl), rfl⟩
      · obtain ⟨hkl, hb, hdrop2⟩ := drop_head_big hdrop (by omega)
        have hc := hcell 4 hkl
        have hlv2 := len_at_big hlv (by omega)
        rw [hb] at hc
        obtain ⟨z, hz⟩ : ∃ z, z = y % 128 + 128 := ⟨_, rfl⟩
        rw [← hz] at hc
        have hz1 : 128 ≤ z := by omega
        have hz2 : z < 256 := by omega
        have hv : bits .or .u64 (acc : Int) (IntKind.u64.wrap (IntKind.u64.wrap (bits .and .u8 (z : Int) 127) * 268435456)) = ((acc + y % 128 * 268435456 : Nat) : Int) := by
          simp (disch := omega) only [u8_and127, u64_wrap_id, u64_orv28]
          omega
        obtain ⟨acc2, hacc2⟩ : ∃ t, t = acc + y % 128 * 268435456 := ⟨_, rfl⟩
        rw [← hacc2] at hv
        have q1 : v ≤ acc + y * 268435456 := by omega
        have q2 : acc + y * 268435456 ≤ v := by omega
        have q3 : acc2 ≤ acc + y % 128 * 268435456 := Nat.le_of_eq hacc2
        have q4 : acc + y % 128 * 268435456 ≤ acc2 := Nat.le_of_eq hacc2.symm
        clear hcell hlv hb hval hdrop hpos hz hval' hacc2
        go_wp2_with fail
        go_round
        case rel => exact ⟨5, acc2, y / 128, rfl, rfl, rfl, by omega, (by show acc2 < 2 ^ 35; have e2 : (2 : Nat) ^ 35 = 34359738368 := (by decide); omega), (by show v = acc2 + y / 128 * 2 ^ 35; have e2 : (2 : Nat) ^ 35 = 34359738368 := (by decide); rw [e2]; omega), hdrop2, hlv2, fun _ => by omega⟩
        case measure => simp [intOf]
    · have e7 : (2 : Nat) ^ (7 * 5) = 34359738368 := by decide
      have hacc' : acc < 34359738368 := by rw [e7] at hacc; exact hacc
      have hval' : v = acc + y * 34359738368 := by rw [e7] at hval; exact hval
      clear e7
      have hy0 : 0 < y := hpos (by decide)
      by_cases hy : y < 128
      · obtain ⟨hkl, hb⟩ := drop_head_small hdrop hy
        have hc := hcell 5 hkl
        have hlk := len_at_small hlv hy
        rw [hb] at hc
        have hor : bits .or .u64 (acc : Int) (IntKind.u64.wrap (IntKind.u64.wrap (bits .and .u8 (y : Int) 127) * 34359738368)) = (v : Int) := by
          simp (disch := omega) only [u8_and127, u64_wrap_id, u64_orv35]
          omega
        have hyz : ((y : Int) == 0) = false := beq_eq_false_iff_ne.2 (by omega)
        clear hcell hdrop hlv hb hval hpos hval'
        go_wp2_with fail
        go_ret3
        exact ⟨by first | rfl | (rw [hlk]; rfl), rfl⟩
      · obtain ⟨hkl, hb, hdrop2⟩ := drop_head_big hdrop (by omega)
        have hc := hcell 5 hkl
        have hlv2 := len_at_big hlv (by omega)
        rw [hb] at hc
        obtain ⟨z, hz⟩ : ∃ z, z = y % 128 + 128 := ⟨_, rfl⟩
        rw [← hz] at hc
        have hz1 : 128 ≤ z := by omega
        have hz2 : z < 256 := by omega
        have hv : bits .or .u64 (acc : Int) (IntKind.u64.wrap (IntKind.u64.wrap (bits .and .u8 (z : Int) 127) * 34359738368)) = ((acc + y % 128 * 34359738368 : Nat) : Int) := by
          simp (disch := omega) only [u8_and127, u64_wrap_id, u64_orv35]
          omega
        obtain ⟨acc2, hacc2⟩ : ∃ t, t = acc + y % 128 * 34359738368 := ⟨_, rfl⟩
        rw [← hacc2] at hv
        have q1 : v ≤ acc + y * 34359738368 := by omega
        have q2 : acc + y * 34359738368 ≤ v := by omega
        have q3 : acc2 ≤ acc + y % 128 * 34359738368 := Nat.le_of_eq hacc2
        have q4 : acc + y % 128 * 34359738368 ≤ acc2 := Nat.le_of_eq hacc2.symm
        clear hcell hlv hb hval hdrop hpos hz hval' hacc2
        go_wp2_with fail
        go_round
        case rel => exact ⟨6, acc2, y / 128, rfl, rfl, rfl, by omega, (by show acc2 < 2 ^ 42; have e2 : (2 : Nat) ^ 42 = 4398046511104 := (by decide); omega), (by show v = acc2 + y / 128 * 2 ^ 42; have e2 : (2 : Nat) ^ 42 = 4398046511104 := (by decide); rw [e2]; omega), hdrop2, hlv2, fun _ => by omega⟩
        case measure => simp [intOf]
    · have e7 : (2 : Nat) ^ (7 * 6) = 4398046511104 := by decide
      have hacc' : acc < 4398046511104 := by rw [e7] at hacc; exact hacc
      have hval' : v = acc + y * 4398046511104 := by rw [e7] at hval; exact hval
      clear e7
      have hy0 : 0 < y := hpos (by decide)
      by_cases hy : y < 128
      · obtain ⟨hkl, hb⟩ := drop_head_small hdrop hy
        have hc := hcell 6 hkl
        have hlk := len_at_small hlv hy
        rw [hb] at hc
        have hor : bits .or .u64 (acc : Int) (IntKind.u64.wrap (IntKind.u64.wrap (bits .and .u8 (y : Int) 127) * 4398046511104)) = (v : Int) := by
          simp (disch := omega) only [u8_and127, u64_wrap_id, u64_orv42]
          omega
        have hyz : ((y : Int) == 0) = false := beq_eq_false_iff_ne.2 (by omega)
        clear hcell hdrop hlv hb hval hpos hval'
        go_wp2_with fail
        go_ret3
        exact ⟨by first | rfl | (rw [hlk]; rfl), rfl⟩
      · obtain ⟨hkl, hb, hdrop2⟩ := drop_head_big hdrop (by omega)
        have hc := hcell 6 hkl
        have hlv2 := len_at_big hlv (by omega)
        rw [hb] at hc
        obtain ⟨z, hz⟩ : ∃ z, z = y % 128 + 128 := ⟨_, rfl⟩
        rw [← hz] at hc
        have hz1 : 128 ≤ z := by omega
        have hz2 : z < 256 := by omega
        have hv : bits .or .u64 (acc : Int) (IntKind.u64.wrap (IntKind.u64.wrap (bits .and .u8 (z : Int) 127) * 4398046511104)) = ((acc + y % 128 * 4398046511104 : Nat) : Int) := by
          simp (disch := omega) only [u8_and127, u64_wrap_id, u64_orv42]
          omega
        obtain ⟨acc2, hacc2⟩ : ∃ t, t = acc + y % 128 * 4398046511104 := ⟨_, rfl⟩
        rw [← hacc2] at hv
        have q1 : v ≤ acc + y * 4398046511104 := by omega
        have q2 : acc + y * 4398046511104 ≤ v := by omega
        have q3 : acc2 ≤ acc + y % 128 * 4398046511104 := Nat.le_of_eq hacc2
        have q4 : acc + y % 128 * 4398046511104 ≤ acc2 := Nat.le_of_eq hacc2.symm
        clear hcell hlv hb hval hdrop hpos hz hval' hacc2
        go_wp2_with fail
        go_round
        case rel => exact ⟨7, acc2, y / 128, rfl, rfl, rfl, by omega, (by show acc2 < 2 ^ 49; have e2 : (2 : Nat) ^ 49 = 562949953421312 := (by decide); omega), (by show v = acc2 + y / 128 * 2 ^ 49; have e2 : (2 : Nat) ^ 49 = 562949953421312 := (by decide); rw [e2]; omega), hdrop2, hlv2, fun _ => by omega⟩
        case measure => simp [intOf]
    · have e7 : (2 : Nat) ^ (7 * 7) = 562949953421312 := by decide
      have hacc' : acc < 562949953421312 := by rw [e7] at hacc; exact hacc
      have hval' : v = acc + y * 562949953421312 := by rw [e7] at hval; exact hval
      clear e7
      have hy0 : 0 < y := hpos (by decide)
      by_cases hy : y < 128
      · obtain ⟨hkl, hb⟩ := drop_head_small hdrop hy
        have hc := hcell 7 hkl
        have hlk := len_at_small hlv hy
        rw [hb] at hc
        have hor : bits .or .u64 (acc : Int) (IntKind.u64.wrap (IntKind.u64.wrap (bits .and .u8 (y : Int) 127) * 562949953421312)) = (v : Int) := by
          simp (disch := omega) only [u8_and127, u64_wrap_id, u64_orv49]
          omega
        have hyz : ((y : Int) == 0) = false := beq_eq_false_iff_ne.2 (by omega)
        clear hcell hdrop hlv hb hval hpos hval'
        go_wp2_with fail
        go_ret3
        exact ⟨by first | rfl | (rw [hlk]; rfl), rfl⟩
      · obtain ⟨hkl, hb, hdrop2⟩ := drop_head_big hdrop (by omega)
        have hc := hcell 7 hkl
        have hlv2 := len_at_big hlv (by omega)
        rw [hb] at hc
        obtain ⟨z, hz⟩ : ∃ z, z = y % 128 + 128 := ⟨_, rfl⟩
        rw [← hz] at hc
        have hz1 : 128 ≤ z := by omega
        have hz2 : z < 256 := by omega
        have hv : bits .or .u64 (acc : Int) (IntKind.u64.wrap (IntKind.u64.wrap (bits .and .u8 (z : Int) 127) * 562949953421312)) = ((acc + y % 128 * 562949953421312 : Nat) : Int) := by
          simp (disch := omega) only [u8_and127, u64_wrap_id, u64_orv49]
          omega
        obtain ⟨acc2, hacc2⟩ : ∃ t, t = acc + y % 128 * 562949953421312 := ⟨_, rfl⟩
        rw [← hacc2] at hv
        have q1 : v ≤ acc + y * 562949953421312 := by omega
        have q2 : acc + y * 562949953421312 ≤ v := by omega
        have q3 : acc2 ≤ acc + y % 128 * 562949953421312 := Nat.le_of_eq hacc2
        have q4 : acc + y % 128 * 562949953421312 ≤ acc2 := Nat.le_of_eq hacc2.symm
        clear hcell hlv hb hval hdrop hpos hz hval' hacc2
        go_wp2_with fail
        go_round
        case rel => exact ⟨8, acc2, y / 128, rfl, rfl, rfl, by omega, (by show acc2 < 2 ^ 56; have e2 : (2 : Nat) ^ 56 = 72057594037927936 := (by decide); omega), (by show v = acc2 + y / 128 * 2 ^ 56; have e2 : (2 : Nat) ^ 56 = 72057594037927936 := (by decide); rw [e2]; omega), hdrop2, hlv2, fun _ => by omega⟩
        case measure => simp [intOf]
    · have e7 : (2 : Nat) ^ (7 * 8) = 72057594037927936 := by decide
      have hacc' : acc < 72057594037927936 := by rw [e7] at hacc; exact hacc
      have hval' : v = acc + y * 72057594037927936 := by rw [e7] at hval; exact hval
      clear e7
      have hy0 : 0 < y := hpos (by decide)
      by_cases hy : y < 128
      · obtain ⟨hkl, hb⟩ := drop_head_small hdrop hy
        have hc := hcell 8 hkl
        have hlk := len_at_small hlv hy
        rw [hb] at hc
        have hor : bits .or .u64 (acc : Int) (IntKind.u64.wrap (IntKind.u64.wrap (bits .and .u8 (y : Int) 127) * 72057594037927936)) = (v : Int) := by
          simp (disch := omega) only [u8_and127, u64_wrap_id, u64_orv56]
          omega
        have hyz : ((y : Int) == 0) = false := beq_eq_false_iff_ne.2 (by omega)
        clear hcell hdrop hlv hb hval hpos hval'
        go_wp2_with fail
        go_ret3
        exact ⟨by first | rfl | (rw [hlk]; rfl), rfl⟩
      · obtain ⟨hkl, hb, hdrop2⟩ := drop_head_big hdrop (by omega)
        have hc := hcell 8 hkl
        have hlv2 := len_at_big hlv (by omega)
        rw [hb] at hc
        obtain ⟨z, hz⟩ : ∃ z, z = y % 128 + 128 := ⟨_, rfl⟩
        rw [← hz] at hc
        have hz1 : 128 ≤ z := by omega
        have hz2 : z < 256 := by omega
        have hv : bits .or .u64 (acc : Int) (IntKind.u64.wrap (IntKind.u64.wrap (bits .and .u8 (z : Int) 127) * 72057594037927936)) = ((acc + y % 128 * 72057594037927936 : Nat) : Int) := by
          simp (disch := omega) only [u8_and127, u64_wrap_id, u64_orv56]
          omega
        obtain ⟨acc2, hacc2⟩ : ∃ t, t = acc + y % 128 * 72057594037927936 := ⟨_, rfl⟩
        rw [← hacc2] at hv
        have q1 : v ≤ acc + y * 72057594037927936 := by omega
        have q2 : acc + y * 72057594037927936 ≤ v := by omega
        have q3 : acc2 ≤ acc + y % 128 * 72057594037927936 := Nat.le_of_eq hacc2
        have q4 : acc + y % 128 * 72057594037927936 ≤ acc2 := Nat.le_of_eq hacc2.symm
        clear hcell hlv hb hval hdrop hpos hz hval' hacc2
        go_wp2_with fail
        go_round
        case rel => exact ⟨9, acc2, y / 128, rfl, rfl, rfl, by omega, (by show acc2 < 2 ^ 63; have e2 : (2 : Nat) ^ 63 = 9223372036854775808 := (by decide); omega), (by show v = acc2 + y / 128 * 2 ^ 63; have e2 : (2 : Nat) ^ 63 = 9223372036854775808 := (by decide); rw [e2]; omega), hdrop2, hlv2, fun _ => by omega⟩
        case measure => simp [intOf]
    · have e7 : (2 : Nat) ^ (7 * 9) = 9223372036854775808 := by decide
      have hacc' : acc < 9223372036854775808 := by rw [e7] at hacc; exact hacc
      have hval' : v = acc + y * 9223372036854775808 := by rw [e7] at hval; exact hval
      clear e7
      have hy0 : 0 < y := hpos (by decide)
      by_cases hy : y < 128
      · obtain ⟨hkl, hb⟩ := drop_head_small hdrop hy
        have hc := hcell 9 hkl
        have hlk := len_at_small hlv hy
        rw [hb] at hc
        have hor : bits .or .u64 (acc : Int) (IntKind.u64.wrap (IntKind.u64.wrap (bits .and .u8 (y : Int) 127) * 9223372036854775808)) = (v : Int) := by
          simp (disch := omega) only [u8_and127, u64_wrap_id, u64_orv63]
          omega
        have hy1 : ¬ (1 : Int) < (y : Int) := by omega
        have hyz : ((y : Int) == 0) = false := beq_eq_false_iff_ne.2 (by omega)
        clear hcell hdrop hlv hb hval hpos hval'
        go_wp2_with fail
        go_ret3
        exact ⟨by first | rfl | (rw [hlk]; rfl), rfl⟩
      · exfalso; omega
end Go.Proofs.Qxb6627196a
