/- whiteWidthAt: the walk, way by way. -/
import Derived.Test.Qxb6626914aDoorBase
namespace Go.Proofs.Qxb6626914aDoor
open Go.RowKit Go.Lib
set_option linter.unusedVariables false
set_option linter.unusedSimpArgs false

/-- A number's test that says no, in the walk's own form. -/
theorem no_of {c : UInt8} {k : Nat} (h : ¬ c.toNat = k) : ((c.toNat : Int) == (k : Int)) = false := by
  rw [beq_eq_false_iff_ne]; omega

set_option maxRecDepth 100000 in
theorem w1_32 (s : ByteArray) (i : Nat) (c : UInt8) (w : World) (hm : s.size ≤ 1048577) (h : i + 1 = s.size) (hc : s[i] = c) (ck : (c.toNat : Int) = 32) :
    Calls Tryd.prog 12 #[.string s, .int .i64 i] w fun e' w' => e' = .returned (.int .i64 1) ∧ w = w' := by
  go_enter Tryd.func12, Tryd.ntmps12
  go_wp2
  go_ret
  exact ⟨rfl, rfl⟩

set_option maxRecDepth 100000 in
theorem w1_9 (s : ByteArray) (i : Nat) (c : UInt8) (w : World) (hm : s.size ≤ 1048577) (h : i + 1 = s.size) (hc : s[i] = c) (ck : (c.toNat : Int) = 9) :
    Calls Tryd.prog 12 #[.string s, .int .i64 i] w fun e' w' => e' = .returned (.int .i64 1) ∧ w = w' := by
  go_enter Tryd.func12, Tryd.ntmps12
  go_wp2
  go_ret
  exact ⟨rfl, rfl⟩

set_option maxRecDepth 100000 in
theorem w1_10 (s : ByteArray) (i : Nat) (c : UInt8) (w : World) (hm : s.size ≤ 1048577) (h : i + 1 = s.size) (hc : s[i] = c) (ck : (c.toNat : Int) = 10) :
    Calls Tryd.prog 12 #[.string s, .int .i64 i] w fun e' w' => e' = .returned (.int .i64 1) ∧ w = w' := by
  go_enter Tryd.func12, Tryd.ntmps12
  go_wp2
  go_ret
  exact ⟨rfl, rfl⟩

set_option maxRecDepth 100000 in
theorem w1_11 (s : ByteArray) (i : Nat) (c : UInt8) (w : World) (hm : s.size ≤ 1048577) (h : i + 1 = s.size) (hc : s[i] = c) (ck : (c.toNat : Int) = 11) :
    Calls Tryd.prog 12 #[.string s, .int .i64 i] w fun e' w' => e' = .returned (.int .i64 1) ∧ w = w' := by
  go_enter Tryd.func12, Tryd.ntmps12
  go_wp2
  go_ret
  exact ⟨rfl, rfl⟩

set_option maxRecDepth 100000 in
theorem w1_12 (s : ByteArray) (i : Nat) (c : UInt8) (w : World) (hm : s.size ≤ 1048577) (h : i + 1 = s.size) (hc : s[i] = c) (ck : (c.toNat : Int) = 12) :
    Calls Tryd.prog 12 #[.string s, .int .i64 i] w fun e' w' => e' = .returned (.int .i64 1) ∧ w = w' := by
  go_enter Tryd.func12, Tryd.ntmps12
  go_wp2
  go_ret
  exact ⟨rfl, rfl⟩

set_option maxRecDepth 100000 in
theorem w1_13 (s : ByteArray) (i : Nat) (c : UInt8) (w : World) (hm : s.size ≤ 1048577) (h : i + 1 = s.size) (hc : s[i] = c) (ck : (c.toNat : Int) = 13) :
    Calls Tryd.prog 12 #[.string s, .int .i64 i] w fun e' w' => e' = .returned (.int .i64 1) ∧ w = w' := by
  go_enter Tryd.func12, Tryd.ntmps12
  go_wp2
  go_ret
  exact ⟨rfl, rfl⟩

set_option maxRecDepth 100000 in
theorem w2_32 (s : ByteArray) (i : Nat) (c d : UInt8) (w : World) (hm : s.size ≤ 1048577) (h : i + 2 = s.size) (hc : s[i] = c) (hd : s[i + 1] = d) (ck : (c.toNat : Int) = 32) :
    Calls Tryd.prog 12 #[.string s, .int .i64 i] w fun e' w' => e' = .returned (.int .i64 1) ∧ w = w' := by
  go_enter Tryd.func12, Tryd.ntmps12
  go_wp2
  go_ret
  exact ⟨rfl, rfl⟩

set_option maxRecDepth 100000 in
theorem w2_9 (s : ByteArray) (i : Nat) (c d : UInt8) (w : World) (hm : s.size ≤ 1048577) (h : i + 2 = s.size) (hc : s[i] = c) (hd : s[i + 1] = d) (ck : (c.toNat : Int) = 9) :
    Calls Tryd.prog 12 #[.string s, .int .i64 i] w fun e' w' => e' = .returned (.int .i64 1) ∧ w = w' := by
  go_enter Tryd.func12, Tryd.ntmps12
  go_wp2
  go_ret
  exact ⟨rfl, rfl⟩

set_option maxRecDepth 100000 in
theorem w2_10 (s : ByteArray) (i : Nat) (c d : UInt8) (w : World) (hm : s.size ≤ 1048577) (h : i + 2 = s.size) (hc : s[i] = c) (hd : s[i + 1] = d) (ck : (c.toNat : Int) = 10) :
    Calls Tryd.prog 12 #[.string s, .int .i64 i] w fun e' w' => e' = .returned (.int .i64 1) ∧ w = w' := by
  go_enter Tryd.func12, Tryd.ntmps12
  go_wp2
  go_ret
  exact ⟨rfl, rfl⟩

set_option maxRecDepth 100000 in
theorem w2_11 (s : ByteArray) (i : Nat) (c d : UInt8) (w : World) (hm : s.size ≤ 1048577) (h : i + 2 = s.size) (hc : s[i] = c) (hd : s[i + 1] = d) (ck : (c.toNat : Int) = 11) :
    Calls Tryd.prog 12 #[.string s, .int .i64 i] w fun e' w' => e' = .returned (.int .i64 1) ∧ w = w' := by
  go_enter Tryd.func12, Tryd.ntmps12
  go_wp2
  go_ret
  exact ⟨rfl, rfl⟩

set_option maxRecDepth 100000 in
theorem w2_12 (s : ByteArray) (i : Nat) (c d : UInt8) (w : World) (hm : s.size ≤ 1048577) (h : i + 2 = s.size) (hc : s[i] = c) (hd : s[i + 1] = d) (ck : (c.toNat : Int) = 12) :
    Calls Tryd.prog 12 #[.string s, .int .i64 i] w fun e' w' => e' = .returned (.int .i64 1) ∧ w = w' := by
  go_enter Tryd.func12, Tryd.ntmps12
  go_wp2
  go_ret
  exact ⟨rfl, rfl⟩

set_option maxRecDepth 100000 in
theorem w2_13 (s : ByteArray) (i : Nat) (c d : UInt8) (w : World) (hm : s.size ≤ 1048577) (h : i + 2 = s.size) (hc : s[i] = c) (hd : s[i + 1] = d) (ck : (c.toNat : Int) = 13) :
    Calls Tryd.prog 12 #[.string s, .int .i64 i] w fun e' w' => e' = .returned (.int .i64 1) ∧ w = w' := by
  go_enter Tryd.func12, Tryd.ntmps12
  go_wp2
  go_ret
  exact ⟨rfl, rfl⟩

set_option maxRecDepth 100000 in
theorem w3_32 (s : ByteArray) (i : Nat) (c d e : UInt8) (w : World) (hm : s.size ≤ 1048577) (h : i + 2 < s.size) (hc : s[i] = c) (hd : s[i + 1] = d) (he : s[i + 2] = e) (ck : (c.toNat : Int) = 32) :
    Calls Tryd.prog 12 #[.string s, .int .i64 i] w fun e' w' => e' = .returned (.int .i64 1) ∧ w = w' := by
  go_enter Tryd.func12, Tryd.ntmps12
  go_wp2
  go_ret
  exact ⟨rfl, rfl⟩

set_option maxRecDepth 100000 in
theorem w3_9 (s : ByteArray) (i : Nat) (c d e : UInt8) (w : World) (hm : s.size ≤ 1048577) (h : i + 2 < s.size) (hc : s[i] = c) (hd : s[i + 1] = d) (he : s[i + 2] = e) (ck : (c.toNat : Int) = 9) :
    Calls Tryd.prog 12 #[.string s, .int .i64 i] w fun e' w' => e' = .returned (.int .i64 1) ∧ w = w' := by
  go_enter Tryd.func12, Tryd.ntmps12
  go_wp2
  go_ret
  exact ⟨rfl, rfl⟩

set_option maxRecDepth 100000 in
theorem w3_10 (s : ByteArray) (i : Nat) (c d e : UInt8) (w : World) (hm : s.size ≤ 1048577) (h : i + 2 < s.size) (hc : s[i] = c) (hd : s[i + 1] = d) (he : s[i + 2] = e) (ck : (c.toNat : Int) = 10) :
    Calls Tryd.prog 12 #[.string s, .int .i64 i] w fun e' w' => e' = .returned (.int .i64 1) ∧ w = w' := by
  go_enter Tryd.func12, Tryd.ntmps12
  go_wp2
  go_ret
  exact ⟨rfl, rfl⟩

set_option maxRecDepth 100000 in
theorem w3_11 (s : ByteArray) (i : Nat) (c d e : UInt8) (w : World) (hm : s.size ≤ 1048577) (h : i + 2 < s.size) (hc : s[i] = c) (hd : s[i + 1] = d) (he : s[i + 2] = e) (ck : (c.toNat : Int) = 11) :
    Calls Tryd.prog 12 #[.string s, .int .i64 i] w fun e' w' => e' = .returned (.int .i64 1) ∧ w = w' := by
  go_enter Tryd.func12, Tryd.ntmps12
  go_wp2
  go_ret
  exact ⟨rfl, rfl⟩

set_option maxRecDepth 100000 in
theorem w3_12 (s : ByteArray) (i : Nat) (c d e : UInt8) (w : World) (hm : s.size ≤ 1048577) (h : i + 2 < s.size) (hc : s[i] = c) (hd : s[i + 1] = d) (he : s[i + 2] = e) (ck : (c.toNat : Int) = 12) :
    Calls Tryd.prog 12 #[.string s, .int .i64 i] w fun e' w' => e' = .returned (.int .i64 1) ∧ w = w' := by
  go_enter Tryd.func12, Tryd.ntmps12
  go_wp2
  go_ret
  exact ⟨rfl, rfl⟩

set_option maxRecDepth 100000 in
theorem w3_13 (s : ByteArray) (i : Nat) (c d e : UInt8) (w : World) (hm : s.size ≤ 1048577) (h : i + 2 < s.size) (hc : s[i] = c) (hd : s[i + 1] = d) (he : s[i + 2] = e) (ck : (c.toNat : Int) = 13) :
    Calls Tryd.prog 12 #[.string s, .int .i64 i] w fun e' w' => e' = .returned (.int .i64 1) ∧ w = w' := by
  go_enter Tryd.func12, Tryd.ntmps12
  go_wp2
  go_ret
  exact ⟨rfl, rfl⟩

set_option maxRecDepth 100000 in
theorem w1_194 (s : ByteArray) (i : Nat) (c : UInt8) (w : World) (hm : s.size ≤ 1048577) (h : i + 1 = s.size) (hc : s[i] = c) (ck : (c.toNat : Int) = 194) :
    Calls Tryd.prog 12 #[.string s, .int .i64 i] w fun e' w' => e' = .returned (.int .i64 0) ∧ w = w' := by
  go_enter Tryd.func12, Tryd.ntmps12
  go_wp2
  go_ret
  exact ⟨rfl, rfl⟩

set_option maxRecDepth 100000 in
theorem w1_no (s : ByteArray) (i : Nat) (c : UInt8) (w : World) (hm : s.size ≤ 1048577) (h : i + 1 = s.size) (hc : s[i] = c) (cn32 : ((c.toNat : Int) == 32) = false) (cn9 : ((c.toNat : Int) == 9) = false) (cn10 : ((c.toNat : Int) == 10) = false) (cn11 : ((c.toNat : Int) == 11) = false) (cn12 : ((c.toNat : Int) == 12) = false) (cn13 : ((c.toNat : Int) == 13) = false) (cn194 : ((c.toNat : Int) == 194) = false) :
    Calls Tryd.prog 12 #[.string s, .int .i64 i] w fun e' w' => e' = .returned (.int .i64 0) ∧ w = w' := by
  go_enter Tryd.func12, Tryd.ntmps12
  go_wp2
  go_ret
  exact ⟨rfl, rfl⟩

set_option maxRecDepth 100000 in
theorem w2_194a (s : ByteArray) (i : Nat) (c d : UInt8) (w : World) (hm : s.size ≤ 1048577) (h : i + 2 = s.size) (hc : s[i] = c) (hd : s[i + 1] = d) (ck : (c.toNat : Int) = 194) (dk : (d.toNat : Int) = 133) :
    Calls Tryd.prog 12 #[.string s, .int .i64 i] w fun e' w' => e' = .returned (.int .i64 2) ∧ w = w' := by
  go_enter Tryd.func12, Tryd.ntmps12
  go_wp2
  go_ret
  exact ⟨rfl, rfl⟩

set_option maxRecDepth 100000 in
theorem w2_194b (s : ByteArray) (i : Nat) (c d : UInt8) (w : World) (hm : s.size ≤ 1048577) (h : i + 2 = s.size) (hc : s[i] = c) (hd : s[i + 1] = d) (ck : (c.toNat : Int) = 194) (dk : (d.toNat : Int) = 160) :
    Calls Tryd.prog 12 #[.string s, .int .i64 i] w fun e' w' => e' = .returned (.int .i64 2) ∧ w = w' := by
  go_enter Tryd.func12, Tryd.ntmps12
  go_wp2
  go_ret
  exact ⟨rfl, rfl⟩

set_option maxRecDepth 100000 in
theorem w2_194c (s : ByteArray) (i : Nat) (c d : UInt8) (w : World) (hm : s.size ≤ 1048577) (h : i + 2 = s.size) (hc : s[i] = c) (hd : s[i + 1] = d) (ck : (c.toNat : Int) = 194) (dn133 : ((d.toNat : Int) == 133) = false) (dn160 : ((d.toNat : Int) == 160) = false) :
    Calls Tryd.prog 12 #[.string s, .int .i64 i] w fun e' w' => e' = .returned (.int .i64 0) ∧ w = w' := by
  go_enter Tryd.func12, Tryd.ntmps12
  go_wp2
  go_ret
  exact ⟨rfl, rfl⟩

set_option maxRecDepth 100000 in
theorem w2_no (s : ByteArray) (i : Nat) (c d : UInt8) (w : World) (hm : s.size ≤ 1048577) (h : i + 2 = s.size) (hc : s[i] = c) (hd : s[i + 1] = d) (cn32 : ((c.toNat : Int) == 32) = false) (cn9 : ((c.toNat : Int) == 9) = false) (cn10 : ((c.toNat : Int) == 10) = false) (cn11 : ((c.toNat : Int) == 11) = false) (cn12 : ((c.toNat : Int) == 12) = false) (cn13 : ((c.toNat : Int) == 13) = false) (cn194 : ((c.toNat : Int) == 194) = false) :
    Calls Tryd.prog 12 #[.string s, .int .i64 i] w fun e' w' => e' = .returned (.int .i64 0) ∧ w = w' := by
  go_enter Tryd.func12, Tryd.ntmps12
  go_wp2
  go_ret
  exact ⟨rfl, rfl⟩

set_option maxRecDepth 100000 in
theorem w3_194a (s : ByteArray) (i : Nat) (c d e : UInt8) (w : World) (hm : s.size ≤ 1048577) (h : i + 2 < s.size) (hc : s[i] = c) (hd : s[i + 1] = d) (he : s[i + 2] = e) (ck : (c.toNat : Int) = 194) (dk : (d.toNat : Int) = 133) :
    Calls Tryd.prog 12 #[.string s, .int .i64 i] w fun e' w' => e' = .returned (.int .i64 2) ∧ w = w' := by
  go_enter Tryd.func12, Tryd.ntmps12
  go_wp2
  go_ret
  exact ⟨rfl, rfl⟩

set_option maxRecDepth 100000 in
theorem w3_194b (s : ByteArray) (i : Nat) (c d e : UInt8) (w : World) (hm : s.size ≤ 1048577) (h : i + 2 < s.size) (hc : s[i] = c) (hd : s[i + 1] = d) (he : s[i + 2] = e) (ck : (c.toNat : Int) = 194) (dk : (d.toNat : Int) = 160) :
    Calls Tryd.prog 12 #[.string s, .int .i64 i] w fun e' w' => e' = .returned (.int .i64 2) ∧ w = w' := by
  go_enter Tryd.func12, Tryd.ntmps12
  go_wp2
  go_ret
  exact ⟨rfl, rfl⟩

set_option maxRecDepth 100000 in
theorem w3_194c (s : ByteArray) (i : Nat) (c d e : UInt8) (w : World) (hm : s.size ≤ 1048577) (h : i + 2 < s.size) (hc : s[i] = c) (hd : s[i + 1] = d) (he : s[i + 2] = e) (ck : (c.toNat : Int) = 194) (dn133 : ((d.toNat : Int) == 133) = false) (dn160 : ((d.toNat : Int) == 160) = false) :
    Calls Tryd.prog 12 #[.string s, .int .i64 i] w fun e' w' => e' = .returned (.int .i64 0) ∧ w = w' := by
  go_enter Tryd.func12, Tryd.ntmps12
  go_wp2
  go_ret
  exact ⟨rfl, rfl⟩

set_option maxRecDepth 100000 in
theorem w3_225a (s : ByteArray) (i : Nat) (c d e : UInt8) (w : World) (hm : s.size ≤ 1048577) (h : i + 2 < s.size) (hc : s[i] = c) (hd : s[i + 1] = d) (he : s[i + 2] = e) (ck : (c.toNat : Int) = 225) (dk : (d.toNat : Int) = 154) (ek : (e.toNat : Int) = 128) :
    Calls Tryd.prog 12 #[.string s, .int .i64 i] w fun e' w' => e' = .returned (.int .i64 3) ∧ w = w' := by
  go_enter Tryd.func12, Tryd.ntmps12
  go_wp2
  go_ret
  exact ⟨rfl, rfl⟩

set_option maxRecDepth 100000 in
theorem w3_225b (s : ByteArray) (i : Nat) (c d e : UInt8) (w : World) (hm : s.size ≤ 1048577) (h : i + 2 < s.size) (hc : s[i] = c) (hd : s[i + 1] = d) (he : s[i + 2] = e) (ck : (c.toNat : Int) = 225) (dk : (d.toNat : Int) = 154) (en128 : ((e.toNat : Int) == 128) = false) :
    Calls Tryd.prog 12 #[.string s, .int .i64 i] w fun e' w' => e' = .returned (.int .i64 0) ∧ w = w' := by
  go_enter Tryd.func12, Tryd.ntmps12
  go_wp2
  go_ret
  exact ⟨rfl, rfl⟩

set_option maxRecDepth 100000 in
theorem w3_225c (s : ByteArray) (i : Nat) (c d e : UInt8) (w : World) (hm : s.size ≤ 1048577) (h : i + 2 < s.size) (hc : s[i] = c) (hd : s[i + 1] = d) (he : s[i + 2] = e) (ck : (c.toNat : Int) = 225) (dn154 : ((d.toNat : Int) == 154) = false) :
    Calls Tryd.prog 12 #[.string s, .int .i64 i] w fun e' w' => e' = .returned (.int .i64 0) ∧ w = w' := by
  go_enter Tryd.func12, Tryd.ntmps12
  go_wp2
  go_ret
  exact ⟨rfl, rfl⟩

set_option maxRecDepth 100000 in
theorem w3_226a (s : ByteArray) (i : Nat) (c d e : UInt8) (w : World) (hm : s.size ≤ 1048577) (h : i + 2 < s.size) (hc : s[i] = c) (hd : s[i + 1] = d) (he : s[i + 2] = e) (ck : (c.toNat : Int) = 226) (dk : (d.toNat : Int) = 128) (e1 : (128 : Int) ≤ e.toNat) (e2 : (e.toNat : Int) ≤ 138) :
    Calls Tryd.prog 12 #[.string s, .int .i64 i] w fun e' w' => e' = .returned (.int .i64 3) ∧ w = w' := by
  go_enter Tryd.func12, Tryd.ntmps12
  go_wp2
  go_ret
  exact ⟨rfl, rfl⟩

set_option maxRecDepth 100000 in
theorem w3_226_168 (s : ByteArray) (i : Nat) (c d e : UInt8) (w : World) (hm : s.size ≤ 1048577) (h : i + 2 < s.size) (hc : s[i] = c) (hd : s[i + 1] = d) (he : s[i + 2] = e) (ck : (c.toNat : Int) = 226) (dk : (d.toNat : Int) = 128) (ek : (e.toNat : Int) = 168) :
    Calls Tryd.prog 12 #[.string s, .int .i64 i] w fun e' w' => e' = .returned (.int .i64 3) ∧ w = w' := by
  go_enter Tryd.func12, Tryd.ntmps12
  go_wp2
  go_ret
  exact ⟨rfl, rfl⟩

set_option maxRecDepth 100000 in
theorem w3_226_169 (s : ByteArray) (i : Nat) (c d e : UInt8) (w : World) (hm : s.size ≤ 1048577) (h : i + 2 < s.size) (hc : s[i] = c) (hd : s[i + 1] = d) (he : s[i + 2] = e) (ck : (c.toNat : Int) = 226) (dk : (d.toNat : Int) = 128) (ek : (e.toNat : Int) = 169) :
    Calls Tryd.prog 12 #[.string s, .int .i64 i] w fun e' w' => e' = .returned (.int .i64 3) ∧ w = w' := by
  go_enter Tryd.func12, Tryd.ntmps12
  go_wp2
  go_ret
  exact ⟨rfl, rfl⟩

set_option maxRecDepth 100000 in
theorem w3_226_175 (s : ByteArray) (i : Nat) (c d e : UInt8) (w : World) (hm : s.size ≤ 1048577) (h : i + 2 < s.size) (hc : s[i] = c) (hd : s[i + 1] = d) (he : s[i + 2] = e) (ck : (c.toNat : Int) = 226) (dk : (d.toNat : Int) = 128) (ek : (e.toNat : Int) = 175) :
    Calls Tryd.prog 12 #[.string s, .int .i64 i] w fun e' w' => e' = .returned (.int .i64 3) ∧ w = w' := by
  go_enter Tryd.func12, Tryd.ntmps12
  go_wp2
  go_ret
  exact ⟨rfl, rfl⟩

set_option maxRecDepth 100000 in
theorem w3_226b (s : ByteArray) (i : Nat) (c d e : UInt8) (w : World) (hm : s.size ≤ 1048577) (h : i + 2 < s.size) (hc : s[i] = c) (hd : s[i + 1] = d) (he : s[i + 2] = e) (ck : (c.toNat : Int) = 226) (dk : (d.toNat : Int) = 128) (e1 : (e.toNat : Int) < 128) (en168 : ((e.toNat : Int) == 168) = false) (en169 : ((e.toNat : Int) == 169) = false) (en175 : ((e.toNat : Int) == 175) = false) :
    Calls Tryd.prog 12 #[.string s, .int .i64 i] w fun e' w' => e' = .returned (.int .i64 0) ∧ w = w' := by
  go_enter Tryd.func12, Tryd.ntmps12
  go_wp2
  go_ret
  exact ⟨rfl, rfl⟩

set_option maxRecDepth 100000 in
theorem w3_226c (s : ByteArray) (i : Nat) (c d e : UInt8) (w : World) (hm : s.size ≤ 1048577) (h : i + 2 < s.size) (hc : s[i] = c) (hd : s[i + 1] = d) (he : s[i + 2] = e) (ck : (c.toNat : Int) = 226) (dk : (d.toNat : Int) = 128) (e1 : (138 : Int) < e.toNat) (en168 : ((e.toNat : Int) == 168) = false) (en169 : ((e.toNat : Int) == 169) = false) (en175 : ((e.toNat : Int) == 175) = false) :
    Calls Tryd.prog 12 #[.string s, .int .i64 i] w fun e' w' => e' = .returned (.int .i64 0) ∧ w = w' := by
  go_enter Tryd.func12, Tryd.ntmps12
  go_wp2
  go_ret
  exact ⟨rfl, rfl⟩

set_option maxRecDepth 100000 in
theorem w3_226d (s : ByteArray) (i : Nat) (c d e : UInt8) (w : World) (hm : s.size ≤ 1048577) (h : i + 2 < s.size) (hc : s[i] = c) (hd : s[i + 1] = d) (he : s[i + 2] = e) (ck : (c.toNat : Int) = 226) (dk : (d.toNat : Int) = 129) (ek : (e.toNat : Int) = 159) :
    Calls Tryd.prog 12 #[.string s, .int .i64 i] w fun e' w' => e' = .returned (.int .i64 3) ∧ w = w' := by
  go_enter Tryd.func12, Tryd.ntmps12
  go_wp2
  go_ret
  exact ⟨rfl, rfl⟩

set_option maxRecDepth 100000 in
theorem w3_226e (s : ByteArray) (i : Nat) (c d e : UInt8) (w : World) (hm : s.size ≤ 1048577) (h : i + 2 < s.size) (hc : s[i] = c) (hd : s[i + 1] = d) (he : s[i + 2] = e) (ck : (c.toNat : Int) = 226) (dk : (d.toNat : Int) = 129) (en159 : ((e.toNat : Int) == 159) = false) :
    Calls Tryd.prog 12 #[.string s, .int .i64 i] w fun e' w' => e' = .returned (.int .i64 0) ∧ w = w' := by
  go_enter Tryd.func12, Tryd.ntmps12
  go_wp2
  go_ret
  exact ⟨rfl, rfl⟩

set_option maxRecDepth 100000 in
theorem w3_226f (s : ByteArray) (i : Nat) (c d e : UInt8) (w : World) (hm : s.size ≤ 1048577) (h : i + 2 < s.size) (hc : s[i] = c) (hd : s[i + 1] = d) (he : s[i + 2] = e) (ck : (c.toNat : Int) = 226) (dn128 : ((d.toNat : Int) == 128) = false) (dn129 : ((d.toNat : Int) == 129) = false) :
    Calls Tryd.prog 12 #[.string s, .int .i64 i] w fun e' w' => e' = .returned (.int .i64 0) ∧ w = w' := by
  go_enter Tryd.func12, Tryd.ntmps12
  go_wp2
  go_ret
  exact ⟨rfl, rfl⟩

set_option maxRecDepth 100000 in
theorem w3_227a (s : ByteArray) (i : Nat) (c d e : UInt8) (w : World) (hm : s.size ≤ 1048577) (h : i + 2 < s.size) (hc : s[i] = c) (hd : s[i + 1] = d) (he : s[i + 2] = e) (ck : (c.toNat : Int) = 227) (dk : (d.toNat : Int) = 128) (ek : (e.toNat : Int) = 128) :
    Calls Tryd.prog 12 #[.string s, .int .i64 i] w fun e' w' => e' = .returned (.int .i64 3) ∧ w = w' := by
  go_enter Tryd.func12, Tryd.ntmps12
  go_wp2
  go_ret
  exact ⟨rfl, rfl⟩

set_option maxRecDepth 100000 in
theorem w3_227b (s : ByteArray) (i : Nat) (c d e : UInt8) (w : World) (hm : s.size ≤ 1048577) (h : i + 2 < s.size) (hc : s[i] = c) (hd : s[i + 1] = d) (he : s[i + 2] = e) (ck : (c.toNat : Int) = 227) (dk : (d.toNat : Int) = 128) (en128 : ((e.toNat : Int) == 128) = false) :
    Calls Tryd.prog 12 #[.string s, .int .i64 i] w fun e' w' => e' = .returned (.int .i64 0) ∧ w = w' := by
  go_enter Tryd.func12, Tryd.ntmps12
  go_wp2
  go_ret
  exact ⟨rfl, rfl⟩

set_option maxRecDepth 100000 in
theorem w3_227c (s : ByteArray) (i : Nat) (c d e : UInt8) (w : World) (hm : s.size ≤ 1048577) (h : i + 2 < s.size) (hc : s[i] = c) (hd : s[i + 1] = d) (he : s[i + 2] = e) (ck : (c.toNat : Int) = 227) (dn128 : ((d.toNat : Int) == 128) = false) :
    Calls Tryd.prog 12 #[.string s, .int .i64 i] w fun e' w' => e' = .returned (.int .i64 0) ∧ w = w' := by
  go_enter Tryd.func12, Tryd.ntmps12
  go_wp2
  go_ret
  exact ⟨rfl, rfl⟩

set_option maxRecDepth 100000 in
theorem w3_no (s : ByteArray) (i : Nat) (c d e : UInt8) (w : World) (hm : s.size ≤ 1048577) (h : i + 2 < s.size) (hc : s[i] = c) (hd : s[i + 1] = d) (he : s[i + 2] = e) (cn32 : ((c.toNat : Int) == 32) = false) (cn9 : ((c.toNat : Int) == 9) = false) (cn10 : ((c.toNat : Int) == 10) = false) (cn11 : ((c.toNat : Int) == 11) = false) (cn12 : ((c.toNat : Int) == 12) = false) (cn13 : ((c.toNat : Int) == 13) = false) (cn194 : ((c.toNat : Int) == 194) = false) (cn225 : ((c.toNat : Int) == 225) = false) (cn226 : ((c.toNat : Int) == 226) = false) (cn227 : ((c.toNat : Int) == 227) = false) :
    Calls Tryd.prog 12 #[.string s, .int .i64 i] w fun e' w' => e' = .returned (.int .i64 0) ∧ w = w' := by
  go_enter Tryd.func12, Tryd.ntmps12
  go_wp2
  go_ret
  exact ⟨rfl, rfl⟩

end Go.Proofs.Qxb6626914aDoor
