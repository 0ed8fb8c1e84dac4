/- whiteWidthAt: what it hands back at every place. -/
import Derived.Test.Qxb6626914aDoorWidth
namespace Go.Proofs.Qxb6626914aDoor
open Go.RowKit Go.Lib
set_option linter.unusedVariables false
set_option linter.unusedSimpArgs false

theorem width1 (s : ByteArray) (i : Nat) (c : UInt8) (w : World) (hm : s.size ≤ 1048577) (h : i + 1 = s.size) (hc : s[i] = c) :
    Calls Tryd.prog 12 #[.string s, .int .i64 i] w fun e' w' => e' = .returned (.int .i64 (ww (s.size - i) c.toNat 0 0 : Nat)) ∧ w = w' := by
  have n2 : s.size - i < 2 := by omega
  have n3 : s.size - i < 3 := by omega
  by_cases c32 : c.toNat = 32
  · rw [show ((ww (s.size - i) c.toNat 0 0 : Nat) : Int) = 1 by simp [ww, n2, n3, c32]]
    exact w1_32 s i c w hm h hc (by omega)
  by_cases c9 : c.toNat = 9
  · rw [show ((ww (s.size - i) c.toNat 0 0 : Nat) : Int) = 1 by simp [ww, n2, n3, c32, c9]]
    exact w1_9 s i c w hm h hc (by omega)
  by_cases c10 : c.toNat = 10
  · rw [show ((ww (s.size - i) c.toNat 0 0 : Nat) : Int) = 1 by simp [ww, n2, n3, c32, c9, c10]]
    exact w1_10 s i c w hm h hc (by omega)
  by_cases c11 : c.toNat = 11
  · rw [show ((ww (s.size - i) c.toNat 0 0 : Nat) : Int) = 1 by simp [ww, n2, n3, c32, c9, c10, c11]]
    exact w1_11 s i c w hm h hc (by omega)
  by_cases c12 : c.toNat = 12
  · rw [show ((ww (s.size - i) c.toNat 0 0 : Nat) : Int) = 1 by simp [ww, n2, n3, c32, c9, c10, c11, c12]]
    exact w1_12 s i c w hm h hc (by omega)
  by_cases c13 : c.toNat = 13
  · rw [show ((ww (s.size - i) c.toNat 0 0 : Nat) : Int) = 1 by simp [ww, n2, n3, c32, c9, c10, c11, c12, c13]]
    exact w1_13 s i c w hm h hc (by omega)
  by_cases c194 : c.toNat = 194
  · rw [show ((ww (s.size - i) c.toNat 0 0 : Nat) : Int) = 0 by simp [ww, n2, n3, c32, c9, c10, c11, c12, c13, c194]]
    exact w1_194 s i c w hm h hc (by omega)
  rw [show ((ww (s.size - i) c.toNat 0 0 : Nat) : Int) = 0 by simp [ww, n2, n3, c32, c9, c10, c11, c12, c13, c194]]
  exact w1_no s i c w hm h hc (no_of c32) (no_of c9) (no_of c10) (no_of c11) (no_of c12) (no_of c13) (no_of c194)

theorem width2 (s : ByteArray) (i : Nat) (c d : UInt8) (w : World) (hm : s.size ≤ 1048577) (h : i + 2 = s.size) (hc : s[i] = c) (hd : s[i + 1] = d) :
    Calls Tryd.prog 12 #[.string s, .int .i64 i] w fun e' w' => e' = .returned (.int .i64 (ww (s.size - i) c.toNat d.toNat 0 : Nat)) ∧ w = w' := by
  have n2 : ¬ s.size - i < 2 := by omega
  have n3 : s.size - i < 3 := by omega
  by_cases c32 : c.toNat = 32
  · rw [show ((ww (s.size - i) c.toNat d.toNat 0 : Nat) : Int) = 1 by simp [ww, n2, n3, c32]]
    exact w2_32 s i c d w hm h hc hd (by omega)
  by_cases c9 : c.toNat = 9
  · rw [show ((ww (s.size - i) c.toNat d.toNat 0 : Nat) : Int) = 1 by simp [ww, n2, n3, c32, c9]]
    exact w2_9 s i c d w hm h hc hd (by omega)
  by_cases c10 : c.toNat = 10
  · rw [show ((ww (s.size - i) c.toNat d.toNat 0 : Nat) : Int) = 1 by simp [ww, n2, n3, c32, c9, c10]]
    exact w2_10 s i c d w hm h hc hd (by omega)
  by_cases c11 : c.toNat = 11
  · rw [show ((ww (s.size - i) c.toNat d.toNat 0 : Nat) : Int) = 1 by simp [ww, n2, n3, c32, c9, c10, c11]]
    exact w2_11 s i c d w hm h hc hd (by omega)
  by_cases c12 : c.toNat = 12
  · rw [show ((ww (s.size - i) c.toNat d.toNat 0 : Nat) : Int) = 1 by simp [ww, n2, n3, c32, c9, c10, c11, c12]]
    exact w2_12 s i c d w hm h hc hd (by omega)
  by_cases c13 : c.toNat = 13
  · rw [show ((ww (s.size - i) c.toNat d.toNat 0 : Nat) : Int) = 1 by simp [ww, n2, n3, c32, c9, c10, c11, c12, c13]]
    exact w2_13 s i c d w hm h hc hd (by omega)
  by_cases c194 : c.toNat = 194
  · by_cases d133 : d.toNat = 133
    · rw [show ((ww (s.size - i) c.toNat d.toNat 0 : Nat) : Int) = 2 by simp [ww, n2, n3, c32, c9, c10, c11, c12, c13, c194, d133]]
      exact w2_194a s i c d w hm h hc hd (by omega) (by omega)
    by_cases d160 : d.toNat = 160
    · rw [show ((ww (s.size - i) c.toNat d.toNat 0 : Nat) : Int) = 2 by simp [ww, n2, n3, c32, c9, c10, c11, c12, c13, c194, d133, d160]]
      exact w2_194b s i c d w hm h hc hd (by omega) (by omega)
    rw [show ((ww (s.size - i) c.toNat d.toNat 0 : Nat) : Int) = 0 by simp [ww, n2, n3, c32, c9, c10, c11, c12, c13, c194, d133, d160]]
    exact w2_194c s i c d w hm h hc hd (by omega) (no_of d133) (no_of d160)
  rw [show ((ww (s.size - i) c.toNat d.toNat 0 : Nat) : Int) = 0 by simp [ww, n2, n3, c32, c9, c10, c11, c12, c13, c194]]
  exact w2_no s i c d w hm h hc hd (no_of c32) (no_of c9) (no_of c10) (no_of c11) (no_of c12) (no_of c13) (no_of c194)

theorem width3 (s : ByteArray) (i : Nat) (c d e : UInt8) (w : World) (hm : s.size ≤ 1048577) (h : i + 2 < s.size) (hc : s[i] = c) (hd : s[i + 1] = d) (he : s[i + 2] = e) :
    Calls Tryd.prog 12 #[.string s, .int .i64 i] w fun e' w' => e' = .returned (.int .i64 (ww (s.size - i) c.toNat d.toNat e.toNat : Nat)) ∧ w = w' := by
  have n2 : ¬ s.size - i < 2 := by omega
  have n3 : ¬ s.size - i < 3 := by omega
  by_cases c32 : c.toNat = 32
  · rw [show ((ww (s.size - i) c.toNat d.toNat e.toNat : Nat) : Int) = 1 by simp [ww, n2, n3, c32]]
    exact w3_32 s i c d e w hm h hc hd he (by omega)
  by_cases c9 : c.toNat = 9
  · rw [show ((ww (s.size - i) c.toNat d.toNat e.toNat : Nat) : Int) = 1 by simp [ww, n2, n3, c32, c9]]
    exact w3_9 s i c d e w hm h hc hd he (by omega)
  by_cases c10 : c.toNat = 10
  · rw [show ((ww (s.size - i) c.toNat d.toNat e.toNat : Nat) : Int) = 1 by simp [ww, n2, n3, c32, c9, c10]]
    exact w3_10 s i c d e w hm h hc hd he (by omega)
  by_cases c11 : c.toNat = 11
  · rw [show ((ww (s.size - i) c.toNat d.toNat e.toNat : Nat) : Int) = 1 by simp [ww, n2, n3, c32, c9, c10, c11]]
    exact w3_11 s i c d e w hm h hc hd he (by omega)
  by_cases c12 : c.toNat = 12
  · rw [show ((ww (s.size - i) c.toNat d.toNat e.toNat : Nat) : Int) = 1 by simp [ww, n2, n3, c32, c9, c10, c11, c12]]
    exact w3_12 s i c d e w hm h hc hd he (by omega)
  by_cases c13 : c.toNat = 13
  · rw [show ((ww (s.size - i) c.toNat d.toNat e.toNat : Nat) : Int) = 1 by simp [ww, n2, n3, c32, c9, c10, c11, c12, c13]]
    exact w3_13 s i c d e w hm h hc hd he (by omega)
  by_cases c194 : c.toNat = 194
  · by_cases d133 : d.toNat = 133
    · rw [show ((ww (s.size - i) c.toNat d.toNat e.toNat : Nat) : Int) = 2 by simp [ww, n2, n3, c32, c9, c10, c11, c12, c13, c194, d133]]
      exact w3_194a s i c d e w hm h hc hd he (by omega) (by omega)
    by_cases d160 : d.toNat = 160
    · rw [show ((ww (s.size - i) c.toNat d.toNat e.toNat : Nat) : Int) = 2 by simp [ww, n2, n3, c32, c9, c10, c11, c12, c13, c194, d133, d160]]
      exact w3_194b s i c d e w hm h hc hd he (by omega) (by omega)
    rw [show ((ww (s.size - i) c.toNat d.toNat e.toNat : Nat) : Int) = 0 by simp [ww, n2, n3, c32, c9, c10, c11, c12, c13, c194, d133, d160]]
    exact w3_194c s i c d e w hm h hc hd he (by omega) (no_of d133) (no_of d160)
  by_cases c225 : c.toNat = 225
  · by_cases d154 : d.toNat = 154
    · by_cases e128 : e.toNat = 128
      · rw [show ((ww (s.size - i) c.toNat d.toNat e.toNat : Nat) : Int) = 3 by simp [ww, n2, n3, c32, c9, c10, c11, c12, c13, c194, c225, d154, e128]]
        exact w3_225a s i c d e w hm h hc hd he (by omega) (by omega) (by omega)
      rw [show ((ww (s.size - i) c.toNat d.toNat e.toNat : Nat) : Int) = 0 by simp [ww, n2, n3, c32, c9, c10, c11, c12, c13, c194, c225, d154, e128]]
      exact w3_225b s i c d e w hm h hc hd he (by omega) (by omega) (no_of e128)
    rw [show ((ww (s.size - i) c.toNat d.toNat e.toNat : Nat) : Int) = 0 by simp [ww, n2, n3, c32, c9, c10, c11, c12, c13, c194, c225, d154]]
    exact w3_225c s i c d e w hm h hc hd he (by omega) (no_of d154)
  by_cases c226 : c.toNat = 226
  · by_cases d128 : d.toNat = 128
    · by_cases e1 : 128 ≤ e.toNat ∧ e.toNat ≤ 138
      · rw [show ((ww (s.size - i) c.toNat d.toNat e.toNat : Nat) : Int) = 3 by simp [ww, n2, n3, c32, c9, c10, c11, c12, c13, c194, c225, c226, d128, e1]]
        exact w3_226a s i c d e w hm h hc hd he (by omega) (by omega) (by omega) (by omega)
      by_cases e168 : e.toNat = 168
      · rw [show ((ww (s.size - i) c.toNat d.toNat e.toNat : Nat) : Int) = 3 by simp [ww, n2, n3, c32, c9, c10, c11, c12, c13, c194, c225, c226, d128, e1, e168]]
        exact w3_226_168 s i c d e w hm h hc hd he (by omega) (by omega) (by omega)
      by_cases e169 : e.toNat = 169
      · rw [show ((ww (s.size - i) c.toNat d.toNat e.toNat : Nat) : Int) = 3 by simp [ww, n2, n3, c32, c9, c10, c11, c12, c13, c194, c225, c226, d128, e1, e168, e169]]
        exact w3_226_169 s i c d e w hm h hc hd he (by omega) (by omega) (by omega)
      by_cases e175 : e.toNat = 175
      · rw [show ((ww (s.size - i) c.toNat d.toNat e.toNat : Nat) : Int) = 3 by simp [ww, n2, n3, c32, c9, c10, c11, c12, c13, c194, c225, c226, d128, e1, e168, e169, e175]]
        exact w3_226_175 s i c d e w hm h hc hd he (by omega) (by omega) (by omega)
      rw [show ((ww (s.size - i) c.toNat d.toNat e.toNat : Nat) : Int) = 0 by simp [ww, n2, n3, c32, c9, c10, c11, c12, c13, c194, c225, c226, d128, e1, e168, e169, e175]]
      by_cases e0 : e.toNat < 128
      · exact w3_226b s i c d e w hm h hc hd he (by omega) (by omega) (by omega) (no_of e168) (no_of e169) (no_of e175)
      · exact w3_226c s i c d e w hm h hc hd he (by omega) (by omega) (by omega) (no_of e168) (no_of e169) (no_of e175)
    by_cases d129 : d.toNat = 129
    · by_cases e159 : e.toNat = 159
      · rw [show ((ww (s.size - i) c.toNat d.toNat e.toNat : Nat) : Int) = 3 by simp [ww, n2, n3, c32, c9, c10, c11, c12, c13, c194, c225, c226, d128, d129, e159]]
        exact w3_226d s i c d e w hm h hc hd he (by omega) (by omega) (by omega)
      rw [show ((ww (s.size - i) c.toNat d.toNat e.toNat : Nat) : Int) = 0 by simp [ww, n2, n3, c32, c9, c10, c11, c12, c13, c194, c225, c226, d128, d129, e159]]
      exact w3_226e s i c d e w hm h hc hd he (by omega) (by omega) (no_of e159)
    rw [show ((ww (s.size - i) c.toNat d.toNat e.toNat : Nat) : Int) = 0 by simp [ww, n2, n3, c32, c9, c10, c11, c12, c13, c194, c225, c226, d128, d129]]
    exact w3_226f s i c d e w hm h hc hd he (by omega) (no_of d128) (no_of d129)
  by_cases c227 : c.toNat = 227
  · by_cases d128 : d.toNat = 128
    · by_cases e128 : e.toNat = 128
      · rw [show ((ww (s.size - i) c.toNat d.toNat e.toNat : Nat) : Int) = 3 by simp [ww, n2, n3, c32, c9, c10, c11, c12, c13, c194, c225, c226, c227, d128, e128]]
        exact w3_227a s i c d e w hm h hc hd he (by omega) (by omega) (by omega)
      rw [show ((ww (s.size - i) c.toNat d.toNat e.toNat : Nat) : Int) = 0 by simp [ww, n2, n3, c32, c9, c10, c11, c12, c13, c194, c225, c226, c227, d128, e128]]
      exact w3_227b s i c d e w hm h hc hd he (by omega) (by omega) (no_of e128)
    rw [show ((ww (s.size - i) c.toNat d.toNat e.toNat : Nat) : Int) = 0 by simp [ww, n2, n3, c32, c9, c10, c11, c12, c13, c194, c225, c226, c227, d128]]
    exact w3_227c s i c d e w hm h hc hd he (by omega) (no_of d128)
  rw [show ((ww (s.size - i) c.toNat d.toNat e.toNat : Nat) : Int) = 0 by simp [ww, n2, n3, c32, c9, c10, c11, c12, c13, c194, c225, c226, c227]]
  exact w3_no s i c d e w hm h hc hd he (no_of c32) (no_of c9) (no_of c10) (no_of c11) (no_of c12) (no_of c13) (no_of c194) (no_of c225) (no_of c226) (no_of c227)

theorem width12 (s : ByteArray) (i : Nat) (w : World) (hm : s.size ≤ 1048577) (h : i < s.size) :
    Calls Tryd.prog 12 #[.string s, .int .i64 i] w fun e' w' => e' = .returned (.int .i64 (headSpace (s.data.toList.drop i) : Nat)) ∧ w = w' := by
  have hl : s.data.toList.length = s.size := rfl
  rcases Nat.lt_or_ge (i + 2) s.size with h2 | h2
  · have e : s.data.toList.drop i = s[i] :: s[i + 1] :: s[i + 2] :: s.data.toList.drop (i + 3) := by
      rw [List.drop_eq_getElem_cons (by rw [hl]; omega), List.drop_eq_getElem_cons (by rw [hl]; omega), List.drop_eq_getElem_cons (by rw [hl]; omega)]
      rfl
    rw [e, head3, ww_big (m := s.size - i) (by omega) (by omega)]
    exact width3 s i s[i] s[i + 1] s[i + 2] w hm h2 rfl rfl rfl
  · rcases Nat.lt_or_ge (i + 1) s.size with h1 | h1
    · have e : s.data.toList.drop i = [s[i], s[i + 1]] := by
        rw [List.drop_eq_getElem_cons (by rw [hl]; omega), List.drop_eq_getElem_cons (by rw [hl]; omega), List.drop_of_length_le (by rw [hl]; omega)]
        rfl
      rw [e, head2, show 2 = s.size - i by omega]
      exact width2 s i s[i] s[i + 1] w hm (by omega) rfl rfl
    · have e : s.data.toList.drop i = [s[i]] := by
        rw [List.drop_eq_getElem_cons (by rw [hl]; omega), List.drop_of_length_le (by rw [hl]; omega)]
        rfl
      rw [e, head1, show 1 = s.size - i by omega]
      exact width1 s i s[i] w hm (by omega) rfl
end Go.Proofs.Qxb6626914aDoor
