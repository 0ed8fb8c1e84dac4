/- FnStatementStringSplitsAtAnySpaceAndIsStable: the walk. -/
import Derived.Test.Qxb6626914aDoorString
namespace Go.Proofs.Qxb6626914aDoor
open Go.RowKit Go.Lib
set_option linter.unusedVariables false

/-- String at texts that are lists of bytes. -/
theorem string6L (ses txt out : List UInt8) (n : Int) (x : Bool) (w : World) (ho : out = prompt ses (echo txt)) (ht : Tabs w) (hs : ses.length ≤ 1048577) (htx : txt.length ≤ 4194304) :
    Calls Tryd.prog 6 #[.agg #[.string ⟨ses.toArray⟩, .string ⟨txt.toArray⟩, .int .i64 n, .bool x]] w fun e w' => e = .returned (.string ⟨out.toArray⟩) ∧ Below w.heap.size w w' := by
  rw [ho]
  exact string6 ⟨ses.toArray⟩ ⟨txt.toArray⟩ n x w ht hs htx

theorem string6N (txt out : List UInt8) (n : Int) (x : Bool) (w : World) (ho : out = echo txt) (ht : Tabs w) (htx : txt.length ≤ 4194304) :
    Calls Tryd.prog 6 #[.agg #[.string ⟨#[]⟩, .string ⟨txt.toArray⟩, .int .i64 n, .bool x]] w fun e w' => e = .returned (.string ⟨out.toArray⟩) ∧ Below w.heap.size w w' := by
  rw [ho]
  exact string6 ⟨#[]⟩ ⟨txt.toArray⟩ n x w ht (by show 0 ≤ _; omega) htx

theorem prompt_nil (t : List UInt8) : prompt [] t = t := rfl
theorem prompt_cons {s : List UInt8} (h : s ≠ []) (t : List UInt8) : prompt s t = s ++ [32, 62, 32] ++ t := by unfold prompt; rw [if_neg h]

theorem list_of (s : ByteArray) : ∃ l : List UInt8, s = ⟨l.toArray⟩ := ⟨s.data.toList, by apply ByteArray.ext; simp⟩

set_option maxRecDepth 100000 in
set_option maxHeartbeats 1000000 in
theorem law4 (ses la lb : List UInt8) (w : World) (ht : Tabs w) (l0 : ses.length ≤ maxLen) (l1 : la.length ≤ maxLen) (l2 : lb.length ≤ maxLen) :
    Calls Tryd.prog 4 #[.string ⟨ses.toArray⟩, .string ⟨la.toArray⟩, .string ⟨lb.toArray⟩] w fun e w' => e = .returned (.bool true) ∧ Below w.heap.size w w' := by
  have hsz := size8 ⟨ses.toArray⟩ ⟨la.toArray⟩ ⟨lb.toArray⟩ w l0 l1 l2
  obtain ⟨J, hJ⟩ : ∃ J, J = la ++ [32] ++ lb := ⟨_, rfl⟩
  obtain ⟨EJ, hEJ⟩ : ∃ E, E = echo J := ⟨_, rfl⟩
  obtain ⟨EA, hEA⟩ : ∃ E, E = echo la := ⟨_, rfl⟩
  obtain ⟨EB, hEB⟩ : ∃ E, E = echo lb := ⟨_, rfl⟩
  obtain ⟨O, hO⟩ : ∃ O, O = prompt ses EJ := ⟨_, rfl⟩
  have hja : (⟨la.toArray⟩ : ByteArray) ++ ⟨#[32]⟩ ++ ⟨lb.toArray⟩ = ⟨J.toArray⟩ := by rw [hJ, show (⟨#[32]⟩ : ByteArray) = ⟨[32].toArray⟩ from rfl, bytes_append, bytes_append]
  have hjl : J.length = la.length + 1 + lb.length := by rw [hJ]; simp; omega
  have hsplit : jws EA EB = EJ := by rw [hEJ, hJ, List.append_assoc, List.singleton_append, echo_split, hEA, hEB]
  have lJ := echo_len J
  have lA := echo_len la
  have lB := echo_len lb
  rw [← hEJ] at lJ
  rw [← hEA] at lA
  rw [← hEB] at lB
  have hstab : O = prompt ses (echo EJ) := by rw [hO, hEJ, echo_echo]
  have HST : Hid (O = prompt ses (echo EJ)) := hstab
  have HEJ : Hid (EJ = echo J) := hEJ
  have HEA : Hid (EA = echo la) := hEA
  have HEB : Hid (EB = echo lb) := hEB
  have HO : Hid (O = prompt ses EJ) := hO
  have HJL : Hid (J.length = la.length + 1 + lb.length) := hjl
  have HSP : Hid (jws EA EB = EJ) := hsplit
  clear hstab hEJ hEA hEB hO hjl hsplit hJ
  go_enter Tryd.func4, Tryd.ntmps4
  go_wp2_with fail
  refine hsz.mono ?_
  rintro e w' ⟨⟨b, rfl, hsm⟩, rfl⟩
  clear hsz
  cases b
  · go_wp2_with fail
    go_ret
    exact ⟨rfl, Below.refl _ _⟩
  have hs0 : ses.length + la.length + lb.length ≤ 1048576 := hsm rfl
  clear hsm
  go_wp2_with fail
  refine (string6L ses J O 0 false w (by rw [HO.out, HEJ.out]) ht (by omega) (by rw [HJL.out]; omega)).mono ?_
  rintro e w1 ⟨rfl, hb1⟩
  have ht1 := ht.below hb1
  go_wp2_with fail
  refine (string6N la EA 0 false w1 HEA.out ht1 (by omega)).mono ?_
  rintro e w2 ⟨rfl, hb2⟩
  have ht2 := ht1.below hb2
  go_wp2_with fail
  refine (string6N lb EB 0 false w2 HEB.out ht2 (by omega)).mono ?_
  rintro e w3 ⟨rfl, hb3⟩
  have ht3 := ht2.below hb3
  have hbel3 : Below w.heap.size w w3 := (hb1.trans (hb2.mono hb1.size)).trans (hb3.mono (Nat.le_trans hb1.size hb2.size))
  clear ht ht1 ht2 hb1 hb2 hb3
  have bJ : J.length ≤ 1048577 := by rw [HJL.out]; omega
  have bE : EJ.length ≤ 1048578 := by omega
  have hjw := jws9 EA EB w3 (by omega) (by omega)
  unfold S at hjw
  rw [HSP.out] at hjw
  by_cases hse : ses = []
  · subst hse
    have hOE : O = EJ := HO.out
    subst hOE
    have hem : (⟨#[]⟩ : ByteArray) ++ ⟨O.toArray⟩ = ⟨O.toArray⟩ := by apply ByteArray.ext; simp
    go_wp2_with fail
    refine hjw.mono ?_
    rintro e w' ⟨rfl, rfl⟩
    clear hjw
    go_wp2_with fail
    refine (string6N J O 0 false w3 HEJ.out ht3 (by rw [HJL.out]; omega)).mono ?_
    rintro e w4 ⟨rfl, hb4⟩
    have ht4 := ht3.below hb4
    go_wp2_with fail
    refine (string6N O O 0 false w4 HST.out ht4 (by have := HJL.out; omega)).mono ?_
    rintro e w5 ⟨rfl, hb5⟩
    go_wp2_with fail
    go_ret
    exact ⟨by simp, (hbel3.trans (hb4.mono hbel3.size)).trans (hb5.mono (Nat.le_trans hbel3.size hb4.size))⟩
  · have hse1 : ses.isEmpty = false := by cases ses <;> simp_all
    have hp : (⟨ses.toArray⟩ : ByteArray) ++ ⟨#[32, 62, 32]⟩ ++ ⟨EJ.toArray⟩ = ⟨O.toArray⟩ := by
      rw [HO.out, prompt_cons hse, show (⟨#[32, 62, 32]⟩ : ByteArray) = ⟨[32, 62, 32].toArray⟩ from rfl, bytes_append, bytes_append]
    clear hse
    go_wp2_with fail
    refine hjw.mono ?_
    rintro e w' ⟨rfl, rfl⟩
    clear hjw
    go_wp2_with fail
    refine (string6N J EJ 0 false w3 HEJ.out ht3 (by rw [HJL.out]; omega)).mono ?_
    rintro e w4 ⟨rfl, hb4⟩
    have ht4 := ht3.below hb4
    go_wp2_with fail
    refine (string6L ses EJ O 0 false w4 HST.out ht4 (by omega) (by have := HJL.out; omega)).mono ?_
    rintro e w5 ⟨rfl, hb5⟩
    go_wp2_with fail
    go_ret
    exact ⟨by simp, (hbel3.trans (hb4.mono hbel3.size)).trans (hb5.mono (Nat.le_trans hbel3.size hb4.size))⟩
end Go.Proofs.Qxb6626914aDoor
