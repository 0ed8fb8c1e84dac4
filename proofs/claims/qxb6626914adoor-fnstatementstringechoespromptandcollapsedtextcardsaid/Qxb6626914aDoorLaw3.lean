/- FnStatementStringEchoesPromptAndCollapsedText: the walk. -/
import Derived.Test.Qxb6626914aDoorLaw4
import Derived.Test.Qxb6626914aDoorCollapse
namespace Go.Proofs.Qxb6626914aDoor
open Go.RowKit Go.Lib
set_option linter.unusedVariables false

set_option maxRecDepth 100000 in
set_option maxHeartbeats 1000000 in
theorem law3 (ses l : List UInt8) (n : Int) (x : Bool) (w : World) (ht : Tabs w) (l0 : ses.length ≤ maxLen) (l1 : l.length ≤ maxLen) :
    Calls Tryd.prog 3 #[.string ⟨ses.toArray⟩, .string ⟨l.toArray⟩, .int .i64 n, .bool x] w fun e w' => e = .returned (.bool true) ∧ Below w.heap.size w w' := by
  have hsz := size5 ⟨ses.toArray⟩ ⟨l.toArray⟩ n x w l0 l1
  obtain ⟨E, hE⟩ : ∃ E, E = echo l := ⟨_, rfl⟩
  obtain ⟨O, hO⟩ : ∃ O, O = prompt ses E := ⟨_, rfl⟩
  have lE := echo_len l
  rw [← hE] at lE
  have HE : Hid (E = echo l) := hE
  have HO : Hid (O = prompt ses E) := hO
  clear hE hO
  go_enter Tryd.func3, Tryd.ntmps3
  go_wp2_with fail
  refine hsz.mono ?_
  rintro e w' ⟨⟨b, rfl, hsm⟩, rfl⟩
  clear hsz
  cases b
  · go_wp2_with fail
    go_ret
    exact ⟨rfl, Below.refl _ _⟩
  have hs0 : ses.length + l.length ≤ 1048576 := hsm rfl
  clear hsm
  go_wp2_with fail
  refine (string6L ses l O n x w (by rw [HO.out, HE.out]) ht (by omega) (by omega)).mono ?_
  rintro e w1 ⟨rfl, hb1⟩
  have ht1 := ht.below hb1
  go_wp2_with fail
  refine (string6N l E 0 false w1 HE.out ht1 (by omega)).mono ?_
  rintro e w2 ⟨rfl, hb2⟩
  have hbel : Below w.heap.size w w2 := hb1.trans (hb2.mono hb1.size)
  have hco := collapse7 ⟨l.toArray⟩ l w2 (by simp) (by show l.length ≤ _; omega)
  rw [← HE.out] at hco
  clear ht ht1 hb1 hb2
  go_wp2_with fail
  refine hco.mono ?_
  rintro e w3 ⟨rfl, hb3⟩
  have hbel3 := hbel.trans (hb3.mono hbel.size)
  clear hco
  by_cases hse : ses = []
  · subst hse
    have hOE : O = E := HO.out
    subst hOE
    go_wp2_with fail
    go_ret
    exact ⟨by simp, hbel3⟩
  · have hse1 : ses.isEmpty = false := by cases ses <;> simp_all
    have hp : (⟨ses.toArray⟩ : ByteArray) ++ ⟨#[32, 62, 32]⟩ ++ ⟨E.toArray⟩ = ⟨O.toArray⟩ := by
      rw [HO.out, prompt_cons hse, show (⟨#[32, 62, 32]⟩ : ByteArray) = ⟨[32, 62, 32].toArray⟩ from rfl, bytes_append, bytes_append]
    clear hse
    go_wp2_with fail
    go_ret
    exact ⟨by simp, hbel3⟩
end Go.Proofs.Qxb6626914aDoor
