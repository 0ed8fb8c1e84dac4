/- Seat b6626914aD: the guards and the small callees. -/
import Derived.Test.Qxb6626914aDoorProg
import Derived.Test.Qxb6626914aDoorPlain
import Derived.WalkKit
import Derived.WalkLawsBesides
import Derived.WalkSpells
namespace Go.Proofs.Qxb6626914aDoor
open Go.RowKit
set_option linter.unusedVariables false

/-- A bool that meets p is handed back. -/
def IsB (p : Bool → Prop) (e : Ending) : Prop := ∃ b, e = .returned (.bool b) ∧ p b
theorem IsB.mk {p : Bool → Prop} (b : Bool) (h : p b) : IsB p (.returned (.bool b)) := ⟨b, rfl, h⟩

/-- The string of these bytes. -/
def S (l : List UInt8) : Value := .string ⟨l.toArray⟩

def Small2 (a b : ByteArray) (x : Bool) : Prop := x = true → a.size + b.size ≤ 1048576
def Small3 (a b c : ByteArray) (x : Bool) : Prop := x = true → a.size + b.size + c.size ≤ 1048576

theorem size5 (a b : ByteArray) (n : Int) (x : Bool) (w : World) (la : a.size ≤ maxLen) (lb : b.size ≤ maxLen) :
    Calls Tryd.prog 5 #[.string a, .string b, .int .i64 n, .bool x] w fun e w' => IsB (Small2 a b) e ∧ w = w' := by
  unfold maxLen at la lb
  go_enter Tryd.func5, Tryd.ntmps5
  go_wp2
  all_goals go_ret
  all_goals exact ⟨IsB.mk _ (fun h => by first | omega | (cases h; done)), rfl⟩

theorem size8 (a b c : ByteArray) (w : World) (la : a.size ≤ maxLen) (lb : b.size ≤ maxLen) (lc : c.size ≤ maxLen) :
    Calls Tryd.prog 8 #[.string a, .string b, .string c] w fun e w' => IsB (Small3 a b c) e ∧ w = w' := by
  unfold maxLen at la lb lc
  go_enter Tryd.func8, Tryd.ntmps8
  go_wp2
  all_goals go_ret
  all_goals exact ⟨IsB.mk _ (fun h => by first | omega | (cases h; done)), rfl⟩

theorem bytes_append (l r : List UInt8) : (⟨l.toArray⟩ : ByteArray) ++ ⟨r.toArray⟩ = ⟨(l ++ r).toArray⟩ := by
  apply ByteArray.ext
  simp

theorem jws9 (l r : List UInt8) (w : World) (hl : l.length ≤ 1048577) (hr : r.length ≤ 1048577) :
    Calls Tryd.prog 9 #[S l, S r] w fun e w' => e = .returned (S (jws l r)) ∧ w = w' := by
  by_cases h1 : l = []
  · subst h1
    rw [show jws [] r = r from rfl]
    unfold S
    go_enter Tryd.func9, Tryd.ntmps9
    go_wp2
    go_ret
    exact ⟨rfl, rfl⟩
  · have e1 : l.isEmpty = false := by cases l <;> simp_all
    by_cases h2 : r = []
    · subst h2
      rw [show jws l [] = l by unfold jws; rw [if_neg h1, if_pos rfl]]
      unfold S
      clear h1
      go_enter Tryd.func9, Tryd.ntmps9
      go_wp2
      go_ret
      exact ⟨rfl, rfl⟩
    · have e2 : r.isEmpty = false := by cases r <;> simp_all
      rw [show jws l r = l ++ [32] ++ r by unfold jws; rw [if_neg h1, if_neg h2]]
      unfold S
      clear h1 h2
      go_enter Tryd.func9, Tryd.ntmps9
      go_wp2
      go_ret
      exact ⟨by rw [show (⟨#[32]⟩ : ByteArray) = ⟨[32].toArray⟩ from rfl, bytes_append, bytes_append]; rfl, rfl⟩
end Go.Proofs.Qxb6626914aDoor
