/- Seat b6625450a: the page's own functions walked. -/
import Derived.Test.Qxb6625450aBase
namespace Go.Proofs.Qxb6625450a
open Go.RowKit
set_option linter.unusedVariables false
set_option linter.unusedSimpArgs false

/-- A fresh page was handed back. -/
def NewIs (l : Int) (w : World) (e : Ending) (w' : World) : Prop :=
  ∃ g, e = .returned (.pointer (some ⟨g, 0, none⟩)) ∧ w.heap.size ≤ g ∧ Pg w' g l 0 0 ∧ Below w.heap.size w w'

set_option maxHeartbeats 1000000 in
set_option maxRecDepth 100000 in
theorem new6 (l : Int) (w : World) : Calls Try.prog 6 #[.int .i64 l, .int .i64 0, .int .i64 0] w fun e w' => NewIs l w e w' := by
  go_enter Try.func6, Try.ntmps6
  go_wp2
  go_ret
  refine ⟨w.heap.size, rfl, Nat.le_refl _, ⟨?_, ?_, ?_, ?_, ?_⟩, (Below.refl _ _).alloc (Nat.le_refl _) _⟩
  all_goals simp

/-- The page's answer. (Words of their own.) -/
def NoIs (B g : Nat) (l i s : Int) (w : World) (e : Ending) (w' : World) : Prop := e = .returned (.bool false) ∧ Pg w' g l i s ∧ Below B w w'
def YesIs (B g : Nat) (l i s : Int) (w : World) (e : Ending) (w' : World) : Prop := e = .returned (.bool true) ∧ Pg w' g l i s ∧ Below B w w'

set_option maxHeartbeats 1000000 in
set_option maxRecDepth 100000 in
theorem take11_no (B g : Nat) (l i s z : Int) (w : World) (hp : Pg w g l i s) (hB : B ≤ g) (h : i = l ∨ 1048576 ≤ s) :
    Calls Try.prog 11 #[.pointer (some ⟨g, 0, none⟩), .int .i64 z] w fun e w' => NoIs B g l i s w e w' := by
  have h0 := hp.c0
  have h1 := hp.c1
  have h2 := hp.c2
  by_cases e1 : i = l
  · have d1 : (i == l) = true := beq_iff_eq.2 e1
    clear e1 h
    go_enter Try.func11, Try.ntmps11
    go_wp2_with fail
    go_quiet (fail)
    go_wp2_with fail
    go_ret
    exact ⟨rfl, hp.drewN _, below_drewN (Below.refl _ _) _⟩
  · have d1 : (i == l) = false := beq_eq_false_iff_ne.2 e1
    have d2 : decide ((1048576 : Int) ≤ s) = true := decide_eq_true (by omega)
    clear e1 h
    go_enter Try.func11, Try.ntmps11
    go_wp2_with fail
    go_quiet (fail)
    go_wp2_with fail
    go_ret
    exact ⟨rfl, hp.drewN _, below_drewN (Below.refl _ _) _⟩

set_option maxHeartbeats 1000000 in
set_option maxRecDepth 100000 in
theorem take11_yes (B g : Nat) (l i s z : Int) (w : World) (hp : Pg w g l i s) (hB : B ≤ g) (e1 : i ≠ l) (e2 : s < 1048576)
    (b1 : 0 ≤ i) (b2 : i ≤ 1073741824) (b3 : 0 ≤ s) (b4 : 0 ≤ z) (b5 : z ≤ 1073741824) :
    Calls Try.prog 11 #[.pointer (some ⟨g, 0, none⟩), .int .i64 z] w fun e w' => YesIs B g l (i + 1) (s + z) w e w' := by
  have h0 := hp.c0
  have h1 := hp.c1
  have h2 := hp.c2
  have f1 := hp.f1
  have f2 := hp.f2
  have d1 : (i == l) = false := beq_eq_false_iff_ne.2 e1
  have d2 : decide ((1048576 : Int) ≤ s) = false := decide_eq_false (by omega)
  clear e1
  go_enter Try.func11, Try.ntmps11
  go_wp2_with fail
  go_quiet (fail)
  go_wp2_with fail
  go_ret
  exact ⟨rfl, (hp.drewN _).taken _ _, ((below_drewN (Below.refl _ _) _).setCell hB _).setCell hB _⟩

set_option maxHeartbeats 1000000 in
set_option maxRecDepth 100000 in
theorem take7_no (B g : Nat) (l i s z : Int) (w : World) (hp : Pg w g l i s) (hB : B ≤ g) (h : i = l ∨ 1048576 ≤ s) :
    Calls Try.prog 7 #[.pointer (some ⟨g, 0, none⟩), .int .i64 z] w fun e w' => NoIs B g l i s w e w' := by
  have hc := take11_no B g l i s z w hp hB h
  clear h
  go_enter Try.func7, Try.ntmps7
  go_wp2_with fail
  refine hc.mono ?_
  rintro e w' ⟨rfl, hq, hb⟩
  go_wp2_with fail
  go_ret
  exact ⟨rfl, hq, hb⟩

set_option maxHeartbeats 1000000 in
set_option maxRecDepth 100000 in
theorem take7_yes (B g : Nat) (l i s z : Int) (w : World) (hp : Pg w g l i s) (hB : B ≤ g) (e1 : i ≠ l) (e2 : s < 1048576)
    (b1 : 0 ≤ i) (b2 : i ≤ 1073741824) (b3 : 0 ≤ s) (b4 : 0 ≤ z) (b5 : z ≤ 1073741824) :
    Calls Try.prog 7 #[.pointer (some ⟨g, 0, none⟩), .int .i64 z] w fun e w' => YesIs B g l (i + 1) (s + z) w e w' := by
  have hc := take11_yes B g l i s z w hp hB e1 e2 b1 b2 b3 b4 b5
  clear e1
  go_enter Try.func7, Try.ntmps7
  go_wp2_with fail
  refine hc.mono ?_
  rintro e w' ⟨rfl, hq, hb⟩
  go_wp2_with fail
  go_ret
  exact ⟨rfl, hq, hb⟩

set_option maxRecDepth 100000 in
theorem items8 (g : Nat) (l i s : Int) (w : World) (hp : Pg w g l i s) :
    Calls Try.prog 8 #[.pointer (some ⟨g, 0, none⟩)] w fun e w' => e = .returned (.int .i64 i) ∧ w = w' := by
  have h1 := hp.c1
  go_enter Try.func8, Try.ntmps8
  go_wp2
  go_ret
  exact ⟨rfl, rfl⟩

set_option maxRecDepth 100000 in
theorem size9 (g : Nat) (l i s : Int) (w : World) (hp : Pg w g l i s) :
    Calls Try.prog 9 #[.pointer (some ⟨g, 0, none⟩)] w fun e w' => e = .returned (.int .i64 s) ∧ w = w' := by
  have h1 := hp.c2
  go_enter Try.func9, Try.ntmps9
  go_wp2
  go_ret
  exact ⟨rfl, rfl⟩

def IsB (p : Bool → Prop) (e : Ending) : Prop := ∃ b, e = .returned (.bool b) ∧ p b

set_option maxRecDepth 100000 in
theorem guard5 (a : Option Addr) (n c : Nat) (l : Int) (w : World) (h1 : n ≤ 9223372036854775807) :
    Calls Try.prog 5 #[.int .i64 l, .slice a n c] w fun e w' => IsB (fun b => b = true → n ≤ 1048576) e ∧ w = w' := by
  go_enter Try.func5, Try.ntmps5
  by_cases c1 : n ≤ 1048576
  · go_wp2
    go_ret
    exact ⟨⟨_, rfl, fun _ => c1⟩, rfl⟩
  · go_wp2
    go_ret
    exact ⟨⟨_, rfl, fun h => by cases h⟩, rfl⟩

set_option maxRecDepth 100000 in
theorem guard10 (a : Option Addr) (n c : Nat) (l : Int) (w : World) (h1 : n ≤ 9223372036854775807) :
    Calls Try.prog 10 #[.int .i64 l, .slice a n c] w fun e w' => IsB (fun b => b = true → n ≤ 1048576) e ∧ w = w' := by
  go_enter Try.func10, Try.ntmps10
  by_cases c1 : n ≤ 1048576
  · go_wp2
    go_ret
    exact ⟨⟨_, rfl, fun _ => c1⟩, rfl⟩
  · go_wp2
    go_ret
    exact ⟨⟨_, rfl, fun h => by cases h⟩, rfl⟩
end Go.Proofs.Qxb6625450a
