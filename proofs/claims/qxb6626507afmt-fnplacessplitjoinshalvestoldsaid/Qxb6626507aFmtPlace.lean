/- (*List).Place: the look-up in the map that the field leads to. -/
import Derived.Test.Qxb6626507aFmtMaps
import Derived.Test.Qxb6626507aFmtPlain
namespace Go.Proofs.Qxb6626507aFmt
open Go.RowKit Go.WideMaps Go.Maps
set_option linter.unusedVariables false

theorem at_or (ids : List ByteArray) (s : ByteArray) : s ∉ ids ∨ ∃ j, At ids s j := by
  by_cases h : s ∈ ids
  · exact .inr (At.of_mem h)
  · exact .inl h

/-- What the look-up 'v, ok := m[s]' hands over. -/
theorem look_places {w : World} {b : Nat} {ids : List ByteArray} (hm : MapIs w b ids) {s : ByteArray} (hs : s.size ≤ maxLen) :
    (s ∉ ids ∧ ∃ c : Int, (Instr.lookup 28 (.map (some b)) (.string s) true).run Tryf.prog w = .ok (.tuple #[.int .i64 c, .bool false]) w) ∨
    ∃ j : Nat, At ids s j ∧ (Instr.lookup 28 (.map (some b)) (.string s) true).run Tryf.prog w = .ok (.tuple #[.int .i64 j, .bool true]) w := by
  obtain ⟨D, hown, hidx⟩ := hm
  obtain ⟨v, ps, hrun, hv⟩ := hown.look_ok law9 Tryf.underlying28 (zero3 _) (plainElem_int Tryf.underlying3 (a := 0) (by decide)) (key_ok hs)
  obtain ⟨c, rfl, hc, _⟩ := plainElem_int_inv Tryf.underlying3 hv
  have hc' : D.atKey (key s) (.lit (.int .i64 0)) = .lit (.int .i64 c) := congrArg Prod.fst hc
  rcases at_or ids s with h | ⟨j, hj, hj2⟩
  · rw [hidx.2.1 s h] at hrun
    exact .inl ⟨h, c, hrun⟩
  · subst hj2
    obtain ⟨h1, h2⟩ := hidx.2.2 j hj
    rw [h2] at hc'
    simp at hc'
    subst hc'
    rw [h1] at hrun
    exact .inr ⟨j, ⟨hj, rfl⟩, hrun⟩

theorem place14_no (L m : Nat) (ids : List ByteArray) (s : ByteArray) (w : World) (c : Int) (hc : w.cell? ⟨L, 2, none⟩ = some (.map (some m)))
    (hrun : (Instr.lookup 28 (.map (some m)) (.string s) true).run Tryf.prog w = .ok (.tuple #[.int .i64 c, .bool false]) w) :
    Calls Tryf.prog 14 #[.pointer (some ⟨L, 0, none⟩), .string s] w fun e w' => e = .returned (.tuple #[.int .i64 c, .bool false]) ∧ w = w' := by
  go_enter Tryf.func14, Tryf.ntmps14
  go_wp2
  go_ret2
  exact ⟨rfl, rfl⟩

theorem place14_yes (L m : Nat) (ids : List ByteArray) (s : ByteArray) (w : World) (j : Nat) (hc : w.cell? ⟨L, 2, none⟩ = some (.map (some m)))
    (hrun : (Instr.lookup 28 (.map (some m)) (.string s) true).run Tryf.prog w = .ok (.tuple #[.int .i64 j, .bool true]) w) :
    Calls Tryf.prog 14 #[.pointer (some ⟨L, 0, none⟩), .string s] w fun e w' => e = .returned (.tuple #[.int .i64 j, .bool true]) ∧ w = w' := by
  go_enter Tryf.func14, Tryf.ntmps14
  go_wp2
  go_ret2
  exact ⟨rfl, rfl⟩
end Go.Proofs.Qxb6626507aFmt
