/- (Statement).String: its words by the shelf's strings.Fields and strings.Join. -/
import Derived.Test.Qxb6626914aDoorLays
import Derived.Test.Qxb6626914aDoorBase
import Derived.Lib.SpaceUEq
import Derived.WalkSmall
namespace Go.Proofs.Qxb6626914aDoor
open Go.RowKit Go.Lib
set_option linter.unusedVariables false

theorem extra : Builder.Extra Tryd.prog Tryd.lays156_ren := {
  sizeBuilder := by kernel_rfl
  liesBuilder := by kernel_rfl
  t5 := Tryd.lays157.t5
  a5 := Tryd.lays157.a5
  z5 := Tryd.lays157.z5
  v5 := Tryd.lays157.v5
  infoByte := by kernel_rfl
  cellsByte := by kernel_rfl
  sizeByte := by kernel_rfl
  neB5 := by decide }

theorem named0 : Tryd.prog.globalNamed "strings.asciiSpace" = some 0 := by kernel_rfl

/-- The two tables hold what their initialisers lay. -/
def Tabs (w : World) : Prop := TabIs Tryd.prog w "strings.asciiSpace" .u8 asciiSpaceTab ∧ WhiteTab 1 w

theorem lt_of_cell {w : World} {a : Addr} {v : Value} (h : w.cell? a = some v) : a.block < w.heap.size := by
  unfold World.cell? at h
  rcases Nat.lt_or_ge a.block w.heap.size with h' | h'
  · exact h'
  · rw [Array.getElem?_eq_none h'] at h
    simp at h

theorem Tabs.below {w w' : World} (h : Tabs w) (hb : Below w.heap.size w w') : Tabs w' := by
  obtain ⟨h1, T, oT, R, oR, c0, c1, c2, c3, c4⟩ := h
  have h0 : 0 < w.heap.size := lt_of_cell (h1.cell named0 0 (by rw [asciiSpaceTab_length]; omega))
  have up : ∀ {b o : Nat} {v : Value}, w.cell? ⟨b, o, none⟩ = some v → w'.cell? ⟨b, o, none⟩ = some v := fun {b o v} hc => (hb.cell (p := ⟨b, o, none⟩) (lt_of_cell hc)).trans hc
  exact ⟨var?_below hb named0 h0 h1, T, oT, R, oR, up c0, up c1, up c2, up c3, fun i hi => up (c4 i hi)⟩

/-- What strings.Fields hands back, as strings.Join asks it. -/
def IsWords (l : List UInt8) (e : Ending) (w' : World) : Prop :=
  ∃ (A : Nat) (xs : List ByteArray), e = .returned (.slice (some ⟨A, 0, none⟩) xs.length xs.length) ∧ A < w'.heap.size ∧ (∀ (j : Nat) x, xs[j]? = some x → w'.cell? ⟨A, 0 + j, none⟩ = some (.string x)) ∧ xs.map (·.data.toList) = fieldsU l

theorem fields11 (s : ByteArray) (w : World) (ht : Tabs w) (hs : s.size ≤ 4194304) :
    Calls Tryd.prog 11 #[.string s] w fun e w' => IsWords s.data.toList e w' ∧ Below w.heap.size w w' := by
  refine (Any.strings_Fields_any Tryd.lays157 (by kernel_rfl) (by kernel_rfl) named0 s w (by omega) ht.1 ht.2).mono ?_
  rintro e w' ⟨A, rfl, hA, hown, hb⟩
  refine ⟨⟨A, (fieldsD s.data.toList).map fun x => ⟨x.toArray⟩, by rw [List.length_map], ?_, fun j x hx => ?_, ?_⟩, hb⟩
  · rcases hown.2 with ⟨h, _⟩ | ⟨g, cap, cur, h, _, hg, _⟩
    · cases h
    · cases h; exact (Array.getElem?_eq_some_iff.1 hg).1
  · rw [List.getElem?_map] at hx
    obtain ⟨y, hy, rfl⟩ := Option.map_eq_some_iff.1 hx
    have hj := (List.getElem?_eq_some_iff.1 hy).1
    rw [Nat.zero_add, hown.cellAt j (by omega), List.getElem?_map, hy]
    rfl
  · rw [List.map_map, fieldsU_eq]
    simp [Function.comp_def]

theorem sum_len (l : List UInt8) : (fieldsU l).length ≤ l.length + 1 := by
  have h := go_sum (l.length + 1) [] l (by omega)
  have h2 : ∀ xs : List (List UInt8), xs.length ≤ (xs.map (fun x => x.length + 1)).sum := fun xs => by
    induction xs with
    | nil => simp
    | cons x r ih => simp; omega
  have := h2 (fieldsU l)
  unfold fieldsU at this ⊢
  simp at h
  omega

theorem join10 {l : List UInt8} {A : Nat} {xs : List ByteArray} {w : World} (hA : A < w.heap.size) (hc : ∀ (j : Nat) x, xs[j]? = some x → w.cell? ⟨A, 0 + j, none⟩ = some (.string x)) (hx : xs.map (·.data.toList) = fieldsU l) (hl : l.length ≤ 4194304) :
    Calls Tryd.prog 10 #[.slice (some ⟨A, 0, none⟩) xs.length xs.length, .string ⟨#[32]⟩] w fun e w' => e = .returned (S (echo l)) ∧ Below w.heap.size w w' := by
  have hn : xs.length ≤ l.length + 1 := by
    have := sum_len l
    rw [← hx, List.length_map] at this
    exact this
  have he := echo_len l
  have hj : join (xs.map (·.data.toList)) (⟨#[32]⟩ : ByteArray).data.toList = echo l := by rw [hx]; rfl
  refine (Any.strings_Join Tryd.lays156 extra A 0 xs.length xs ⟨#[32]⟩ w hc hA (by omega) (Nat.le_refl _) (by rw [hj]; omega)).mono ?_
  rw [hj]
  exact fun e w' h => h

/-- The prompt ahead of an echoed text. -/
def prompt (s t : List UInt8) : List UInt8 := if s = [] then t else s ++ [32, 62, 32] ++ t

set_option maxRecDepth 100000 in
theorem string6 (session text : ByteArray) (n : Int) (x : Bool) (w : World) (ht : Tabs w) (hs : session.size ≤ 1048577) (htx : text.size ≤ 4194304) :
    Calls Tryd.prog 6 #[.agg #[.string session, .string text, .int .i64 n, .bool x]] w fun e w' => e = .returned (S (prompt session.data.toList (echo text.data.toList))) ∧ Below w.heap.size w w' := by
  have hal : ∀ o : Obj, Below w.heap.size w (w.alloc o) := fun o => (Below.refl _ _).alloc (Nat.le_refl _) o
  have hf := fields11 text (w.alloc (.cells #[.string session, .string text, .int .i64 n, .bool x] 24)) (ht.below (hal _)) htx
  by_cases hse : session.data.toList = []
  · have hse2 : session = ⟨#[]⟩ := by
      apply ByteArray.ext
      apply Array.toList_inj.1
      exact hse
    subst hse2
    rw [show prompt (⟨#[]⟩ : ByteArray).data.toList (echo text.data.toList) = echo text.data.toList from rfl]
    clear hse
    go_enter Tryd.func6, Tryd.ntmps6
    go_wp2_with fail
    refine hf.mono ?_
    rintro e w1 ⟨⟨A, xs, rfl, hA, hc, hx⟩, hb1⟩
    have hjn := join10 hA hc hx htx
    have k0 : w1.cell? ⟨w.heap.size, 0, none⟩ = some (.string ⟨#[]⟩) := (hb1.cell (p := ⟨w.heap.size, 0, none⟩) (by simp)).trans (by go_simp)
    have hz : w.heap.size < w1.heap.size := by have := hb1.size; simp at this; omega
    clear hf hc
    go_wp2_with fail
    refine hjn.mono ?_
    rintro e w2 ⟨rfl, hb2⟩
    have k0' := (hb2.cell (p := ⟨w.heap.size, 0, none⟩) hz).trans k0
    clear hjn
    unfold S
    go_wp2_with fail
    go_ret
    exact ⟨rfl, ((hal _).trans (hb1.mono (by simp))).trans (hb2.mono (Nat.le_of_lt hz))⟩
  · rw [show prompt session.data.toList (echo text.data.toList) = session.data.toList ++ [32, 62, 32] ++ echo text.data.toList by unfold prompt; rw [if_neg hse]]
    have hse1 : session.toList.isEmpty = false := by
      rw [ByteArray.toList_eq]
      cases h : session.data.toList with
      | nil => exact absurd h hse
      | cons a t => rfl
    have hel := echo_len text.data.toList
    have hsz : text.data.toList.length = text.size := rfl
    clear hse
    go_enter Tryd.func6, Tryd.ntmps6
    go_wp2_with fail
    refine hf.mono ?_
    rintro e w1 ⟨⟨A, xs, rfl, hA, hc, hx⟩, hb1⟩
    have hjn := join10 hA hc hx htx
    have k0 : w1.cell? ⟨w.heap.size, 0, none⟩ = some (.string session) := (hb1.cell (p := ⟨w.heap.size, 0, none⟩) (by simp)).trans (by go_simp)
    have hz : w.heap.size < w1.heap.size := by have := hb1.size; simp at this; omega
    clear hf hc
    go_wp2_with fail
    refine hjn.mono ?_
    rintro e w2 ⟨rfl, hb2⟩
    have k0' := (hb2.cell (p := ⟨w.heap.size, 0, none⟩) hz).trans k0
    clear hjn
    obtain ⟨E, hE⟩ : ∃ E, E = echo text.data.toList := ⟨_, rfl⟩
    rw [← hE] at hel ⊢
    have HE : Hid (E = echo text.data.toList) := hE
    clear hE
    unfold S
    go_wp2_with fail
    go_ret
    refine ⟨?_, ((hal _).trans (hb1.mono (by simp))).trans (hb2.mono (Nat.le_of_lt hz))⟩
    rw [← HE.out]
    exact congrArg (fun b => Ending.returned (.string b)) (by apply ByteArray.ext; simp)
end Go.Proofs.Qxb6626914aDoor
