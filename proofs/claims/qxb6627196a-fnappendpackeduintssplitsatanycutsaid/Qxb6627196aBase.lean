/- Seat b6627196a: the plain words: the bytes that AppendPackedUints appends; what a slice of bytes and one of uint64 is told as. -/
import Derived.Test.Qxb6627196aProg
import Derived.WalkKit
import Derived.WalkLawsBesides
import Derived.WalkSpells
import Derived.OwnWalk
import Derived.Lib.Walk
import Derived.Lib.VarintMem
import Derived.Lib.VarintBits
import Derived.Lib.Slices
import Derived.Laws.Closers25b
namespace Go.Proofs.Qxb6627196a
open Go.RowKit

/-- The varints of vs, one behind the other. -/
def body : List Nat → List UInt8
  | [] => []
  | v :: r => Lib.uvarint v ++ body r

theorem body_append (a b : List Nat) : body (a ++ b) = body a ++ body b := by
  induction a with
  | nil => rfl
  | cons v r ih => simp [body, ih]

theorem body_length_le (vs : List Nat) (h : ∀ v ∈ vs, v < 18446744073709551616) : (body vs).length ≤ 10 * vs.length := by
  induction vs with
  | nil => simp [body]
  | cons v r ih =>
    have h1 := Lib.uvarint_length64 (h v (by simp))
    have h2 := ih (fun u hu => h u (by simp [hu]))
    simp [body]
    omega

theorem body_length_ge (vs : List Nat) : vs.length ≤ (body vs).length := by
  induction vs with
  | nil => simp [body]
  | cons v r ih =>
    have h1 := Lib.uvarint_pos v
    simp [body]
    omega

theorem take_succ_getD (vs : List Nat) (k : Nat) (h : k < vs.length) : vs.take (k + 1) = vs.take k ++ [vs.getD k 0] := by
  rw [List.take_succ_eq_append_getElem h]
  simp [List.getD, h]

theorem body_take_succ (vs : List Nat) (k : Nat) (h : k < vs.length) : body (vs.take (k + 1)) = body (vs.take k) ++ Lib.uvarint (vs.getD k 0) := by
  rw [take_succ_getD vs k h, body_append]
  simp [body]

/-- The tag's number: num * 8 + 2 in 64 bits. -/
def tagOf (num : Int) : Nat := ((num * 8 + 2) % 18446744073709551616).toNat

theorem tagOf_lt (num : Int) : tagOf num < 18446744073709551616 := by unfold tagOf; omega

/-- What AppendPackedUints appends. -/
def packed (num : Int) (vs : List Nat) : List UInt8 :=
  if vs = [] then [] else Lib.uvarint (tagOf num) ++ (Lib.uvarint (body vs).length ++ body vs)

/-- A slice of uint64 whose elements are vs, in a block below B. -/
def Us (w : World) (B : Nat) (a : Option Addr) (vs : List Nat) : Prop :=
  vs = [] ∨ ∃ b off, a = some ⟨b, off, none⟩ ∧ b < B ∧ ∀ j, j < vs.length → w.cell? ⟨b, off + j, none⟩ = some (.int .u64 ((vs.getD j 0 : Nat) : Int))

theorem Us.below {w w' : World} {B C : Nat} {a : Option Addr} {vs : List Nat} (h : Us w B a vs) (hb : Below C w w') (hBC : B ≤ C) : Us w' B a vs := by
  rcases h with h | ⟨b, off, rfl, hl, hc⟩
  · exact .inl h
  · exact .inr ⟨b, off, rfl, hl, fun j hj => (hb.cell (p := ⟨b, off + j, none⟩) (Nat.lt_of_lt_of_le hl hBC)).trans (hc j hj)⟩

theorem Us.wider {w : World} {B C : Nat} {a : Option Addr} {vs : List Nat} (h : Us w B a vs) (hBC : B ≤ C) : Us w C a vs := by
  rcases h with h | ⟨b, off, rfl, hl, hc⟩
  · exact .inl h
  · exact .inr ⟨b, off, rfl, Nat.lt_of_lt_of_le hl hBC, hc⟩

theorem Us.ways {w : World} {B : Nat} {a : Option Addr} {vs : List Nat} (h : Us w B a vs) :
    vs.length ≤ 0 ∨ ∃ b off, a = some ⟨b, off, none⟩ ∧ b < B ∧ ∀ j, j < vs.length → w.cell? ⟨b, off + j, none⟩ = some (.int .u64 ((vs.getD j 0 : Nat) : Int)) := by
  rcases h with rfl | h
  · exact .inl (Nat.le_refl _)
  · exact .inr h

/-- A slice of bytes whose elements are l. -/
def Bs (w : World) (a : Option Addr) (l : List UInt8) : Prop :=
  l = [] ∨ ∃ b off, a = some ⟨b, off, none⟩ ∧ b < w.heap.size ∧ ∀ j, j < l.length → w.cell? ⟨b, off + j, none⟩ = some (.int .u8 ((l.getD j 0).toNat : Int))

theorem Bs.ways {w : World} {a : Option Addr} {l : List UInt8} (h : Bs w a l) :
    l.length ≤ 0 ∨ ∃ b off, a = some ⟨b, off, none⟩ ∧ b < w.heap.size ∧ ∀ j, j < l.length → w.cell? ⟨b, off + j, none⟩ = some (.int .u8 ((l.getD j 0).toNat : Int)) := by
  rcases h with rfl | h
  · exact .inl (Nat.le_refl _)
  · exact .inr h

theorem Bs.below {w w' : World} {a : Option Addr} {l : List UInt8} (h : Bs w a l) (hb : Below w.heap.size w w') : Bs w' a l := by
  rcases h with h | ⟨b, off, rfl, hl, hc⟩
  · exact .inl h
  · exact .inr ⟨b, off, rfl, Nat.lt_of_lt_of_le hl hb.size, fun j hj => (hb.cell (p := ⟨b, off + j, none⟩) hl).trans (hc j hj)⟩

/-- The first n of a slice of bytes. -/
theorem Bs.take {w : World} {a : Option Addr} {l : List UInt8} (h : Bs w a l) (n : Nat) : Bs w a (l.take n) := by
  rcases h with h | ⟨b, off, rfl, hl, hc⟩
  · subst h; exact .inl (by simp)
  · refine .inr ⟨b, off, rfl, hl, fun j hj => ?_⟩
    have hj2 : j < l.length ∧ j < n := by simp at hj; omega
    rw [hc j hj2.1]
    simp [List.getD, hj2.2]

/-- What is owned reads. -/
theorem Bs.of_owns {w : World} {B n : Nat} {v : Value} {l : List UInt8} (h : w.ownsRow B 5 1 v n (Lib.byteCells l)) :
    ∃ a c, v = .slice a l.length c ∧ l.length ≤ c ∧ c ≤ maxLen ∧ (a = none → c = 0) ∧ Bs w a l := by
  have hn : l.length = n := by have := h.1; simpa [Lib.byteCells] using this
  rcases h.2 with ⟨rfl, rfl⟩ | ⟨g, cap, cur, rfl, hB, hg, hc1, hc2, hs, ht⟩
  · exact ⟨none, 0, by rw [hn], by omega, by simp [maxLen], fun _ => rfl, .inl (List.eq_nil_of_length_eq_zero hn)⟩
  · refine ⟨_, cap, by rw [hn], by omega, hc2, (fun h => by cases h), .inr ⟨g, 0, rfl, (Array.getElem?_eq_some_iff.1 hg).1, fun j hj => ?_⟩⟩
    have := h.cells (g := g) rfl j (.int .u8 ((l.getD j 0).toNat : Int)) (by simp [Lib.byteCells, List.getD, hj])
    rw [Addr.add_lit] at this
    exact this

end Go.Proofs.Qxb6627196a
