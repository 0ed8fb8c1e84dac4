/- The plain law of FnPlacesMatchCountModel: the counts, and the walk along the sorted places. -/
import Derived.Test.Qxb6626507aFmtPlain
namespace Go.Proofs.Qxb6626507aFmt
set_option linter.unusedVariables false

/-- cs counts, place by place, whether rs names the ID. -/
def Counts (ids rs : List ByteArray) (cs : List Int) : Prop :=
  cs.length = ids.length ∧ ∀ j, j < ids.length → (ids.getD j ByteArray.empty ∈ rs → cs.getD j 0 = 1) ∧ (ids.getD j ByteArray.empty ∉ rs → cs.getD j 0 = 0)

theorem counts_none (ids : List ByteArray) : Counts ids [] (List.replicate ids.length 0) := by
  refine ⟨by simp, fun j hj => ⟨fun h => by simp at h, fun _ => ?_⟩⟩
  rw [getD_of_lt (by simpa using hj)]
  simp

theorem counts_step {ids rs : List ByteArray} {cs : List Int} (hids : ids.Nodup) (h : Counts ids rs cs) {s : ByteArray} {j : Nat} (ha : At ids s j) : Counts ids (rs ++ [s]) (cs.set j 1) := by
  refine ⟨by simp [h.1], fun i hi => ?_⟩
  have hc : i < cs.length := by rw [h.1]; exact hi
  by_cases e : i = j
  · subst e
    have e1 : (cs.set i 1).getD i 0 = 1 := by rw [List.getD, List.getElem?_set_self hc]; rfl
    rw [e1]
    refine ⟨fun _ => rfl, fun hn => absurd ?_ hn⟩
    rw [ha.2]; simp
  · have e1 : (cs.set j 1).getD i 0 = cs.getD i 0 := by
      rw [List.getD, List.getD, List.getElem?_set_ne (by omega)]
    have e2 : ids.getD i ByteArray.empty ≠ s := by
      intro h'
      exact e (At.place hids ⟨hi, h'⟩ ha)
    rw [e1]
    refine ⟨fun hm => (h.2 i hi).1 ?_, fun hn => (h.2 i hi).2 fun hm => hn (List.mem_append_left _ hm)⟩
    rcases List.mem_append.1 hm with hm | hm
    · exact hm
    · exact absurd (List.mem_singleton.1 hm) e2

theorem bad_not_in {ids req : List ByteArray} {s : ByteArray} (hm : s ∈ req) (hn : s ∉ ids) : ¬ Good ids req := fun h => hn (h.1 s hm)

theorem bad_again {ids req rs : List ByteArray} {s : ByteArray} {k : Nat} (e : req.take (k + 1) = req.take k ++ [s]) (hm : s ∈ req.take k) : ¬ Good ids req := by
  intro h
  have := h.2.sublist (List.take_sublist (k + 1) req)
  rw [e, List.nodup_append] at this
  exact this.2.2 s hm s (by simp) rfl

theorem good_end {ids req : List ByteArray} {k : Nat} (hk : req.length ≤ k) (h1 : ∀ s ∈ req.take k, s ∈ ids) (h2 : (req.take k).Nodup) : Good ids req := by
  rw [List.take_of_length_le hk] at h1 h2
  exact ⟨h1, h2⟩

/-- The first p of zs lie below k, the others do not. -/
def Up (zs : List Int) (k p : Nat) : Prop := p ≤ zs.length ∧ (∀ q, q < p → zs.getD q 0 < (k : Int)) ∧ (∀ q, p ≤ q → q < zs.length → (k : Int) ≤ zs.getD q 0)

theorem getD_mem' {zs : List Int} {q : Nat} (h : q < zs.length) : zs.getD q 0 ∈ zs := by rw [getD_of_lt h]; exact List.getElem_mem h

theorem up_start {ids req : List ByteArray} {zs : List Int} (h : IsPlaces ids req zs) : Up zs 0 0 := by
  refine ⟨Nat.zero_le _, fun q hq => absurd hq (by omega), fun q _ hq => ?_⟩
  obtain ⟨j, s, e, _⟩ := (h.2 _).1 (getD_mem' hq)
  omega

theorem lt_getD {zs : List Int} (h : zs.Pairwise (· < ·)) {i j : Nat} (hij : i < j) (hj : j < zs.length) : zs.getD i 0 < zs.getD j 0 := by
  rw [getD_of_lt hj, getD_of_lt (by omega : i < zs.length)]
  exact List.pairwise_iff_getElem.1 h i j (by omega) hj hij

theorem up_hit {ids req : List ByteArray} {zs : List Int} {k p : Nat} (h : IsPlaces ids req zs) (hk : k < ids.length) (hm : ids.getD k ByteArray.empty ∈ req) (hu : Up zs k p) : p < zs.length ∧ zs.getD p 0 = (k : Int) ∧ Up zs (k + 1) (p + 1) := by
  have hz : (k : Int) ∈ zs := (h.2 _).2 ⟨k, _, rfl, ⟨hk, rfl⟩, hm⟩
  obtain ⟨q, hq, e⟩ := List.getElem_of_mem hz
  have e' : zs.getD q 0 = (k : Int) := by rw [getD_of_lt hq]; exact e
  have hpq : p ≤ q := by
    rcases Nat.lt_or_ge q p with h' | h'
    · have := hu.2.1 q h'; omega
    · exact h'
  have hqp : q = p := by
    rcases Nat.lt_or_ge p q with h' | h'
    · have h1 := lt_getD h.1 h' hq
      have h2 := hu.2.2 p (Nat.le_refl _) (by omega)
      omega
    · omega
  subst hqp
  refine ⟨hq, e', by omega, fun r hr => ?_, fun r hr hl => ?_⟩
  · by_cases er : r = q
    · subst er; omega
    · have := hu.2.1 r (by omega); omega
  · have := lt_getD h.1 (show q < r by omega) hl
    omega

theorem up_miss {ids req : List ByteArray} {zs : List Int} {k p : Nat} (hids : ids.Nodup) (h : IsPlaces ids req zs) (hk : k < ids.length) (hm : ids.getD k ByteArray.empty ∉ req) (hu : Up zs k p) : Up zs (k + 1) p := by
  refine ⟨hu.1, fun q hq => by have := hu.2.1 q hq; omega, fun q hq hl => ?_⟩
  have h1 := hu.2.2 q hq hl
  have h2 : zs.getD q 0 ≠ (k : Int) := by
    intro e
    obtain ⟨j, s, ej, ha, hs⟩ := (h.2 _).1 (getD_mem' hl)
    have : j = k := by omega
    subst this
    exact hm (ha.2 ▸ hs)
  omega

theorem up_end {ids req : List ByteArray} {zs : List Int} {k p : Nat} (h : IsPlaces ids req zs) (hk : ids.length ≤ k) (hu : Up zs k p) : p = zs.length := by
  rcases Nat.lt_or_ge p zs.length with h' | h'
  · have h1 := hu.2.2 p (Nat.le_refl _) h'
    obtain ⟨j, s, ej, ha, hs⟩ := (h.2 _).1 (getD_mem' h')
    have := ha.1
    omega
  · have := hu.1; omega
end Go.Proofs.Qxb6626507aFmt
