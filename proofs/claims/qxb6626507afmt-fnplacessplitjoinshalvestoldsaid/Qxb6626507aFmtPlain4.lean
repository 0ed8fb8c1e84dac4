/- The plain law of FnPlacesSplitJoinsHalves: the merge; the halves. -/
import Derived.Test.Qxb6626507aFmtPlain3
namespace Go.Proofs.Qxb6626507aFmt
set_option linter.unusedVariables false

/-- What has been merged of the first i of xs and the first j of ys. -/
structure Merged (xs ys : List Int) (i j : Nat) (ms : List Int) : Prop where
  inc : ms.Pairwise (· < ·)
  mem : ∀ z, z ∈ ms ↔ z ∈ xs.take i ∨ z ∈ ys.take j
  lo1 : i < xs.length → ∀ z ∈ ms, z < xs.getD i 0
  lo2 : j < ys.length → ∀ z ∈ ms, z < ys.getD j 0
  no1 : ∀ z ∈ xs.take i, z ∉ ys
  no2 : ∀ z ∈ ys.take j, z ∉ xs
  len : ms.length = i + j

theorem merged_start (xs ys : List Int) : Merged xs ys 0 0 [] :=
  ⟨List.Pairwise.nil, by simp, by simp, by simp, by simp, by simp, rfl⟩

theorem take_snoc_int {xs : List Int} {i : Nat} (h : i < xs.length) : xs.take (i + 1) = xs.take i ++ [xs.getD i 0] := by
  rw [List.take_succ_eq_append_getElem h, getD_of_lt h]

theorem not_mem_of_lt {ys : List Int} (hy : ys.Pairwise (· < ·)) {j : Nat} {x : Int} (h1 : ∀ z ∈ ys.take j, z < x) (h2 : j < ys.length → x < ys.getD j 0) : x ∉ ys := by
  intro hx
  obtain ⟨q, hq, e⟩ := List.getElem_of_mem hx
  rcases Nat.lt_or_ge q j with h | h
  · have : ys[q] ∈ ys.take j := by
      rw [List.mem_take_iff_getElem]
      exact ⟨q, by omega, rfl⟩
    have := h1 _ this
    omega
  · have h3 := h2 (by omega)
    rcases Nat.lt_or_ge j q with h4 | h4
    · have := lt_getD hy h4 hq
      rw [getD_of_lt hq, e] at this
      omega
    · have : q = j := by omega
      subst this
      rw [getD_of_lt hq, e] at h3
      omega

theorem pairwise_snoc {ms : List Int} {x : Int} (h : ms.Pairwise (· < ·)) (hx : ∀ z ∈ ms, z < x) : (ms ++ [x]).Pairwise (· < ·) := by
  rw [List.pairwise_append]
  exact ⟨h, by simp, fun a ha b hb => by simp at hb; rw [hb]; exact hx a ha⟩

/-- The next of xs is taken. -/
theorem merged_left {xs ys ms : List Int} {i j : Nat} (hx : xs.Pairwise (· < ·)) (hy : ys.Pairwise (· < ·)) (h : Merged xs ys i j ms) (hi : i < xs.length) (hlt : j < ys.length → xs.getD i 0 < ys.getD j 0) : Merged xs ys (i + 1) j (ms ++ [xs.getD i 0]) := by
  have hn : xs.getD i 0 ∉ ys := not_mem_of_lt hy (j := j) (fun z hz => h.lo1 hi z ((h.mem z).2 (.inr hz))) hlt
  refine ⟨pairwise_snoc h.inc (h.lo1 hi), fun z => ?_, fun hi2 z hz => ?_, fun hj z hz => ?_, fun z hz => ?_, h.no2, by simp [h.len]; omega⟩
  · rw [take_snoc_int hi, List.mem_append, List.mem_append, h.mem]
    constructor
    · rintro ((a | a) | a)
      · exact .inl (.inl a)
      · exact .inr a
      · exact .inl (.inr a)
    · rintro ((a | a) | a)
      · exact .inl (.inl a)
      · exact .inr a
      · exact .inl (.inr a)
  · have h2 := lt_getD hx (show i < i + 1 by omega) hi2
    rcases List.mem_append.1 hz with hz | hz
    · have := h.lo1 hi z hz
      omega
    · rw [List.mem_singleton.1 hz]; exact h2
  · rcases List.mem_append.1 hz with hz | hz
    · exact h.lo2 hj z hz
    · rw [List.mem_singleton.1 hz]; exact hlt hj
  · rw [take_snoc_int hi] at hz
    rcases List.mem_append.1 hz with hz | hz
    · exact h.no1 z hz
    · rw [List.mem_singleton.1 hz]; exact hn

theorem merged_swap {xs ys ms : List Int} {i j : Nat} (h : Merged xs ys i j ms) : Merged ys xs j i ms :=
  ⟨h.inc, fun z => (h.mem z).trans or_comm, h.lo2, h.lo1, h.no2, h.no1, by rw [h.len]; omega⟩

theorem merged_right {xs ys ms : List Int} {i j : Nat} (hx : xs.Pairwise (· < ·)) (hy : ys.Pairwise (· < ·)) (h : Merged xs ys i j ms) (hj : j < ys.length) (hlt : i < xs.length → ys.getD j 0 < xs.getD i 0) : Merged xs ys i (j + 1) (ms ++ [ys.getD j 0]) :=
  merged_swap (merged_left hy hx (merged_swap h) hj hlt)

/-- ms is the merge of two lists that share nothing. -/
def IsMerge (xs ys ms : List Int) : Prop := (∀ z ∈ xs, z ∉ ys) ∧ ms.Pairwise (· < ·) ∧ (∀ z, z ∈ ms ↔ z ∈ xs ∨ z ∈ ys) ∧ ms.length = xs.length + ys.length

theorem merged_end {xs ys ms : List Int} (h : Merged xs ys xs.length ys.length ms) : IsMerge xs ys ms := by
  refine ⟨fun z hz => h.no1 z (by rw [List.take_length]; exact hz), h.inc, fun z => ?_, h.len⟩
  have := h.mem z
  rw [List.take_length, List.take_length] at this
  exact this

theorem eq_of_inc : ∀ {l m : List Int}, l.Pairwise (· < ·) → m.Pairwise (· < ·) → (∀ z, z ∈ l ↔ z ∈ m) → l = m
  | [], [], _, _, _ => rfl
  | [], b :: m, _, _, h => by have := (h b).2 (by simp); simp at this
  | a :: l, [], _, _, h => by have := (h a).1 (by simp); simp at this
  | a :: l, b :: m, hl, hm, h => by
    rw [List.pairwise_cons] at hl hm
    have e : a = b := by
      have h1 := (h a).1 (by simp)
      have h2 := (h b).2 (by simp)
      rcases List.mem_cons.1 h1 with h1 | h1
      · exact h1
      · rcases List.mem_cons.1 h2 with h2 | h2
        · exact h2.symm
        · have := hm.1 a h1
          have := hl.1 b h2
          omega
    subst e
    have ih := eq_of_inc hl.2 hm.2 (fun z => by
      have := h z
      simp only [List.mem_cons] at this
      constructor
      · intro hz
        rcases this.1 (.inr hz) with e | e
        · have := hl.1 z hz; omega
        · exact e
      · intro hz
        rcases this.2 (.inr hz) with e | e
        · have := hm.1 z hz; omega
        · exact e)
    rw [ih]

/-- The halves' places share nothing just if the IDs share nothing. -/
theorem share_iff {ids r1 r2 : List ByteArray} {z1 z2 : List Int} (hids : ids.Nodup) (g1 : ∀ s ∈ r1, s ∈ ids) (h1 : IsPlaces ids r1 z1) (h2 : IsPlaces ids r2 z2) : (∀ z ∈ z1, z ∉ z2) ↔ ∀ s ∈ r1, s ∉ r2 := by
  constructor
  · intro h s hs hs2
    obtain ⟨j, hj⟩ := At.of_mem (g1 s hs)
    exact h j ((h1.2 _).2 ⟨j, s, rfl, hj, hs⟩) ((h2.2 _).2 ⟨j, s, rfl, hj, hs2⟩)
  · intro h z hz hz2
    obtain ⟨j, s, rfl, ha, hs⟩ := (h1.2 _).1 hz
    obtain ⟨j', s', e, ha', hs'⟩ := (h2.2 _).1 hz2
    have ej : j' = j := by omega
    subst ej
    have : s = s' := by rw [← ha.2, ← ha'.2]
    subst this
    exact h s hs hs'

theorem good_left {ids req : List ByteArray} {k : Nat} (h : Good ids req) : Good ids (req.take k) := ⟨fun s hs => h.1 s (List.mem_of_mem_take hs), h.2.sublist (List.take_sublist k req)⟩
theorem good_right {ids req : List ByteArray} {k : Nat} (h : Good ids req) : Good ids (req.drop k) := ⟨fun s hs => h.1 s (List.mem_of_mem_drop hs), h.2.sublist (List.drop_sublist k req)⟩

theorem good_parts {ids req : List ByteArray} {k : Nat} (h : Good ids req) : ∀ s ∈ req.take k, s ∉ req.drop k := by
  have := h.2
  rw [← List.take_append_drop k req, List.nodup_append] at this
  intro s hs hs2
  exact this.2.2 s hs s hs2 rfl

theorem good_join {ids req : List ByteArray} {k : Nat} (h1 : Good ids (req.take k)) (h2 : Good ids (req.drop k)) (h : ∀ s ∈ req.take k, s ∉ req.drop k) : Good ids req := by
  rw [← List.take_append_drop k req]
  refine ⟨fun s hs => (List.mem_append.1 hs).elim (h1.1 s) (h2.1 s), ?_⟩
  rw [List.nodup_append]
  exact ⟨h1.2, h2.2, fun a ha b hb e => h a ha (e ▸ hb)⟩

theorem same_places {ids req : List ByteArray} {k : Nat} {zs z1 z2 ms : List Int} (h : IsPlaces ids req zs) (h1 : IsPlaces ids (req.take k) z1) (h2 : IsPlaces ids (req.drop k) z2) (hm : IsMerge z1 z2 ms) : zs = ms := by
  refine eq_of_inc h.1 hm.2.1 fun z => ?_
  rw [h.2, hm.2.2.1, h1.2, h2.2]
  constructor
  · rintro ⟨j, s, e, ha, hs⟩
    rw [← List.take_append_drop k req] at hs
    rcases List.mem_append.1 hs with hs | hs
    · exact .inl ⟨j, s, e, ha, hs⟩
    · exact .inr ⟨j, s, e, ha, hs⟩
  · rintro (⟨j, s, e, ha, hs⟩ | ⟨j, s, e, ha, hs⟩)
    · exact ⟨j, s, e, ha, List.mem_of_mem_take hs⟩
    · exact ⟨j, s, e, ha, List.mem_of_mem_drop hs⟩

/-- Which of the IDs' places have been seen. -/
def SeenAt (ids rs : List ByteArray) (bs : List Bool) : Prop :=
  bs.length = ids.length ∧ ∀ j, j < ids.length → (ids.getD j ByteArray.empty ∈ rs → bs.getD j false = true) ∧ (ids.getD j ByteArray.empty ∉ rs → bs.getD j false = false)

theorem seenAt_none (ids : List ByteArray) : SeenAt ids [] (List.replicate ids.length false) := by
  refine ⟨by simp, fun j hj => ⟨fun h => by simp at h, fun _ => ?_⟩⟩
  rw [getD_of_lt (by simpa using hj)]
  simp

theorem seenAt_step {ids rs : List ByteArray} {bs : List Bool} (hids : ids.Nodup) (h : SeenAt ids rs bs) {s : ByteArray} {j : Nat} (ha : At ids s j) : SeenAt ids (rs ++ [s]) (bs.set j true) := by
  refine ⟨by simp [h.1], fun i hi => ?_⟩
  have hc : i < bs.length := by rw [h.1]; exact hi
  by_cases e : i = j
  · subst e
    have e1 : (bs.set i true).getD i false = true := by rw [List.getD, List.getElem?_set_self hc]; rfl
    rw [e1]
    refine ⟨fun _ => rfl, fun hn => absurd ?_ hn⟩
    rw [ha.2]; simp
  · have e1 : (bs.set j true).getD i false = bs.getD i false := by
      rw [List.getD, List.getD, List.getElem?_set_ne (by omega)]
    have e2 : ids.getD i ByteArray.empty ≠ s := by
      intro h'
      exact e (At.place hids ⟨hi, h'⟩ ha)
    rw [e1]
    refine ⟨fun hm => (h.2 i hi).1 ?_, fun hn => (h.2 i hi).2 fun hm => hn (List.mem_append_left _ hm)⟩
    rcases List.mem_append.1 hm with hm | hm
    · exact hm
    · exact absurd (List.mem_singleton.1 hm) e2
end Go.Proofs.Qxb6626507aFmt
