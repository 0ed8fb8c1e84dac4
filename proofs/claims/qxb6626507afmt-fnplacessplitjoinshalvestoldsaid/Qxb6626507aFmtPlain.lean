/- The plain law of Places: lists alone, no Go. -/
namespace Go.Proofs.Qxb6626507aFmt
set_option linter.unusedVariables false

/-- s stands at place j of ids. -/
def At (ids : List ByteArray) (s : ByteArray) (j : Nat) : Prop := j < ids.length ∧ ids.getD j ByteArray.empty = s

/-- js are the places of req, one by one. -/
def Pl (ids req : List ByteArray) (js : List Nat) : Prop := js.length = req.length ∧ ∀ i, i < req.length → At ids (req.getD i ByteArray.empty) (js.getD i 0)

/-- The request names IDs of the list alone, none twice. -/
def Good (ids req : List ByteArray) : Prop := (∀ s ∈ req, s ∈ ids) ∧ req.Nodup

/-- zs are the places of req's IDs, in increasing order. -/
def IsPlaces (ids req : List ByteArray) (zs : List Int) : Prop := zs.Pairwise (· < ·) ∧ ∀ z, z ∈ zs ↔ ∃ (j : Nat) (s : ByteArray), z = (j : Int) ∧ At ids s j ∧ s ∈ req

theorem getD_of_lt {α : Type} {l : List α} {i : Nat} {d : α} (h : i < l.length) : l.getD i d = l[i] := by rw [List.getD, List.getElem?_eq_getElem h]; rfl

theorem nodup_inj {α : Type} {l : List α} (h : l.Nodup) {i j : Nat} {hi : i < l.length} {hj : j < l.length} (e : l[i] = l[j]) : i = j := by
  rw [List.Nodup, List.pairwise_iff_getElem] at h
  rcases Nat.lt_trichotomy i j with h1 | h1 | h1
  · exact absurd e (h i j hi hj h1)
  · exact h1
  · exact absurd e.symm (h j i hj hi h1)

theorem nodup_of {α : Type} {l : List α} (h : ∀ (i j : Nat) (hi : i < l.length) (hj : j < l.length), i < j → l[i] = l[j] → False) : l.Nodup := by
  rw [List.Nodup, List.pairwise_iff_getElem]
  intro i j hi hj hij e
  exact h i j hi hj hij e

theorem At.mem {ids : List ByteArray} {s : ByteArray} {j : Nat} (h : At ids s j) : s ∈ ids := by
  obtain ⟨h1, h2⟩ := h
  rw [getD_of_lt h1] at h2
  rw [← h2]
  exact List.getElem_mem h1

theorem At.place {ids : List ByteArray} (hn : ids.Nodup) {s : ByteArray} {i j : Nat} (h : At ids s i) (h' : At ids s j) : i = j := by
  obtain ⟨h1, h2⟩ := h
  obtain ⟨h3, h4⟩ := h'
  rw [getD_of_lt h1] at h2
  rw [getD_of_lt h3] at h4
  exact nodup_inj hn (h2.trans h4.symm)

theorem At.of_mem {ids : List ByteArray} {s : ByteArray} (h : s ∈ ids) : ∃ j, At ids s j := by
  obtain ⟨j, hj, e⟩ := List.getElem_of_mem h
  exact ⟨j, hj, by rw [getD_of_lt hj]; exact e⟩

theorem pl_none (ids : List ByteArray) : Pl ids [] [] := ⟨rfl, fun i hi => absurd hi (by simp)⟩

theorem pl_step {ids req : List ByteArray} {js : List Nat} {s : ByteArray} {j : Nat} (h : Pl ids req js) (ha : At ids s j) : Pl ids (req ++ [s]) (js ++ [j]) := by
  refine ⟨by simp [h.1], fun i hi => ?_⟩
  by_cases e : i < req.length
  · have := h.2 i e
    rw [List.getD, List.getElem?_append_left e]
    rw [show (js ++ [j]).getD i 0 = js.getD i 0 by rw [List.getD, List.getElem?_append_left (by rw [h.1]; exact e)]; rfl]
    exact this
  · have ei : i = req.length := by simp at hi; omega
    subst ei
    rw [show (req ++ [s]).getD req.length ByteArray.empty = s by simp [List.getD], show (js ++ [j]).getD req.length 0 = j by rw [← h.1]; simp [List.getD]]
    exact ha

theorem pl_mem {ids req : List ByteArray} {js : List Nat} (h : Pl ids req js) : ∀ s ∈ req, s ∈ ids := by
  intro s hs
  obtain ⟨i, hi, e⟩ := List.getElem_of_mem hs
  have := h.2 i hi
  rw [getD_of_lt hi, e] at this
  exact this.mem

theorem pl_nodup {ids req : List ByteArray} {js : List Nat} (h : Pl ids req js) (hn : req.Nodup) : js.Nodup := by
  refine nodup_of fun i j hi0 hj hij e => ?_
  have hi' : i < req.length := by rw [← h.1]; omega
  have hj' : j < req.length := by rw [← h.1]; omega
  have a1 := h.2 i hi'
  have a2 := h.2 j hj'
  rw [getD_of_lt (by omega : i < js.length)] at a1
  rw [getD_of_lt hj] at a2
  rw [← e] at a2
  have : req[i] = req[j] := by
    rw [← getD_of_lt (d := ByteArray.empty) hi', ← getD_of_lt (d := ByteArray.empty) hj', ← a1.2, ← a2.2]
  have := nodup_inj hn this
  omega

theorem pl_nodup_back {ids req : List ByteArray} {js : List Nat} (h : Pl ids req js) (hids : ids.Nodup) (hn : js.Nodup) : req.Nodup := by
  refine nodup_of fun i j hi0 hj hij e => ?_
  have a1 := h.2 i (by omega)
  have a2 := h.2 j hj
  rw [getD_of_lt (by omega : i < req.length)] at a1
  rw [getD_of_lt hj] at a2
  rw [← e] at a2
  have e2 := At.place hids a1 a2
  have hi' : i < js.length := by rw [h.1]; omega
  have hj' : j < js.length := by rw [h.1]; omega
  rw [getD_of_lt hi', getD_of_lt hj'] at e2
  have := nodup_inj hn e2
  omega

/-- The places, as Go's ints, sorted. -/
def sorted (js : List Nat) : List Int := (js.map Int.ofNat).mergeSort fun x y => decide (x ≤ y)

theorem sorted_perm (js : List Nat) : (sorted js).Perm (js.map Int.ofNat) := List.mergeSort_perm _ _
theorem sorted_length (js : List Nat) : (sorted js).length = js.length := by simpa using (sorted_perm js).length_eq
theorem sorted_le (js : List Nat) : (sorted js).Pairwise (· ≤ ·) := by
  have := List.pairwise_mergeSort (le := fun (x y : Int) => decide (x ≤ y)) (by intro a b c; simp; omega) (by intro a b; simp; omega) (js.map Int.ofNat)
  exact this.imp (by intro a b h; simpa using h)

/-- Each of them is the place of an ID. -/
theorem sorted_at {ids req : List ByteArray} {js : List Nat} (h : Pl ids req js) {i : Nat} (hi : i < req.length) : ∃ j : Nat, (sorted js).getD i 0 = (j : Int) ∧ j < ids.length := by
  have hi' : i < (sorted js).length := by rw [sorted_length, h.1]; exact hi
  have hm : (sorted js).getD i 0 ∈ sorted js := by rw [getD_of_lt hi']; exact List.getElem_mem hi'
  rw [(sorted_perm js).mem_iff, List.mem_map] at hm
  obtain ⟨j, hj, e⟩ := hm
  obtain ⟨q, hq, e2⟩ := List.getElem_of_mem hj
  have := (h.2 q (by rw [← h.1]; exact hq)).1
  rw [getD_of_lt hq, e2] at this
  exact ⟨j, e.symm, this⟩

theorem map_nodup {js : List Nat} (h : js.Nodup) : (js.map Int.ofNat).Nodup := by
  rw [List.Nodup, List.pairwise_map]
  exact h.imp (by intro a b h e; exact h (Int.ofNat.inj e))
theorem map_nodup_back {js : List Nat} (h : (js.map Int.ofNat).Nodup) : js.Nodup := by
  rw [List.Nodup, List.pairwise_map] at h
  exact h.imp (by intro a b h e; exact h (by rw [e]))

/-- Two neighbours are alike: the request names an ID twice. -/
theorem bad_twice {ids req : List ByteArray} {js : List Nat} (h : Pl ids req js) {i : Nat} (hi : i + 1 < (sorted js).length) (e : (sorted js).getD (i + 1) 0 = (sorted js).getD i 0) : ¬ Good ids req := by
  intro hg
  have hn : (sorted js).Nodup := (sorted_perm js).nodup_iff.2 (map_nodup (pl_nodup h hg.2))
  rw [getD_of_lt hi, getD_of_lt (by omega : i < (sorted js).length)] at e
  have := nodup_inj hn e
  omega

theorem lt_of_neighbours : ∀ {l : List Int}, l.Pairwise (· ≤ ·) → (∀ i, i + 1 < l.length → l.getD (i + 1) 0 ≠ l.getD i 0) → l.Pairwise (· < ·)
  | [], _, _ => List.Pairwise.nil
  | [a], _, _ => by simp
  | a :: b :: l, h, hn => by
    rw [List.pairwise_cons] at h ⊢
    have ih := lt_of_neighbours h.2 (fun i hi => by have := hn (i + 1) (by simp at hi ⊢; omega); simpa [List.getD] using this)
    refine ⟨?_, ih⟩
    have hab : a < b := by
      have h1 := h.1 b (by simp)
      have h2 := hn 0 (by simp)
      simp [List.getD] at h2
      omega
    intro x hx
    rcases List.mem_cons.1 hx with rfl | hx
    · exact hab
    · rw [List.pairwise_cons] at ih
      have := ih.1 x hx
      omega

/-- No two neighbours are alike: the request is good, and these are its places. -/
theorem good_of {ids req : List ByteArray} {js : List Nat} (hids : ids.Nodup) (h : Pl ids req js) (hn : ∀ i, i + 1 < (sorted js).length → (sorted js).getD (i + 1) 0 ≠ (sorted js).getD i 0) : Good ids req ∧ IsPlaces ids req (sorted js) := by
  have hlt := lt_of_neighbours (sorted_le js) hn
  have hnd : (sorted js).Nodup := hlt.imp (by intro a b h; omega)
  have hjs := map_nodup_back ((sorted_perm js).nodup_iff.1 hnd)
  refine ⟨⟨pl_mem h, pl_nodup_back h hids hjs⟩, hlt, fun z => ?_⟩
  rw [(sorted_perm js).mem_iff, List.mem_map]
  constructor
  · rintro ⟨j, hj, rfl⟩
    obtain ⟨i, hi, e⟩ := List.getElem_of_mem hj
    have hi' : i < req.length := by rw [← h.1]; exact hi
    have := h.2 i hi'
    rw [getD_of_lt hi, e] at this
    exact ⟨j, _, rfl, this, by rw [getD_of_lt hi']; exact List.getElem_mem hi'⟩
  · rintro ⟨j, s, rfl, ha, hs⟩
    obtain ⟨i, hi, e⟩ := List.getElem_of_mem hs
    have := h.2 i hi
    rw [getD_of_lt hi, e] at this
    have e2 := At.place hids ha this
    have hi' : i < js.length := by rw [h.1]; exact hi
    exact ⟨j, by rw [e2, getD_of_lt hi']; exact List.getElem_mem hi', rfl⟩
end Go.Proofs.Qxb6626507aFmt
