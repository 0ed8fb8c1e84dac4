/- The plain law of the echo: lists of bytes alone, no Go. 'Lib.fieldsU': the kit's own words of a text (by bytes). -/
import Derived.Lib.SpaceU
import Derived.Lib.Join
namespace Go.Proofs.Qxb6626914aDoor
open Go.Lib
set_option linter.unusedVariables false
set_option linter.unusedSimpArgs false

/-- The echo of a text: its words with one space between. -/
def echo (l : List UInt8) : List UInt8 := join (fieldsU l) [32]

/-- The width of the white space at the head, as the law's own text reckons it: n bytes are left, of which the first three are c, d, e. -/
def ww (n c d e : Nat) : Nat :=
  if c = 32 ∨ c = 9 ∨ c = 10 ∨ c = 11 ∨ c = 12 ∨ c = 13 then 1
  else if c = 194 then (if n < 2 then 0 else if d = 133 ∨ d = 160 then 2 else 0)
  else if n < 3 then 0
  else if c = 225 ∧ d = 154 ∧ e = 128 then 3
  else if c = 226 ∧ d = 128 then (if 128 ≤ e ∧ e ≤ 138 then 3 else if e = 168 ∨ e = 169 ∨ e = 175 then 3 else 0)
  else if c = 226 ∧ d = 129 ∧ e = 159 then 3
  else if c = 227 ∧ d = 128 ∧ e = 128 then 3
  else 0

theorem hs_of {l q : List UInt8} (h : spaceSeqs.find? (·.isPrefixOf l) = some q) : headSpace l = q.length := by
  unfold headSpace; rw [h]; rfl
theorem hs_none {l : List UInt8} (h : spaceSeqs.find? (·.isPrefixOf l) = none) : headSpace l = 0 := by
  unfold headSpace; rw [h]; rfl

theorem byteOf {c : UInt8} {n : Nat} (h : c.toNat = n) : c = UInt8.ofNat n := by rw [← h]; simp

theorem head1 (c : UInt8) : headSpace [c] = ww 1 c.toNat 0 0 := by
  cases hf : spaceSeqs.find? (·.isPrefixOf [c]) with
  | some q =>
    rw [hs_of hf]
    have hq := List.mem_of_find?_eq_some hf
    have hp : q.isPrefixOf [c] = true := by have := List.find?_some hf; exact this
    simp only [spaceSeqs, List.mem_cons, List.not_mem_nil, or_false] at hq
    rcases hq with rfl | rfl | rfl | rfl | rfl | rfl | rfl | rfl | rfl | rfl | rfl | rfl | rfl | rfl | rfl | rfl | rfl | rfl | rfl | rfl | rfl | rfl | rfl | rfl | rfl
    all_goals first | (simp only [List.isPrefixOf, Bool.and_true, Bool.and_false, Bool.and_eq_true, beq_iff_eq, Bool.false_eq_true] at hp; done) | (simp only [List.isPrefixOf, Bool.and_true, Bool.and_false, Bool.and_eq_true, beq_iff_eq, Bool.false_eq_true] at hp; subst hp; rfl)
  | none =>
    rw [hs_none hf]
    rw [List.find?_eq_none] at hf
    unfold ww
    split
    · exfalso
      rename_i h
      rcases h with h | h | h | h | h | h <;> (have e := byteOf h; subst e)
      · exact hf [32] (by decide) rfl
      · exact hf [9] (by decide) rfl
      · exact hf [10] (by decide) rfl
      · exact hf [11] (by decide) rfl
      · exact hf [12] (by decide) rfl
      · exact hf [13] (by decide) rfl
    · split <;> rfl

theorem head2 (c d : UInt8) : headSpace [c, d] = ww 2 c.toNat d.toNat 0 := by
  cases hf : spaceSeqs.find? (·.isPrefixOf [c, d]) with
  | some q =>
    rw [hs_of hf]
    have hq := List.mem_of_find?_eq_some hf
    have hp : q.isPrefixOf [c, d] = true := by have := List.find?_some hf; exact this
    simp only [spaceSeqs, List.mem_cons, List.not_mem_nil, or_false] at hq
    rcases hq with rfl | rfl | rfl | rfl | rfl | rfl | rfl | rfl | rfl | rfl | rfl | rfl | rfl | rfl | rfl | rfl | rfl | rfl | rfl | rfl | rfl | rfl | rfl | rfl | rfl
    all_goals first | (simp only [List.isPrefixOf, Bool.and_true, Bool.and_false, Bool.and_eq_true, beq_iff_eq, Bool.false_eq_true] at hp; done) | (simp only [List.isPrefixOf, Bool.and_true, Bool.and_false, Bool.and_eq_true, beq_iff_eq, Bool.false_eq_true] at hp; first | (subst hp; rfl) | (obtain ⟨rfl, rfl⟩ := hp; rfl) | exact absurd hp.2 (by simp))
  | none =>
    rw [hs_none hf]
    rw [List.find?_eq_none] at hf
    unfold ww
    split
    · exfalso
      rename_i h
      rcases h with h | h | h | h | h | h <;> (have e := byteOf h; subst e)
      · exact hf [32] (by decide) rfl
      · exact hf [9] (by decide) rfl
      · exact hf [10] (by decide) rfl
      · exact hf [11] (by decide) rfl
      · exact hf [12] (by decide) rfl
      · exact hf [13] (by decide) rfl
    · split
      · rename_i h
        split
        · rfl
        · split
          · exfalso
            rename_i h2
            have e := byteOf h; subst e
            rcases h2 with h2 | h2 <;> (have e := byteOf h2; subst e)
            · exact hf [194, 133] (by decide) rfl
            · exact hf [194, 160] (by decide) rfl
          · rfl
      · rfl

theorem head3 (c d e : UInt8) (t : List UInt8) : headSpace (c :: d :: e :: t) = ww (t.length + 3) c.toNat d.toNat e.toNat := by
  cases hf : spaceSeqs.find? (·.isPrefixOf (c :: d :: e :: t)) with
  | some q =>
    rw [hs_of hf]
    have hq := List.mem_of_find?_eq_some hf
    have hp : q.isPrefixOf (c :: d :: e :: t) = true := by have := List.find?_some hf; exact this
    simp only [spaceSeqs, List.mem_cons, List.not_mem_nil, or_false] at hq
    rcases hq with rfl | rfl | rfl | rfl | rfl | rfl | rfl | rfl | rfl | rfl | rfl | rfl | rfl | rfl | rfl | rfl | rfl | rfl | rfl | rfl | rfl | rfl | rfl | rfl | rfl
    all_goals first | (simp only [List.isPrefixOf, Bool.and_true, Bool.and_false, Bool.and_eq_true, beq_iff_eq, Bool.false_eq_true] at hp; done) | (simp only [List.isPrefixOf, Bool.and_true, Bool.and_false, Bool.and_eq_true, beq_iff_eq, Bool.false_eq_true] at hp; first | (subst hp; rfl) | (obtain ⟨rfl, rfl, rfl⟩ := hp; simp [ww]; done) | (obtain ⟨rfl, rfl⟩ := hp; simp [ww]))
  | none =>
    rw [hs_none hf]
    rw [List.find?_eq_none] at hf
    unfold ww
    split
    · exfalso
      rename_i h
      rcases h with h | h | h | h | h | h <;> (have e := byteOf h; subst e)
      · exact hf [32] (by decide) rfl
      · exact hf [9] (by decide) rfl
      · exact hf [10] (by decide) rfl
      · exact hf [11] (by decide) rfl
      · exact hf [12] (by decide) rfl
      · exact hf [13] (by decide) rfl
    · split
      · rename_i h
        rw [if_neg (by omega)]
        split
        · exfalso
          rename_i h2
          have e := byteOf h; subst e
          rcases h2 with h2 | h2 <;> (have e := byteOf h2; subst e)
          · exact hf [194, 133] (by decide) rfl
          · exact hf [194, 160] (by decide) rfl
        · rfl
      · rw [if_neg (by omega)]
        split
        · exfalso
          rename_i h
          obtain ⟨h1, h2, h3⟩ := h
          have e1 := byteOf h1; have e2 := byteOf h2; have e3 := byteOf h3; subst e1 e2 e3
          exact hf [225, 154, 128] (by decide) rfl
        · split
          · rename_i h
            obtain ⟨h1, h2⟩ := h
            have e1 := byteOf h1; have e2 := byteOf h2; subst e1 e2
            split
            · exfalso
              rename_i h3
              have h4 : e.toNat = 128 ∨ e.toNat = 129 ∨ e.toNat = 130 ∨ e.toNat = 131 ∨ e.toNat = 132 ∨ e.toNat = 133 ∨ e.toNat = 134 ∨ e.toNat = 135 ∨ e.toNat = 136 ∨ e.toNat = 137 ∨ e.toNat = 138 := by omega
              rcases h4 with h4 | h4 | h4 | h4 | h4 | h4 | h4 | h4 | h4 | h4 | h4 <;> (have e4 := byteOf h4; subst e4)
              · exact hf [226, 128, 128] (by decide) rfl
              · exact hf [226, 128, 129] (by decide) rfl
              · exact hf [226, 128, 130] (by decide) rfl
              · exact hf [226, 128, 131] (by decide) rfl
              · exact hf [226, 128, 132] (by decide) rfl
              · exact hf [226, 128, 133] (by decide) rfl
              · exact hf [226, 128, 134] (by decide) rfl
              · exact hf [226, 128, 135] (by decide) rfl
              · exact hf [226, 128, 136] (by decide) rfl
              · exact hf [226, 128, 137] (by decide) rfl
              · exact hf [226, 128, 138] (by decide) rfl
            · split
              · exfalso
                rename_i h3
                rcases h3 with h3 | h3 | h3 <;> (have e4 := byteOf h3; subst e4)
                · exact hf [226, 128, 168] (by decide) rfl
                · exact hf [226, 128, 169] (by decide) rfl
                · exact hf [226, 128, 175] (by decide) rfl
              · rfl
          · split
            · exfalso
              rename_i h
              obtain ⟨h1, h2, h3⟩ := h
              have e1 := byteOf h1; have e2 := byteOf h2; have e3 := byteOf h3; subst e1 e2 e3
              exact hf [226, 129, 159] (by decide) rfl
            · split
              · exfalso
                rename_i h
                obtain ⟨h1, h2, h3⟩ := h
                have e1 := byteOf h1; have e2 := byteOf h2; have e3 := byteOf h3; subst e1 e2 e3
                exact hf [227, 128, 128] (by decide) rfl
              · rfl

theorem seqs_pos {q : List UInt8} (h : q ∈ spaceSeqs) : 0 < q.length := by
  have : ∀ q ∈ spaceSeqs, 0 < q.length := by decide
  exact this q h

theorem hs_find {l : List UInt8} (h : headSpace l ≠ 0) : ∃ q, q ∈ spaceSeqs ∧ q <+: l ∧ headSpace l = q.length := by
  cases hf : spaceSeqs.find? (·.isPrefixOf l) with
  | none => exact absurd (hs_none hf) h
  | some q =>
    have hp : q.isPrefixOf l = true := by have := List.find?_some hf; exact this
    exact ⟨q, List.mem_of_find?_eq_some hf, List.isPrefixOf_iff_prefix.1 hp, hs_of hf⟩

theorem hs_le (l : List UInt8) : headSpace l ≤ l.length := by
  by_cases h : headSpace l = 0
  · omega
  · obtain ⟨q, _, hp, e⟩ := hs_find h
    rw [e]; exact hp.length_le

theorem hs_mono {l u : List UInt8} (h : headSpace (l ++ u) = 0) : headSpace l = 0 := by
  by_cases h0 : headSpace l = 0
  · exact h0
  · exfalso
    obtain ⟨q, hq, hp, _⟩ := hs_find h0
    cases hf : spaceSeqs.find? (·.isPrefixOf (l ++ u)) with
    | none =>
      rw [List.find?_eq_none] at hf
      exact hf q hq (List.isPrefixOf_iff_prefix.2 (hp.trans (List.prefix_append l u)))
    | some q' =>
      rw [hs_of hf] at h
      have := seqs_pos (List.mem_of_find?_eq_some hf)
      omega

theorem hs_space (b : List UInt8) : headSpace (32 :: b) = 1 := by
  match b with
  | [] => rfl
  | [d] => rw [head2]; rfl
  | d :: e :: t => rw [head3]; rfl

theorem ww_big {n m c d e : Nat} (hn : 3 ≤ n) (hm : 3 ≤ m) : ww n c d e = ww m c d e := by
  unfold ww
  rw [if_neg (show ¬ n < 2 by omega), if_neg (show ¬ n < 3 by omega), if_neg (show ¬ m < 2 by omega), if_neg (show ¬ m < 3 by omega)]

theorem hs_snoc (l b : List UInt8) (hl : l ≠ []) : headSpace (l ++ 32 :: b) = headSpace l := by
  match l, b with
  | [c], [] => rw [List.singleton_append, head2, head1]; simp [ww]
  | [c], d :: t => rw [List.singleton_append, head3, head1]; simp [ww]
  | [c, d], b => rw [show [c, d] ++ 32 :: b = c :: d :: 32 :: b from rfl, head3, head2]; simp [ww, show ¬ (b.length + 3 < 2) by omega]
  | c :: d :: e :: t, b => rw [show (c :: d :: e :: t) ++ 32 :: b = c :: d :: e :: (t ++ 32 :: b) from rfl, head3, head3, ww_big (n := (t ++ 32 :: b).length + 3) (m := t.length + 3) (by omega) (by omega)]

/-- The word in hand, if there is one. -/
def one (cur : List UInt8) : List (List UInt8) := if cur = [] then [] else [cur]

theorem go_nil (f : Nat) (cur : List UInt8) : fieldsGoU f cur [] = one cur := by cases f <;> rfl
theorem go_byte {f : Nat} {cur t : List UInt8} {b : UInt8} (h : headSpace (b :: t) = 0) : fieldsGoU (f + 1) cur (b :: t) = fieldsGoU f (cur ++ [b]) t := by simp [fieldsGoU, h]
theorem go_space {f : Nat} {cur t : List UInt8} {b : UInt8} (h : headSpace (b :: t) ≠ 0) : fieldsGoU (f + 1) cur (b :: t) = one cur ++ fieldsGoU f [] ((b :: t).drop (headSpace (b :: t))) := by simp [fieldsGoU, h, one]

/-- Enough fuel is enough. -/
theorem go_fuel : ∀ (f g : Nat) (cur l : List UInt8), l.length < f → l.length < g → fieldsGoU f cur l = fieldsGoU g cur l
  | 0, _, _, _, h, _ => absurd h (by omega)
  | _, 0, _, _, _, h => absurd h (by omega)
  | f + 1, g + 1, cur, [], _, _ => by rw [go_nil, go_nil]
  | f + 1, g + 1, cur, b :: t, hf, hg => by
    simp only [List.length_cons] at hf hg
    by_cases h : headSpace (b :: t) = 0
    · rw [go_byte h, go_byte h]
      exact go_fuel f g _ t (by omega) (by omega)
    · rw [go_space h, go_space h, go_fuel f g [] _ (by simp; omega) (by simp; omega)]

theorem fieldsU_of {l : List UInt8} {f : Nat} (h : l.length < f) : fieldsU l = fieldsGoU f [] l := go_fuel _ _ _ _ (by omega) h

/-- A space between: the words of the one, then the words of the other. -/
theorem go_split : ∀ (f : Nat) (cur a b : List UInt8), a.length < f → fieldsGoU (f + b.length + 1) cur (a ++ 32 :: b) = fieldsGoU f cur a ++ fieldsU b
  | 0, _, _, _, h => absurd h (by omega)
  | f + 1, cur, [], b, _ => by
    rw [List.nil_append, show f + 1 + b.length + 1 = (f + 1 + b.length) + 1 from rfl, go_space (by rw [hs_space]; omega), hs_space, go_nil]
    rw [fieldsU_of (f := f + 1 + b.length) (by omega)]
    rfl
  | f + 1, cur, c :: t, b, h => by
    simp only [List.length_cons] at h
    rw [show f + 1 + b.length + 1 = (f + b.length + 1) + 1 by omega]
    have hs := hs_snoc (c :: t) b (by simp)
    by_cases h0 : headSpace (c :: t) = 0
    · rw [go_byte h0, List.cons_append, go_byte (by rw [← List.cons_append, hs]; exact h0)]
      exact go_split f _ t b (by omega)
    · have hle := hs_le (c :: t)
      simp only [List.length_cons] at hle
      rw [go_space h0, List.cons_append, go_space (by rw [← List.cons_append, hs]; exact h0), ← List.cons_append, hs, List.drop_append_of_le_length (by simp only [List.length_cons]; omega), List.append_assoc]
      rw [go_split f [] _ b (by simp; omega)]

theorem fieldsU_split (a b : List UInt8) : fieldsU (a ++ 32 :: b) = fieldsU a ++ fieldsU b := by
  rw [fieldsU_of (f := a.length + 1 + b.length + 1) (by simp; omega), go_split (a.length + 1) [] a b (by omega)]
  rfl

/-- No white space begins inside cur, with l behind it. -/
def NoSp (cur l : List UInt8) : Prop := ∀ p q, cur = p ++ q → q ≠ [] → headSpace (q ++ l) = 0

/-- Words are not empty, and no white space begins in them. -/
theorem go_solid : ∀ (f : Nat) (cur l : List UInt8), l.length < f → NoSp cur l → ∀ x ∈ fieldsGoU f cur l, x ≠ [] ∧ NoSp x []
  | 0, _, _, h, _, _, _ => absurd h (by omega)
  | f + 1, cur, [], _, hn, x, hx => by
    rw [go_nil] at hx
    unfold one at hx
    split at hx
    · simp at hx
    · rename_i h
      simp at hx
      subst hx
      exact ⟨h, hn⟩
  | f + 1, cur, b :: t, hl, hn, x, hx => by
    simp only [List.length_cons] at hl
    by_cases h0 : headSpace (b :: t) = 0
    · rw [go_byte h0] at hx
      refine go_solid f _ t (by omega) ?_ x hx
      intro p q e hq
      rcases List.eq_nil_or_concat q with rfl | ⟨q', y, rfl⟩
      · exact absurd rfl hq
      · rw [List.concat_eq_append] at e hq ⊢
        rw [← List.append_assoc] at e
        have e2 := List.append_inj' e rfl
        have ey : y = b := by simpa using e2.2.symm
        subst ey
        rw [List.append_assoc, List.singleton_append]
        by_cases hq' : q' = []
        · rw [hq']; exact h0
        · exact hn p q' e2.1 hq'
    · rw [go_space h0] at hx
      rcases List.mem_append.1 hx with hx | hx
      · unfold one at hx
        split at hx
        · simp at hx
        · rename_i h
          simp at hx
          subst hx
          refine ⟨h, fun p q e hq => ?_⟩
          rw [List.append_nil]
          exact hs_mono (hn p q e hq)
      · exact go_solid f [] _ (by simp; omega) (fun p q e hq => absurd (by simp at e; exact e.2) hq) x hx

theorem words_solid (l : List UInt8) : ∀ x ∈ fieldsU l, x ≠ [] ∧ NoSp x [] :=
  go_solid _ [] l (by omega) (fun p q e hq => absurd (by simp at e; exact e.2) hq)

/-- A solid text is one word. -/
theorem go_whole : ∀ (f : Nat) (cur l : List UInt8), l.length < f → NoSp l [] → fieldsGoU f cur l = one (cur ++ l)
  | 0, _, _, h, _ => absurd h (by omega)
  | f + 1, cur, [], _, _ => by rw [go_nil, List.append_nil]
  | f + 1, cur, b :: t, hl, hn => by
    simp only [List.length_cons] at hl
    have h0 : headSpace (b :: t) = 0 := by have := hn [] (b :: t) rfl (by simp); rw [List.append_nil] at this; exact this
    rw [go_byte h0, go_whole f _ t (by omega) (fun p q e hq => hn (b :: p) q (by rw [e]; rfl) hq), List.append_assoc, List.singleton_append]

theorem fieldsU_word {x : List UInt8} (h1 : x ≠ []) (h2 : NoSp x []) : fieldsU x = [x] := by
  unfold fieldsU
  rw [go_whole _ [] x (by omega) h2, List.nil_append]
  unfold one
  rw [if_neg h1]

theorem join_cons (x : List UInt8) (r : List (List UInt8)) (h : r ≠ []) : join (x :: r) [32] = x ++ 32 :: join r [32] := by
  cases r with
  | nil => exact absurd rfl h
  | cons y r => simp [join, List.intercalate, List.intersperse, List.flatten]

/-- The words of a join of solid words are those words. -/
theorem fieldsU_join : ∀ (xs : List (List UInt8)), (∀ x ∈ xs, x ≠ [] ∧ NoSp x []) → fieldsU (join xs [32]) = xs
  | [], _ => rfl
  | [x], h => by rw [join_one]; exact fieldsU_word (h x (by simp)).1 (h x (by simp)).2
  | x :: y :: r, h => by
    rw [join_cons x (y :: r) (by simp), fieldsU_split, fieldsU_word (h x (by simp)).1 (h x (by simp)).2, fieldsU_join (y :: r) (fun z hz => h z (by simp at hz ⊢; exact .inr hz))]
    rfl

/-- ECHOED ONCE MORE, THE SAME. -/
theorem echo_echo (l : List UInt8) : echo (echo l) = echo l := by
  unfold echo
  rw [fieldsU_join _ (words_solid l)]

theorem join_nil_iff {xs : List (List UInt8)} (h : ∀ x ∈ xs, x ≠ []) : join xs [32] = [] ↔ xs = [] := by
  constructor
  · intro e
    match xs, h, e with
    | [], _, _ => rfl
    | [x], h, e => rw [join_one] at e; exact absurd e (h x (by simp))
    | x :: y :: r, h, e => rw [join_cons x (y :: r) (by simp)] at e; simp at e
  · rintro rfl; rfl

/-- One space between two texts where both have words. -/
def jws (l r : List UInt8) : List UInt8 := if l = [] then r else if r = [] then l else l ++ [32] ++ r

theorem join_append {xs ys : List (List UInt8)} (hx : ∀ x ∈ xs, x ≠ []) (hy : ∀ x ∈ ys, x ≠ []) : join (xs ++ ys) [32] = jws (join xs [32]) (join ys [32]) := by
  unfold jws
  by_cases e1 : xs = []
  · subst e1; rw [List.nil_append, join_nil, if_pos rfl]
  · rw [if_neg (fun h => e1 ((join_nil_iff hx).1 h))]
    by_cases e2 : ys = []
    · subst e2; rw [List.append_nil, join_nil, if_pos rfl]
    · rw [if_neg (fun h => e2 ((join_nil_iff hy).1 h))]
      clear hx hy
      induction xs with
      | nil => exact absurd rfl e1
      | cons x r ih =>
        by_cases e3 : r = []
        · subst e3; rw [List.singleton_append, join_cons x ys e2, join_one]; simp
        · rw [List.cons_append, join_cons x _ (by simp [e3]), join_cons x r e3, ih e3]; simp

/-- THE ECHO OF a, A SPACE AND b. -/
theorem echo_split (a b : List UInt8) : echo (a ++ 32 :: b) = jws (echo a) (echo b) := by
  unfold echo
  rw [fieldsU_split, join_append (fun x hx => (words_solid a x hx).1) (fun x hx => (words_solid b x hx).1)]

/-! ### the one-pass automaton -/
/-- Where it stands behind the first i bytes. -/
def Inv (l : List UInt8) (i : Nat) (out : List UInt8) (gap : Bool) : Prop :=
  ∃ (ws : List (List UInt8)) (cur : List UInt8) (f : Nat), (l.drop i).length < f ∧ fieldsU l = ws ++ fieldsGoU f cur (l.drop i) ∧ (∀ x ∈ ws, x ≠ []) ∧ out = join (ws ++ one cur) [32] ∧ (cur ≠ [] → gap = false) ∧ (cur = [] → ws ≠ [] → gap = true)

theorem inv_start (l : List UInt8) : Inv l 0 [] false := ⟨[], [], l.length + 1, by simp, rfl, by simp, rfl, by simp, by simp⟩

theorem drop_cons {l : List UInt8} {i : Nat} (h : i < l.length) : l.drop i = l.getD i 0 :: l.drop (i + 1) := by
  rw [List.drop_eq_getElem_cons h, List.getD, List.getElem?_eq_getElem h]; rfl

theorem one_ne (ws : List (List UInt8)) (hw : ∀ x ∈ ws, x ≠ []) (cur : List UInt8) : ∀ x ∈ ws ++ one cur, x ≠ [] := by
  intro x hx
  rcases List.mem_append.1 hx with hx | hx
  · exact hw x hx
  · unfold one at hx
    split at hx
    · simp at hx
    · rename_i h; simp at hx; rw [hx]; exact h

theorem inv_space {l out : List UInt8} {i : Nat} {gap : Bool} (hi : i < l.length) (hs : headSpace (l.drop i) ≠ 0) (h : Inv l i out gap) : Inv l (i + headSpace (l.drop i)) out true := by
  obtain ⟨ws, cur, f, hf, he, hw, ho, hg1, hg2⟩ := h
  cases f with
  | zero => omega
  | succ f =>
    rw [drop_cons hi] at hs hf he ⊢
    rw [go_space hs, ← drop_cons hi, List.drop_drop, ← List.append_assoc] at he
    rw [← drop_cons hi] at hf hs ⊢
    refine ⟨ws ++ one cur, [], f, ?_, he, one_ne ws hw cur, ?_, by simp, fun _ _ => rfl⟩
    · rw [List.length_drop] at hf ⊢; omega
    · rw [ho]; simp [one]

theorem join_grow (ws : List (List UInt8)) (cur : List UInt8) (b : UInt8) (h : cur ≠ []) : join (ws ++ [cur ++ [b]]) [32] = join (ws ++ [cur]) [32] ++ [b] := by
  induction ws with
  | nil => simp [join_one]
  | cons x r ih => rw [List.cons_append, List.cons_append, join_cons x _ (by simp), join_cons x _ (by simp), ih]; simp

theorem inv_byte {l out : List UInt8} {i : Nat} {gap : Bool} (hi : i < l.length) (hs : headSpace (l.drop i) = 0) (h : Inv l i out gap) :
    Inv l (i + 1) ((if gap = true ∧ out ≠ [] then out ++ [32] else out) ++ [l.getD i 0]) false := by
  obtain ⟨ws, cur, f, hf, he, hw, ho, hg1, hg2⟩ := h
  cases f with
  | zero => omega
  | succ f =>
    rw [drop_cons hi] at hs hf he
    rw [go_byte hs] at he
    simp only [List.length_cons] at hf
    refine ⟨ws, cur ++ [l.getD i 0], f, by omega, he, hw, ?_, fun _ => rfl, fun h => by simp at h⟩
    generalize l.getD i 0 = b
    by_cases hc : cur = []
    · subst hc
      rw [show one ([] ++ [b]) = [[b]] from rfl]
      rw [show one [] = [] from rfl, List.append_nil] at ho
      by_cases hws : ws = []
      · subst hws
        rw [ho]
        rw [if_neg (fun h => h.2 rfl)]
        rfl
      · have hg := hg2 rfl hws
        rw [hg, if_pos ⟨rfl, fun e => hws ((join_nil_iff hw).1 (by rw [← ho]; exact e))⟩, ho, join_append hw (by simp), join_one]
        unfold jws
        rw [if_neg (fun h => hws ((join_nil_iff hw).1 h)), if_neg (by simp)]
    · have hg := hg1 hc
      rw [hg, if_neg (by simp), ho]
      unfold one
      rw [if_neg hc, if_neg (by simp), join_grow ws cur b hc]

theorem inv_end {l out : List UInt8} {i : Nat} {gap : Bool} (hi : l.length ≤ i) (h : Inv l i out gap) : out = echo l := by
  obtain ⟨ws, cur, f, hf, he, hw, ho, hg1, hg2⟩ := h
  rw [List.drop_of_length_le hi, go_nil] at he
  unfold echo
  rw [he, ho]

theorem len_join : ∀ xs : List (List UInt8), (join xs [32]).length + 1 ≤ (xs.map (fun x => x.length + 1)).sum + 1
  | [] => by simp [join_nil]
  | [x] => by simp [join_one]
  | x :: y :: r => by
    rw [join_cons x (y :: r) (by simp)]
    have := len_join (y :: r)
    simp at this ⊢
    omega

theorem go_sum : ∀ (f : Nat) (cur l : List UInt8), l.length < f → ((fieldsGoU f cur l).map (fun x => x.length + 1)).sum ≤ cur.length + l.length + 1
  | 0, _, _, h => absurd h (by omega)
  | f + 1, cur, [], _ => by
    rw [go_nil]; unfold one; split <;> simp
  | f + 1, cur, b :: t, hl => by
    simp only [List.length_cons] at hl
    by_cases h0 : headSpace (b :: t) = 0
    · rw [go_byte h0]
      have := go_sum f (cur ++ [b]) t (by omega)
      simp at this ⊢
      omega
    · rw [go_space h0]
      have h1 := go_sum f [] ((b :: t).drop (headSpace (b :: t))) (by simp; omega)
      have h2 := hs_le (b :: t)
      have h3 : ((one cur).map (fun x => x.length + 1)).sum ≤ cur.length + 1 := by unfold one; split <;> simp
      simp at h1 h2 h3 ⊢
      omega

theorem echo_len (l : List UInt8) : (echo l).length ≤ l.length + 1 := by
  have h1 := len_join (fieldsU l)
  have h2 := go_sum (l.length + 1) [] l (by omega)
  simp at h2
  unfold echo
  unfold fieldsU at h1 ⊢
  omega
end Go.Proofs.Qxb6626914aDoor
