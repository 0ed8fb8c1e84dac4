/- Seat b6627196a: the law FnAppendPackedUintsDecodesToItsInput walked. -/
import Derived.Test.Qxb6627196aPack
import Derived.Test.Qxb6627196aSame
import Derived.Test.Qxb6627196aField
import Derived.Laws.CopyOwn
namespace Go.Proofs.Qxb6627196a
open Go.RowKit
set_option linter.unusedVariables false
set_option linter.unusedSimpArgs false

theorem tag_and7 (num : Int) : bits .and .u64 ((tagOf num : Nat) : Int) 7 = 2 := by
  have h := tagOf_lt num
  have := bits_mask .u64 64 (by decide) wraps_u64' 3 (by decide) ((tagOf num : Nat) : Int) (by omega) (by omega)
  have e : (2 : Int) ^ 3 - 1 = 7 := by decide
  rw [e] at this
  rw [this]
  unfold tagOf
  omega

theorem num_and61 (num : Int) : bits .and .u64 (IntKind.u64.wrap num) 2305843009213693951 = ((tagOf num / 8 : Nat) : Int) := by
  have e1 : IntKind.u64.wrap num = num % 18446744073709551616 := by simp [IntKind.wrap, IntKind.bits, IntKind.signed]
  have := bits_mask .u64 64 (by decide) wraps_u64' 61 (by decide) (num % 18446744073709551616) (by omega) (by omega)
  have e : (2 : Int) ^ 61 - 1 = 2305843009213693951 := by decide
  rw [e] at this
  rw [e1, this]
  unfold tagOf
  omega

/-- The row that make has laid, as the heap's own block. -/
theorem made_block {w1 : World} {B n : Nat} {e : TypeId} {g : Nat} {xs : List Value} (h : w1.ownsRow B e 1 (.slice (some ⟨g, 0, none⟩) n n) n xs) :
    ∃ cl : List Value, w1.heap[g]? = some (.cells cl.toArray e (0, 0)) ∧ cl.length = n := by
  rcases h.2 with ⟨h, _⟩ | ⟨g', cap, cur, h, hB, hg, h1, h2, h3, h4⟩
  · cases h
  · cases h
    exact ⟨cur.toList, by simpa using hg, by simpa using h3⟩

theorem Us.of_block {w : World} {g : Nat} {vs : List Nat} {cl : List Value} (hcl : cl.length = vs.length)
    (h : w.heap[g]? = some (.cells (splice cl 0 (vs.map fun v => Value.int .u64 ((v : Nat) : Int))).toArray 28 (0, 0))) : g < w.heap.size ∧ Us w (g + 1) (some ⟨g, 0, none⟩) vs := by
  refine ⟨(Array.getElem?_eq_some_iff.1 h).1, .inr ⟨g, 0, rfl, by omega, fun j hj => ?_⟩⟩
  have : splice cl 0 (vs.map fun v => Value.int .u64 ((v : Nat) : Int)) = vs.map fun v => Value.int .u64 ((v : Nat) : Int) := by
    simp [splice, hcl]
  rw [this] at h
  simp [World.cell?, h, List.getD, hj]

theorem us_cells {w : World} {B : Nat} {x : Addr} {vs : List Nat} (h : Us w B (some x) vs) : ∀ j v, (vs.map fun v => Value.int .u64 ((v : Nat) : Int))[j]? = some v → w.cell? (x.add j) = some v := by
  intro j v hv
  have hj : j < vs.length := by simpa using (List.getElem?_eq_some_iff.1 hv).1
  rcases h.ways with h0 | ⟨b, off, hx, hb, hc⟩
  · exfalso; omega
  · cases hx
    rw [Addr.add_lit, hc j hj, ← hv]
    simp [List.getD, hj]

theorem us_one (vs : List Nat) : ∀ u ∈ vs.map (fun v => Value.int .u64 ((v : Nat) : Int)), u.oneCell' = true := by
  intro u hu
  obtain ⟨_, _, rfl⟩ := List.mem_map.1 hu
  rfl

set_option maxHeartbeats 16000000 in
set_option maxRecDepth 100000 in
theorem law3 (lb : List UInt8) (vs : List Nat) (a0 : Option Addr) (c0 : Nat) (num : Int) (a2 : Option Addr) (c2 : Nat) (w : World)
    (hb : Bs w a0 lb) (hu : Us w w.heap.size a2 vs) (hsm : ∀ v ∈ vs, v < 18446744073709551616) (hl0 : lb.length ≤ 9223372036854775807) (hl2 : vs.length ≤ 9223372036854775807) :
    Calls Try.prog 3 #[.slice a0 lb.length c0, .int .i64 num, .slice a2 vs.length c2] w fun e w' => e = .returned (.bool true) ∧ Below w.heap.size w w' := by
  obtain ⟨i0, hi, hz0, hz1, hz2⟩ := info_parts (P := Try.prog) (e := 28) (z := .int .u64 0) (size := 1) (bytes := 8) (by kernel_rfl)
  have q23 : ∀ (w : World) (a : Option Addr) (n c n' c' : Nat), (binOp .neq 23 (.slice a n c) (.slice none n' c')).run Try.prog w = .ok (.bool (!a.isNone)) w := fun w a n c n' c' => run_neq_slice_nil_any w _ _ a n c n' c' Try.underlying23
  have hg := guard5 a0 a2 lb.length c0 vs.length c2 num w hl0 hl2
  go_enter Try.func3, Try.ntmps3
  go_wp2_with fail
  refine hg.mono ?_
  rintro e w' ⟨⟨b, rfl, hsum⟩, rfl⟩
  clear hg
  cases b
  · go_wp2_with fail
    go_ret
    exact ⟨rfl, Below.refl _ _⟩
  have hs0 : lb.length + vs.length ≤ 1048576 := hsum rfl
  clear hsum
  have d1 : decide ((1048576 : Int) < (lb.length : Int)) = false := decide_eq_false (by omega)
  by_cases t1 : vs.length ≤ 131072
  case neg =>
    go_wp2_with fail
    go_ret
    exact ⟨rfl, Below.refl _ _⟩
  have d3 : decide ((131072 : Int) < (vs.length : Int)) = false := decide_eq_false (by omega)
  by_cases t2 : lb.length + 8 * vs.length ≤ 1048576
  case neg =>
    go_wp2_with fail
    go_ret
    exact ⟨rfl, Below.refl _ _⟩
  have d4 : decide ((1048576 : Int) < (lb.length : Int) + 8 * (vs.length : Int)) = false := decide_eq_false (by omega)
  cases a2 with
  | none =>
    have hvs : vs = [] := by rcases hu with h | ⟨_, _, h, _⟩; exact h; cases h
    subst hvs
    have hB0 := Below.refl w.heap.size w
    have hbW := hb.below hB0
    have hcl := clone_put a0 c0 lb w hbW (by omega)
    go_wp2_with fail
    refine hcl.mono ?_
    rintro e w3 ⟨v3, rfl, ho3, hbel3⟩
    clear hcl
    have hpk := packed_put w.heap.size num v3 lb none c2 [] w3 ho3 hbel3.size (.inl rfl) (fun v hv => by cases hv) (by omega) (by simp)
    have hnil : packed num [] = [] := rfl
    rw [hnil, List.append_nil] at hpk
    go_wp2_with fail
    refine hpk.mono ?_
    rintro e w4 ⟨v4, rfl, ho4, hbel4⟩
    clear hpk ho3 hnil
    obtain ⟨ao, co, rfl, hco, hcm, _, hbo⟩ := Bs.of_owns ho4
    clear ho4
    have hB4 : Below w.heap.size w w4 := (hB0.trans (hbel3.mono hB0.size)).trans (hbel4.mono hB0.size)
    obtain ⟨A1, C1, hs1, hr1⟩ := hbo.high lb [] (by simp) co hco
    obtain ⟨A2, C2, hs2, hc2, hc2', hr2⟩ := hbo.low lb [] (by simp) co hco
    have hsame := sameBytes_true lb A1 a0 C1 c0 w4 hs1 (hb.below hB4) (by omega)
    have d2 : decide ((lb.length : Int) < (lb.length : Int)) = false := by simp
    go_wp2_with fail
    refine hsame.mono ?_
    rintro e w5 ⟨rfl, hbel5⟩
    clear hsame
    go_wp2_with fail
    go_ret
    exact ⟨rfl, hB4.trans (hbel5.mono hB4.size)⟩
  | some x =>
    obtain ⟨cs, hcs⟩ : ∃ cs, cs = vs.map (fun v => Value.int .u64 ((v : Nat) : Int)) := ⟨_, rfl⟩
    have hcn : cs.length = Nat.min vs.length vs.length := by rw [hcs]; simp
    have hone := us_one vs
    have hcells : ∀ w1 : World, Below w.heap.size w w1 → ∀ j v, cs[j]? = some v → w1.cell? (x.add j) = some v := fun w1 h1 => by rw [hcs]; exact us_cells (hu.below h1 (Nat.le_refl _))
    rw [← hcs] at hone
    have HCS : Hid (cs = vs.map (fun v => Value.int .u64 ((v : Nat) : Int))) := hcs
    have hcn2 : cs.length ≤ vs.length := by rw [hcs]; simp
    clear hcs
    go_wp2_with (first
      | (at_make; refine wpList_make_full _ rfl _ _ 23 rfl w.heap.size 28 i0 (.int .u64 0) 1 Try.underlying23 hi hz0 hz1 .i64 .i64 _ _ vs.length rfl rfl rfl rfl (by rw [hz2]; omega) (by unfold maxLen; omega) (Nat.le_refl _) ?_; intro w1 hown0 hgrow0; obtain ⟨cl, hgc, hcl⟩ := made_block hown0; have hbel1 : Below w.heap.size w w1 := (Below.refl _ _).grown hgrow0 (Nat.le_refl _) (fun k hk => by cases hk); have HCL : Hid (cl.length = vs.length) := hcl; have HGC : Hid (w1.heap[w.heap.size]? = some (.cells cl.toArray 28 (0, 0))) := hgc; clear hown0 hgrow0 hcl hgc)
      | (refine wpList_copy_splice rfl _ _ 23 23 rfl 28 Try.underlying23 (by kernel_rfl) _ _ _ _ _ _ rfl rfl w.heap.size 0 cl 28 HGC.out cs hcn (fun _ => ⟨rfl, x, rfl, hcells w1 hbel1⟩) (by rw [HCL.out]; omega) hone w.heap.size w hbel1 (Nat.le_refl _) ?_; intro w2 hg2 hbel2))
    obtain ⟨hgl, hus0⟩ := Us.of_block HCL.out (by have := hg2.out; rw [HCS.out] at this; exact this)
    have hus : Us w2 w2.heap.size (some ⟨w.heap.size, 0, none⟩) vs := hus0.wider hgl
    clear hus0 hg2 HCL HGC HCS hcells hone hcn hcn2 hbel1 hu
    rcases Nat.eq_zero_or_pos vs.length with h0 | hpos
    · have hvs : vs = [] := List.eq_nil_of_length_eq_zero h0
      clear h0
      subst hvs
      have hbW := hb.below hbel2
      have hcl := clone_put a0 c0 lb w2 hbW (by omega)
      go_wp2_with fail
      refine hcl.mono ?_
      rintro e w3 ⟨v3, rfl, ho3, hbel3⟩
      clear hcl
      have hpk := packed_put w2.heap.size num v3 lb (some ⟨w.heap.size, 0, none⟩) 0 [] w3 ho3 hbel3.size (.inl rfl) (fun v hv => by cases hv) (by omega) (by simp)
      have hnil : packed num [] = [] := rfl
      rw [hnil, List.append_nil] at hpk
      go_wp2_with fail
      refine hpk.mono ?_
      rintro e w4 ⟨v4, rfl, ho4, hbel4⟩
      clear hpk ho3 hnil
      obtain ⟨ao, co, rfl, hco, hcm, _, hbo⟩ := Bs.of_owns ho4
      clear ho4
      have hB4 : Below w.heap.size w w4 := (hbel2.trans (hbel3.mono hbel2.size)).trans (hbel4.mono hbel2.size)
      obtain ⟨A1, C1, hs1, hr1⟩ := hbo.high lb [] (by simp) co hco
      obtain ⟨A2, C2, hs2, hc2, hc2', hr2⟩ := hbo.low lb [] (by simp) co hco
      have hsame := sameBytes_true lb A1 a0 C1 c0 w4 hs1 (hb.below hB4) (by omega)
      have d2 : decide ((lb.length : Int) < (lb.length : Int)) = false := by simp
      go_wp2_with fail
      refine hsame.mono ?_
      rintro e w5 ⟨rfl, hbel5⟩
      clear hsame
      go_wp2_with fail
      go_ret
      exact ⟨rfl, hB4.trans (hbel5.mono hB4.size)⟩
    have hv0 : ((vs.length : Int) == 0) = false := beq_eq_false_iff_ne.2 (by omega)
    have hbW := hb.below hbel2
    have hcl := clone_put a0 c0 lb w2 hbW (by omega)
    go_wp2_with fail
    refine hcl.mono ?_
    rintro e w3 ⟨v3, rfl, ho3, hbel3⟩
    clear hcl
    have hpk := packed_put w2.heap.size num v3 lb (some ⟨w.heap.size, 0, none⟩) vs.length vs w3 ho3 hbel3.size (hus.below hbel3 (Nat.le_refl _)) hsm (by omega) (by omega)
    have hbl := body_length_le vs hsm
    have hT := tagOf_lt num
    have h7 := tag_and7 num
    have h61 := num_and61 num
    have hpe : packed num vs = Lib.uvarint (tagOf num) ++ (Lib.uvarint (body vs).length ++ body vs) := by
      unfold packed
      rw [if_neg (by intro h; simp [h] at hpos)]
    obtain ⟨pk, hpkd⟩ : ∃ pk, pk = packed num vs := ⟨_, rfl⟩
    rw [← hpkd] at hpe hpk
    clear hpkd
    obtain ⟨T, hTd⟩ : ∃ T, T = tagOf num := ⟨_, rfl⟩
    rw [← hTd] at hpe hT h7 h61
    clear hTd
    obtain ⟨L, hL⟩ : ∃ L, L = lb ++ pk := ⟨_, rfl⟩
    rw [← hL] at hpk
    have hLl : L.length = lb.length + pk.length := by rw [hL]; simp
    have hpl : pk.length ≤ 10 * vs.length + 20 := by
      have q1 := Lib.uvarint_length64 hT
      have q2 := Lib.uvarint_length64 (x := (body vs).length) (by omega)
      rw [hpe, List.length_append, List.length_append]
      omega
    have HL : Hid (L = lb ++ pk) := hL
    have HP : Hid (pk = Lib.uvarint T ++ (Lib.uvarint (body vs).length ++ body vs)) := hpe
    have L1 : L.length ≤ lb.length + pk.length := by omega
    have L2 : lb.length + pk.length ≤ L.length := by omega
    clear hL hpe hLl
    go_wp2_with fail
    refine hpk.mono ?_
    rintro e w4 ⟨v4, rfl, ho4, hbel4⟩
    clear hpk ho3
    obtain ⟨ao, co, rfl, hco, hcm, _, hbo⟩ := Bs.of_owns ho4
    clear ho4
    have hB4 : Below w.heap.size w w4 := (hbel2.trans (hbel3.mono hbel2.size)).trans (hbel4.mono hbel2.size)
    have hus4 := (hus.below hbel3 (Nat.le_refl _)).below hbel4 (Nat.le_refl _)
    obtain ⟨A1, C1, hs1, hr1⟩ := hbo.high lb pk HL.out co hco
    obtain ⟨A2, C2, hs2, hc2, hc2', hr2⟩ := hbo.low lb pk HL.out co hco
    have hsame := sameBytes_true lb A1 a0 C1 c0 w4 hs1 (hb.below hB4) (by omega)
    have d2 : decide ((L.length : Int) < (lb.length : Int)) = false := decide_eq_false (by omega)
    go_wp2_with fail
    refine hsame.mono ?_
    rintro e w5 ⟨rfl, hbel5⟩
    clear hsame
    have hB5 := hB4.trans (hbel5.mono hB4.size)
    have hus5 : Us w5 w2.heap.size (some ⟨w.heap.size, 0, none⟩) vs := hus4.below hbel5 (Nat.le_trans hbel3.size hbel4.size)
    have hs5 := hs2.below hbel5
    unfold maxLen at hcm
    have hsf := splitField_at T (body vs) pk A2 C2 w5 hT HP.out hs5 (by omega) hc2 (by omega)
    go_wp2_with fail
    refine hsf.mono ?_
    rintro e w' ⟨⟨A3, C3, rfl, hb3, hc3, hc3'⟩, rfl⟩
    clear hsf
    clear hs5 hs2 hs1 hr1 hr2 hbo hbW hus hus4 HL HP hB4
    go_wp2_with fail
    clear h7 h61
    go_loop [12, 14] (fun vb vi => ∃ (k : Nat) (A : Option Addr) (C : Nat) (r : List UInt8), vb = .slice A r.length C ∧ vi = .int .i64 k ∧ r = body (vs.drop k) ∧ Bs w5 A r ∧ r.length ≤ C ∧ C ≤ 9223372036854775807 ∧ k ≤ vs.length)
      (fun _ vi => vs.length - (intOf vi).toNat)
    case atStart => exact ⟨0, A3, C3, body vs, rfl, rfl, rfl, hb3, hc3, hc3', by omega⟩
    case round =>
      obtain ⟨k, A, C, r, rfl, rfl, hr, hbr, hrC, hC, hk⟩ := hrel
      have hrb : r.length ≤ 10 * vs.length := by
        have := body_length_le (vs.drop k) (fun v hv => hsm v (List.mem_of_mem_drop hv))
        rw [← hr, List.length_drop] at this
        omega
      by_cases hkl : k < vs.length
      · obtain ⟨v, hvd⟩ : ∃ v, v = vs.getD k 0 := ⟨_, rfl⟩
        obtain ⟨r2, hr2⟩ : ∃ r2, r2 = body (vs.drop (k + 1)) := ⟨_, rfl⟩
        have hrr : r = Lib.uvarint v ++ r2 := by
          rw [hr, List.drop_eq_getElem_cons hkl, hvd, hr2]
          simp [body, List.getD, hkl]
        have hv64 : v < 18446744073709551616 := by rw [hvd]; exact hsm _ (by simp [List.getD, hkl])
        rcases hus5.ways with hz | ⟨b, off, hx, hbB, hcell⟩
        · exfalso; omega
        cases hx
        have hc := hcell k hkl
        rw [← hvd] at hc
        have hc : w5.cell? ⟨w.heap.size, k, none⟩ = some (.int .u64 ((v : Nat) : Int)) := by rw [← hc, Nat.zero_add]
        obtain ⟨A4, C4, hs4, hc4, hc4', hr4⟩ := hbr.low (Lib.uvarint v) r2 hrr C hrC
        have hrd := readVarint_at v r2 r A C w5 hv64 hrr hbr (by omega)
        have hvp := Lib.uvarint_pos v
        have hvl := Lib.uvarint_length64 hv64
        have hrl := congrArg List.length hrr
        rw [List.length_append] at hrl
        have hr0 : 0 < r.length := by omega
        obtain ⟨nv, hnv⟩ : ∃ n, n = (Lib.uvarint v).length := ⟨_, rfl⟩
        rw [← hnv] at hrd hr4 hvp hvl
        have hvv : ((v : Int) != (v : Int)) = false := by simp
        have HR2 : Hid (r2 = body (vs.drop (k + 1))) := hr2
        clear hr hrr hvd hr2 hnv hrl hcell hsm
        go_wp2_with fail
        refine hrd.mono ?_
        rintro e w' ⟨rfl, rfl⟩
        clear hrd
        go_wp2_with fail
        go_round
        case rel => exact ⟨k + 1, A4, C4, r2, rfl, by go_num, HR2.out, hs4, hc4, by omega, by omega⟩
        case measure => simp [intOf]; omega
      · obtain rfl : k = vs.length := by omega
        have hr0 : r = [] := by rw [hr, List.drop_length]; rfl
        subst hr0
        clear hr
        go_wp2_with fail
        go_ret
        exact ⟨by simp, hB5⟩
end Go.Proofs.Qxb6627196a
