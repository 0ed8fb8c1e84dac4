/- Seat b6627196a: the law FnAppendPackedUintsSplitsAtAnyCut walked. -/
import Derived.Test.Qxb6627196aLaw3
import Derived.Test.Qxb6627196aSize
namespace Go.Proofs.Qxb6627196a
open Go.RowKit
set_option linter.unusedVariables false
set_option linter.unusedSimpArgs false

theorem packed_form (num : Int) (vs : List Nat) (h : 0 < vs.length) : packed num vs = Lib.uvarint (tagOf num) ++ (Lib.uvarint (body vs).length ++ body vs) := by
  unfold packed
  rw [if_neg (by intro e; simp [e] at h)]

theorem packed_len (num : Int) (vs : List Nat) (h : ∀ v ∈ vs, v < 18446744073709551616) (hn : vs.length ≤ 1048576) : (packed num vs).length ≤ 10 * vs.length + 20 := by
  rcases Nat.eq_zero_or_pos vs.length with h0 | hp
  · rw [List.eq_nil_of_length_eq_zero h0]; simp [packed]
  · have q1 := Lib.uvarint_length64 (tagOf_lt num)
    have hb := body_length_le vs h
    have q2 := Lib.uvarint_length64 (x := (body vs).length) (by omega)
    rw [packed_form num vs hp, List.length_append, List.length_append]
    omega

/-- AppendPackedUints(nil, num, vs): a row of one's own above all that lies; what was there stays. -/
theorem packed_alone (num : Int) (B : Nat) (a : Option Addr) (c : Nat) (vs : List Nat) (w : World) (hB : B ≤ w.heap.size)
    (hv : Us w B a vs) (hsm : ∀ v ∈ vs, v < 18446744073709551616) (hn : vs.length ≤ 1048576) :
    Calls Try.prog 7 #[.slice none 0 0, .int .i64 num, .slice a vs.length c] w fun e w' => ∃ v', e = .returned v' ∧ Owned w.heap.size w (packed num vs) v' w' := by
  have h := packed_put w.heap.size num (.slice none 0 0) [] a c vs w (World.ownsRow_nil _ _ _ _) (Nat.le_refl _) (hv.wider hB) hsm (by simp) hn
  rw [List.nil_append] at h
  exact h

set_option maxHeartbeats 32000000 in
set_option maxRecDepth 100000 in
theorem law4 (lb : List UInt8) (vs : List Nat) (a0 : Option Addr) (c0 : Nat) (num : Int) (a2 : Option Addr) (c2 : Nat) (k : Int) (w : World)
    (hb : Bs w a0 lb) (hu : Us w w.heap.size a2 vs) (hvc : vs.length ≤ c2) (hsm : ∀ v ∈ vs, v < 18446744073709551616) (hl0 : lb.length ≤ 9223372036854775807) (hl2 : vs.length ≤ 9223372036854775807) :
    Calls Try.prog 4 #[.slice a0 lb.length c0, .int .i64 num, .slice a2 vs.length c2, .int .i64 k] w fun e w' => e = .returned (.bool true) ∧ Below w.heap.size w w' := by
  obtain ⟨i0, hi, hz0, hz1, hz2⟩ := info_parts (P := Try.prog) (e := 28) (z := .int .u64 0) (size := 1) (bytes := 8) (by kernel_rfl)
  have q23 : ∀ (w : World) (a : Option Addr) (n c n' c' : Nat), (binOp .neq 23 (.slice a n c) (.slice none n' c')).run Try.prog w = .ok (.bool (!a.isNone)) w := fun w a n c n' c' => run_neq_slice_nil_any w _ _ a n c n' c' Try.underlying23
  have hg := guard11 a0 a2 lb.length c0 vs.length c2 num k w hl0 hl2
  go_enter Try.func4, Try.ntmps4
  go_wp2_with fail
  refine hg.mono ?_
  rintro e w' ⟨⟨b, rfl, hsum⟩, rfl⟩
  clear hg
  cases b
  · go_wp2_with fail
    go_ret
    exact ⟨rfl, Below.refl _ _⟩
  have hs0 : lb.length + vs.length ≤ 1048576 := hsum rfl
  clear hsum
  have d1 : decide ((1048576 : Int) < (lb.length : Int)) = false := decide_eq_false (by omega)
  by_cases t1 : vs.length ≤ 131072
  case neg =>
    go_wp2_with fail
    go_ret
    exact ⟨rfl, Below.refl _ _⟩
  have d3 : decide ((131072 : Int) < (vs.length : Int)) = false := decide_eq_false (by omega)
  by_cases t2 : lb.length + 8 * vs.length ≤ 1048576
  case neg =>
    go_wp2_with fail
    go_ret
    exact ⟨rfl, Below.refl _ _⟩
  have d4 : decide ((1048576 : Int) < (lb.length : Int) + 8 * (vs.length : Int)) = false := decide_eq_false (by omega)
  by_cases t3 : k < 0
  case pos =>
    go_wp2_with fail
    go_ret
    exact ⟨rfl, Below.refl _ _⟩
  by_cases t4 : k ≤ (vs.length : Int)
  case neg =>
    go_wp2_with fail
    go_ret
    exact ⟨rfl, Below.refl _ _⟩
  obtain ⟨p1, p2, hvs, hk⟩ : ∃ p1 p2, vs = p1 ++ p2 ∧ k = ((p1.length : Nat) : Int) := ⟨vs.take k.toNat, vs.drop k.toNat, (List.take_append_drop _ _).symm, by rw [List.length_take]; omega⟩
  subst hk
  have t5 : p1.length ≤ vs.length := by omega
  have d5 : decide (((p1.length : Nat) : Int) < 0) = false := decide_eq_false (by omega)
  have d6 : decide ((vs.length : Int) < ((p1.length : Nat) : Int)) = false := decide_eq_false (by omega)
  clear t3 t4
  cases a2 with
  | none =>
    have hvn : vs = [] := by rcases hu with h | ⟨_, _, h, _⟩; exact h; cases h
    subst hvn
    have hB0 := Below.refl w.heap.size w
    have hp1 : p1 = [] := List.eq_nil_of_length_eq_zero (by simpa using t5)
    subst hp1
    have hp2 : p2 = [] := by simpa using hvs.symm
    subst hp2
    clear hvs
    have hbW := hb.below hB0
    have hcl := clone_put a0 c0 lb w hbW (by omega)
    have hs1 := Us.high (w := w) (B := w.heap.size) (a := none) (l := []) (.inl rfl) [] [] rfl c2 (Nat.zero_le _)
    obtain ⟨A1, C1, _, hr1⟩ := hs1
    have hs2 := Us.low (w := w) (B := w.heap.size) (a := none) (l := []) (.inl rfl) [] [] rfl c2 (Nat.zero_le _)
    obtain ⟨A2, C2, _, hr2⟩ := hs2
    have hnil : packed num [] = [] := rfl
    simp only [List.length_nil, Int.ofNat_zero, Int.natCast_zero] at hr1 hr2
    go_wp2_with fail
    refine hcl.mono ?_
    rintro e w3 ⟨v3, rfl, ho3, hbel3⟩
    clear hcl
    have hpk := packed_put w.heap.size num v3 lb none c2 [] w3 ho3 hbel3.size (.inl rfl) (fun v hv => by cases hv) (by omega) (by simp)
    rw [hnil, List.append_nil] at hpk
    go_wp2_with fail
    refine hpk.mono ?_
    rintro e w4 ⟨v4, rfl, ho4, hbel4⟩
    clear hpk ho3
    obtain ⟨ao, co, rfl, hco, hcm, _, hbo⟩ := Bs.of_owns ho4
    clear ho4
    have hB4 : Below w.heap.size w w4 := (hB0.trans (hbel3.mono hB0.size)).trans (hbel4.mono hB0.size)
    have hpa := packed_alone num 0 none c2 [] w4 (Nat.zero_le _) (.inl rfl) (fun v hv => by cases hv) (by simp)
    rw [hnil] at hpa
    go_wp2_with fail
    refine hpa.mono ?_
    rintro e w5 ⟨v5, rfl, ho5, hbel5⟩
    clear hpa
    obtain ⟨a5, c5, rfl, hc5, hm5, _, hb5⟩ := Bs.of_owns ho5
    clear ho5
    have hB5 := hB4.trans (hbel5.mono hB4.size)
    have hpl := packed_alone num 0 A1 C1 [] w5 (Nat.zero_le _) (.inl rfl) (fun v hv => by cases hv) (by simp)
    rw [hnil] at hpl
    go_wp2_with fail
    refine hpl.mono ?_
    rintro e w6 ⟨v6, rfl, ho6, hbel6⟩
    clear hpl
    obtain ⟨a6, c6, rfl, hc6, hm6, _, hb6⟩ := Bs.of_owns ho6
    clear ho6
    have hB6 := hB5.trans (hbel6.mono hB5.size)
    have hpr := packed_alone num 0 A2 C2 [] w6 (Nat.zero_le _) (.inl rfl) (fun v hv => by cases hv) (by simp)
    rw [hnil] at hpr
    go_wp2_with fail
    refine hpr.mono ?_
    rintro e w7 ⟨v7, rfl, ho7, hbel7⟩
    clear hpr
    obtain ⟨a7, c7, rfl, hc7, hm7, _, hb7⟩ := Bs.of_owns ho7
    clear ho7
    have hB7 := hB6.trans (hbel7.mono hB6.size)
    have hbo7 := ((hbo.below hbel5).below hbel6).below hbel7
    obtain ⟨A8, C8, hs8, hr8⟩ := hbo7.high lb [] (by simp) co hco
    obtain ⟨A9, C9, hs9, hc9, hc9', hr9⟩ := hbo7.low lb [] (by simp) co hco
    have hsame := sameBytes_true lb A8 a0 C8 c0 w7 hs8 (hb.below hB7) (by omega)
    have d2 : ((lb.length : Int) != (lb.length : Int)) = false := by simp
    go_wp2_with fail
    refine hsame.mono ?_
    rintro e w8 ⟨rfl, hbel8⟩
    clear hsame
    have hB8 := hB7.trans (hbel8.mono hB7.size)
    have hsame := sameBytes_true [] A9 a5 C9 c5 w8 (.inl rfl) (.inl rfl) (by simp)
    go_wp2_with fail
    refine hsame.mono ?_
    rintro e w9 ⟨rfl, hbel9⟩
    clear hsame
    go_wp2_with fail
    go_ret
    exact ⟨rfl, hB8.trans (hbel9.mono hB8.size)⟩
  | some x =>
    obtain ⟨cs, hcs⟩ : ∃ cs, cs = vs.map (fun v => Value.int .u64 ((v : Nat) : Int)) := ⟨_, rfl⟩
    have hcn : cs.length = Nat.min vs.length vs.length := by rw [hcs]; simp
    have hone := us_one vs
    have hcells : ∀ w1 : World, Below w.heap.size w w1 → ∀ j v, cs[j]? = some v → w1.cell? (x.add j) = some v := fun w1 h1 => by rw [hcs]; exact us_cells (hu.below h1 (Nat.le_refl _))
    rw [← hcs] at hone
    have HCS : Hid (cs = vs.map (fun v => Value.int .u64 ((v : Nat) : Int))) := hcs
    have HVS : Hid (vs = p1 ++ p2) := hvs
    have hcn2 : cs.length ≤ vs.length := by rw [hcs]; simp
    clear hcs hvs
    go_wp2_with (first
      | (at_make; refine wpList_make_full _ rfl _ _ 23 rfl w.heap.size 28 i0 (.int .u64 0) 1 Try.underlying23 hi hz0 hz1 .i64 .i64 _ _ vs.length rfl rfl rfl rfl (by rw [hz2]; omega) (by unfold maxLen; omega) (Nat.le_refl _) ?_; intro w1 hown0 hgrow0; obtain ⟨cl, hgc, hcl⟩ := made_block hown0; have hbel1 : Below w.heap.size w w1 := (Below.refl _ _).grown hgrow0 (Nat.le_refl _) (fun k hk => by cases hk); have HCL : Hid (cl.length = vs.length) := hcl; have HGC : Hid (w1.heap[w.heap.size]? = some (.cells cl.toArray 28 (0, 0))) := hgc; clear hown0 hgrow0 hcl hgc)
      | (refine wpList_copy_splice rfl _ _ 23 23 rfl 28 Try.underlying23 (by kernel_rfl) _ _ _ _ _ _ rfl rfl w.heap.size 0 cl 28 HGC.out cs hcn (fun _ => ⟨rfl, x, rfl, hcells w1 hbel1⟩) (by rw [HCL.out]; omega) hone w.heap.size w hbel1 (Nat.le_refl _) ?_; intro w2 hg2 hbel2))
    obtain ⟨hgl, hus0⟩ := Us.of_block HCL.out (by have := hg2.out; rw [HCS.out] at this; exact this)
    have hus : Us w2 w2.heap.size (some ⟨w.heap.size, 0, none⟩) vs := hus0.wider hgl
    clear hus0 hg2 HCL HGC HCS hcells hone hcn hcn2 hbel1 hu
    rcases Nat.eq_zero_or_pos vs.length with h0 | hpos
    · have hvn : vs = [] := List.eq_nil_of_length_eq_zero h0
      clear h0
      subst hvn
      have hvs := HVS.out
      clear HVS
      have hp1 : p1 = [] := List.eq_nil_of_length_eq_zero (by simpa using t5)
      subst hp1
      have hp2 : p2 = [] := by simpa using hvs.symm
      subst hp2
      clear hvs
      have hbW := hb.below hbel2
      have hcl := clone_put a0 c0 lb w2 hbW (by omega)
      have hs1 := Us.high (w := w2) (B := w2.heap.size) (a := (some ⟨w.heap.size, 0, none⟩)) (l := []) (.inl rfl) [] [] rfl 0 (Nat.zero_le _)
      obtain ⟨A1, C1, _, hr1⟩ := hs1
      have hs2 := Us.low (w := w2) (B := w2.heap.size) (a := (some ⟨w.heap.size, 0, none⟩)) (l := []) (.inl rfl) [] [] rfl 0 (Nat.zero_le _)
      obtain ⟨A2, C2, _, hr2⟩ := hs2
      have hnil : packed num [] = [] := rfl
      simp only [List.length_nil, Int.ofNat_zero, Int.natCast_zero] at hr1 hr2
      go_wp2_with fail
      refine hcl.mono ?_
      rintro e w3 ⟨v3, rfl, ho3, hbel3⟩
      clear hcl
      have hpk := packed_put w2.heap.size num v3 lb (some ⟨w.heap.size, 0, none⟩) 0 [] w3 ho3 hbel3.size (.inl rfl) (fun v hv => by cases hv) (by omega) (by simp)
      rw [hnil, List.append_nil] at hpk
      go_wp2_with fail
      refine hpk.mono ?_
      rintro e w4 ⟨v4, rfl, ho4, hbel4⟩
      clear hpk ho3
      obtain ⟨ao, co, rfl, hco, hcm, _, hbo⟩ := Bs.of_owns ho4
      clear ho4
      have hB4 : Below w.heap.size w w4 := (hbel2.trans (hbel3.mono hbel2.size)).trans (hbel4.mono hbel2.size)
      have hpa := packed_alone num 0 (some ⟨w.heap.size, 0, none⟩) 0 [] w4 (Nat.zero_le _) (.inl rfl) (fun v hv => by cases hv) (by simp)
      rw [hnil] at hpa
      go_wp2_with fail
      refine hpa.mono ?_
      rintro e w5 ⟨v5, rfl, ho5, hbel5⟩
      clear hpa
      obtain ⟨a5, c5, rfl, hc5, hm5, _, hb5⟩ := Bs.of_owns ho5
      clear ho5
      have hB5 := hB4.trans (hbel5.mono hB4.size)
      have hpl := packed_alone num 0 A1 C1 [] w5 (Nat.zero_le _) (.inl rfl) (fun v hv => by cases hv) (by simp)
      rw [hnil] at hpl
      go_wp2_with fail
      refine hpl.mono ?_
      rintro e w6 ⟨v6, rfl, ho6, hbel6⟩
      clear hpl
      obtain ⟨a6, c6, rfl, hc6, hm6, _, hb6⟩ := Bs.of_owns ho6
      clear ho6
      have hB6 := hB5.trans (hbel6.mono hB5.size)
      have hpr := packed_alone num 0 A2 C2 [] w6 (Nat.zero_le _) (.inl rfl) (fun v hv => by cases hv) (by simp)
      rw [hnil] at hpr
      go_wp2_with fail
      refine hpr.mono ?_
      rintro e w7 ⟨v7, rfl, ho7, hbel7⟩
      clear hpr
      obtain ⟨a7, c7, rfl, hc7, hm7, _, hb7⟩ := Bs.of_owns ho7
      clear ho7
      have hB7 := hB6.trans (hbel7.mono hB6.size)
      have hbo7 := ((hbo.below hbel5).below hbel6).below hbel7
      obtain ⟨A8, C8, hs8, hr8⟩ := hbo7.high lb [] (by simp) co hco
      obtain ⟨A9, C9, hs9, hc9, hc9', hr9⟩ := hbo7.low lb [] (by simp) co hco
      have hsame := sameBytes_true lb A8 a0 C8 c0 w7 hs8 (hb.below hB7) (by omega)
      have d2 : ((lb.length : Int) != (lb.length : Int)) = false := by simp
      go_wp2_with fail
      refine hsame.mono ?_
      rintro e w8 ⟨rfl, hbel8⟩
      clear hsame
      have hB8 := hB7.trans (hbel8.mono hB7.size)
      have hsame := sameBytes_true [] A9 a5 C9 c5 w8 (.inl rfl) (.inl rfl) (by simp)
      go_wp2_with fail
      refine hsame.mono ?_
      rintro e w9 ⟨rfl, hbel9⟩
      clear hsame
      go_wp2_with fail
      go_ret
      exact ⟨rfl, hB8.trans (hbel9.mono hB8.size)⟩
    have hv0 : ((vs.length : Int) == 0) = false := beq_eq_false_iff_ne.2 (by omega)
    have hsm1 : ∀ v ∈ p1, v < 18446744073709551616 := fun v hv => hsm v (by rw [HVS.out]; exact List.mem_append_left _ hv)
    have hsm2 : ∀ v ∈ p2, v < 18446744073709551616 := fun v hv => hsm v (by rw [HVS.out]; exact List.mem_append_right _ hv)
    have hp12 : vs.length = p1.length + p2.length := by have := congrArg List.length HVS.out; simpa using this
    have t6 : p2.length ≤ vs.length := by omega
    have hbody : body vs = body p1 ++ body p2 := by rw [HVS.out, body_append]
    have HBD : Hid (body vs = body p1 ++ body p2) := hbody
    have e12 : vs.length ≤ p1.length + p2.length := by omega
    have e21 : p1.length + p2.length ≤ vs.length := by omega
    clear hp12 hbody
    have hbW := hb.below hbel2
    have hcl := clone_put a0 c0 lb w2 hbW (by omega)
    go_wp2_with fail
    refine hcl.mono ?_
    rintro e w3 ⟨v3, rfl, ho3, hbel3⟩
    clear hcl
    have hus3 := hus.below hbel3 (Nat.le_refl _)
    have hpk := packed_put w2.heap.size num v3 lb (some ⟨w.heap.size, 0, none⟩) vs.length vs w3 ho3 hbel3.size hus3 hsm (by omega) (by omega)
    have hbl := body_length_le vs hsm
    have hT := tagOf_lt num
    have h7 := tag_and7 num
    have hpe := packed_form num vs hpos
    have hpl := packed_len num vs hsm (by omega)
    have hpe1 := packed_form num p1
    have hpl1 := packed_len num p1 hsm1 (by omega)
    have hpe2 := packed_form num p2
    have hpl2 := packed_len num p2 hsm2 (by omega)
    have hn1 : p1.length = 0 → (packed num p1).length = 0 := fun h => by rw [List.eq_nil_of_length_eq_zero h]; rfl
    have hn2 : p2.length = 0 → (packed num p2).length = 0 := fun h => by rw [List.eq_nil_of_length_eq_zero h]; rfl
    obtain ⟨pk, hpkd⟩ : ∃ pk, pk = packed num vs := ⟨_, rfl⟩
    have HPK : Hid (packed num vs = pk) := hpkd.symm
    rw [← hpkd] at hpe hpk hpl
    clear hpkd
    obtain ⟨pl, hpkd⟩ : ∃ pk, pk = packed num p1 := ⟨_, rfl⟩
    have HPL : Hid (packed num p1 = pl) := hpkd.symm
    rw [← hpkd] at hpe1 hpl1 hn1
    clear hpkd
    obtain ⟨pr, hpkd⟩ : ∃ pk, pk = packed num p2 := ⟨_, rfl⟩
    have HPR : Hid (packed num p2 = pr) := hpkd.symm
    rw [← hpkd] at hpe2 hpl2 hn2
    clear hpkd
    obtain ⟨T, hTd⟩ : ∃ T, T = tagOf num := ⟨_, rfl⟩
    rw [← hTd] at hpe hT h7 hpe1 hpe2
    clear hTd
    obtain ⟨L, hL⟩ : ∃ L, L = lb ++ pk := ⟨_, rfl⟩
    rw [← hL] at hpk
    have hLl : L.length = lb.length + pk.length := by rw [hL]; simp
    have HL : Hid (L = lb ++ pk) := hL
    have HP : Hid (pk = Lib.uvarint T ++ (Lib.uvarint (body vs).length ++ body vs)) := hpe
    have HP1 : Hid (0 < p1.length → pl = Lib.uvarint T ++ (Lib.uvarint (body p1).length ++ body p1)) := hpe1
    have HP2 : Hid (0 < p2.length → pr = Lib.uvarint T ++ (Lib.uvarint (body p2).length ++ body p2)) := hpe2
    have HN1 : Hid (p1.length = 0 → pl.length = 0) := hn1
    have HN2 : Hid (p2.length = 0 → pr.length = 0) := hn2
    have L1 : L.length ≤ lb.length + pk.length := by omega
    have L2 : lb.length + pk.length ≤ L.length := by omega
    have d2 : ((L.length : Int) != (lb.length : Int) + (pk.length : Int)) = false := by rw [hLl]; simp
    clear hL hpe hLl hpe1 hpe2 hn1 hn2
    go_wp2_with fail
    refine hpk.mono ?_
    rintro e w4 ⟨v4, rfl, ho4, hbel4⟩
    clear hpk ho3
    obtain ⟨ao, co, rfl, hco, hcm, _, hbo⟩ := Bs.of_owns ho4
    clear ho4
    have hB4 : Below w.heap.size w w4 := (hbel2.trans (hbel3.mono hbel2.size)).trans (hbel4.mono hbel2.size)
    have g24 : w2.heap.size ≤ w4.heap.size := Nat.le_trans hbel3.size hbel4.size
    have hus4 := hus3.below hbel4 (Nat.le_refl _)
    have hpa := packed_alone num w2.heap.size (some ⟨w.heap.size, 0, none⟩) vs.length vs w4 g24 hus4 hsm (by omega)
    rw [HPK.out] at hpa
    go_wp2_with fail
    refine hpa.mono ?_
    rintro e w5 ⟨v5, rfl, ho5, hbel5⟩
    clear hpa
    obtain ⟨a5, c5, rfl, hc5, hm5, _, hb5⟩ := Bs.of_owns ho5
    clear ho5
    have hB5 := hB4.trans (hbel5.mono hB4.size)
    have g25 := Nat.le_trans g24 hbel5.size
    have hus5 := hus4.below hbel5 g24
    obtain ⟨A1, C1, hu1, hr1⟩ := hus5.high p1 p2 HVS.out vs.length (Nat.le_refl _)
    have hpl' := packed_alone num w2.heap.size A1 C1 p1 w5 g25 hu1 hsm1 (by omega)
    rw [HPL.out] at hpl'
    go_wp2_with fail
    refine hpl'.mono ?_
    rintro e w6 ⟨v6, rfl, ho6, hbel6⟩
    clear hpl'
    obtain ⟨a6, c6, rfl, hc6, hm6, _, hb6⟩ := Bs.of_owns ho6
    clear ho6
    have hB6 := hB5.trans (hbel6.mono hB5.size)
    have g26 := Nat.le_trans g25 hbel6.size
    have hus6 := hus5.below hbel6 g25
    obtain ⟨A2, C2, hu2, hr2⟩ := hus6.low p1 p2 HVS.out vs.length (Nat.le_refl _)
    have hpr' := packed_alone num w2.heap.size A2 C2 p2 w6 g26 hu2 hsm2 (by omega)
    rw [HPR.out] at hpr'
    go_wp2_with fail
    refine hpr'.mono ?_
    rintro e w7 ⟨v7, rfl, ho7, hbel7⟩
    clear hpr'
    obtain ⟨a7, c7, rfl, hc7, hm7, _, hb7⟩ := Bs.of_owns ho7
    clear ho7
    have hB7 := hB6.trans (hbel7.mono hB6.size)
    have hus7 := hus6.below hbel7 g26
    have hbo7 := ((hbo.below hbel5).below hbel6).below hbel7
    have hb57 := (hb5.below hbel6).below hbel7
    have hb67 := hb6.below hbel7
    obtain ⟨A8, C8, hs8, hr8⟩ := hbo7.high lb pk HL.out co hco
    obtain ⟨A9, C9, hs9, hc9, hc9', hr9⟩ := hbo7.low lb pk HL.out co hco
    have hsame := sameBytes_true lb A8 a0 C8 c0 w7 hs8 (hb.below hB7) (by omega)
    clear hus hus3 hus4 hus5 hus6 hbW hbo hb5 hb6 hu1 hu2 hs8 hbo7
    go_wp2_with fail
    refine hsame.mono ?_
    rintro e w8 ⟨rfl, hbel8⟩
    clear hsame hr1 hr2
    have hB8 := hB7.trans (hbel8.mono hB7.size)
    have hb58 := hb57.below hbel8
    have hsame := sameBytes_true pk A9 a5 C9 c5 w8 (hs9.below hbel8) hb58 (by omega)
    have hb68 := hb67.below hbel8
    have hb78 := hb7.below hbel8
    have g28 : w2.heap.size ≤ w7.heap.size := Nat.le_trans g26 hbel7.size
    have hus8 := hus7.below hbel8 g28
    clear hb57 hb67 hb7 hus7 hs9
    go_wp2_with fail
    refine hsame.mono ?_
    rintro e w9 ⟨rfl, hbel9⟩
    clear hsame hr8 hr9
    have hB9 := hB8.trans (hbel9.mono hB8.size)
    have hb59 := hb58.below hbel9
    have hb69 := hb68.below hbel9
    have hb79 := hb78.below hbel9
    have hus9 : Us w9 w2.heap.size (some ⟨w.heap.size, 0, none⟩) vs := hus8.below hbel9 (Nat.le_trans g28 hbel8.size)
    clear hb58 hb68 hb78 hus8
    unfold maxLen at hm5 hm6 hm7
    have hsf := splitField_at T (body vs) pk a5 c5 w9 hT HP.out hb59 (by omega) hc5 (by omega)
    go_wp2_with fail
    refine hsf.mono ?_
    rintro e w' ⟨⟨A3, C3, rfl, hb3, hc3, hc3'⟩, rfl⟩
    clear hsf
    go_wp2_with fail
    clear h7
    go_loop [18, 19] (fun vn vi => ∃ (k : Nat), vi = .int .i64 k ∧ vn = .int .i64 ((body (vs.take k)).length : Nat) ∧ k ≤ vs.length)
      (fun _ vi => vs.length - (intOf vi).toNat)
    case atStart => exact ⟨0, rfl, rfl, by omega⟩
    case round =>
      obtain ⟨k, rfl, rfl, hk⟩ := hrel
      have hb1 : (body (vs.take k)).length ≤ 10 * vs.length := by
        have := body_length_le (vs.take k) (fun v hv => hsm v (List.mem_of_mem_take hv))
        simp at this; omega
      by_cases hkl : k < vs.length
      · rcases hus9.ways with hz | ⟨b, off, hx, hbB, hcell⟩
        · exfalso; omega
        cases hx
        have hc := hcell k hkl
        have hst := body_take_succ vs k hkl
        obtain ⟨v, hvdef⟩ : ∃ v, v = vs.getD k 0 := ⟨_, rfl⟩
        have hv64 : v < 18446744073709551616 := by rw [hvdef]; exact hsm _ (by simp [List.getD, hkl])
        rw [← hvdef] at hc hst
        have hc : w9.cell? ⟨w.heap.size, k, none⟩ = some (.int .u64 ((v : Nat) : Int)) := by rw [← hc, Nat.zero_add]
        have hlen := Lib.uvarint_length64 hv64
        have hstl := congrArg List.length hst
        rw [List.length_append] at hstl
        have HST : Hid ((body (vs.take (k + 1))).length = (body (vs.take k)).length + (Lib.uvarint v).length) := hstl
        clear hcell hst hvdef hsm hsm1 hsm2 hstl
        go_wp2_with fail
        refine (varintSize_len v hv64 w9).mono ?_
        rintro e w' ⟨rfl, rfl⟩
        go_wp2_with fail
        go_round
        case rel =>
          refine ⟨k + 1, by go_num, ?_, by omega⟩
          rw [HST.out]
          go_num
        case measure => simp [intOf]; omega
      · obtain rfl : k = vs.length := by omega
        rw [List.take_length] at *
        have hbl1 := body_length_le p1 hsm1
        have hbl2 := body_length_le p2 hsm2
        have hN1b : p1.length = 0 → body p1 = [] := fun h => by rw [List.eq_nil_of_length_eq_zero h]; rfl
        have hN2b : p2.length = 0 → body p2 = [] := fun h => by rw [List.eq_nil_of_length_eq_zero h]; rfl
        obtain ⟨bd, hbd⟩ : ∃ b, b = body vs := ⟨_, rfl⟩
        obtain ⟨b1, hb1d⟩ : ∃ b, b = body p1 := ⟨_, rfl⟩
        obtain ⟨b2, hb2d⟩ : ∃ b, b = body p2 := ⟨_, rfl⟩
        have hB := HBD.out
        rw [← hbd, ← hb1d, ← hb2d] at hB
        have hP1 := HP1.out
        have hP2 := HP2.out
        have hN1 := HN1.out
        have hN2 := HN2.out
        rw [← hb1d] at hN1b hP1 hbl1
        rw [← hb2d] at hN2b hP2 hbl2
        rw [← hbd] at hb3 hc3 hbl ⊢
        have hBl : bd.length = b1.length + b2.length := by rw [hB]; simp
        have l1 : bd.length ≤ b1.length + b2.length := by omega
        have l2 : b1.length + b2.length ≤ bd.length := by omega
        have dT : ((T : Int) != (T : Int)) = false := by simp
        have d9 : ((bd.length : Int) != (bd.length : Int)) = false := by simp
        have d10 : ((bd.length : Int) != (b1.length : Int) + (b2.length : Int)) = false := by rw [hBl]; simp
        have HB : Hid (bd = b1 ++ b2) := hB
        clear hbd hb1d hb2d HBD HP1 HP2 HN1 HN2 hB HVS hsm hsm1 hsm2 hus9 hb59 HP HL HPK HPL HPR hk hkl hBl
        rcases Nat.eq_zero_or_pos p1.length with z1 | z1
        · -- the cut stands at the front
          obtain rfl : b1 = [] := hN1b z1
          have z3 : pl.length = 0 := hN1 z1
          have z4 : pl = [] := List.eq_nil_of_length_eq_zero z3
          have z5 : p1 = [] := List.eq_nil_of_length_eq_zero z1
          subst z4
          subst z5
          have hpr0 := hP2 (by simp at e12; omega)
          have d7 : ((0 : Int) == (vs.length : Int)) = false := beq_eq_false_iff_ne.2 (by omega)
          have d11 : ((bd.length : Int) != (b2.length : Int)) = false := by simpa using d10
          have hsf := splitField_at T b2 pr a7 c7 w9 hT hpr0 hb79 (by omega) hc7 (by omega)
          clear hP1 hP2 hN1 hN2 hN1b hN2b z1 z3 d10 hpr0
          obtain ⟨A10, C10, hs10, hr10⟩ := hb3.high [] b2 HB.out C3 hc3
          obtain ⟨A11, C11, hs11, hc11, hc11', hr11⟩ := hb3.low [] b2 HB.out C3 hc3
          simp only [List.length_nil, Int.ofNat_zero, Int.natCast_zero] at hr10 hr11
          go_wp2_with fail
          refine hsf.mono ?_
          rintro e w' ⟨⟨A12, C12, rfl, hb12, hc12, hc12'⟩, rfl⟩
          clear hsf
          have hsame := sameBytes_true [] A10 none C10 0 w9 (.inl rfl) (.inl rfl) (by simp)
          go_wp2_with fail
          refine hsame.mono ?_
          rintro e w10 ⟨rfl, hbel10⟩
          clear hsame
          have hsame := sameBytes_true b2 A11 A12 C11 C12 w10 (hs11.below hbel10) (hb12.below hbel10) (by omega)
          go_wp2_with fail
          refine hsame.mono ?_
          rintro e w11 ⟨rfl, hbel11⟩
          clear hsame
          go_wp2_with fail
          go_ret
          have hB10 := hB9.trans (hbel10.mono hB9.size)
          exact ⟨rfl, hB10.trans (hbel11.mono hB10.size)⟩
        · have d8 : (((p1.length : Nat) : Int) == 0) = false := beq_eq_false_iff_ne.2 (by omega)
          have hpl0 := hP1 z1
          have hsf := splitField_at T b1 pl a6 c6 w9 hT hpl0 hb69 (by omega) hc6 (by omega)
          rcases Nat.eq_zero_or_pos p2.length with z2 | z2
          · -- the cut stands at the end
            obtain rfl : b2 = [] := hN2b z2
            have z3 : pr.length = 0 := hN2 z2
            have z4 : pr = [] := List.eq_nil_of_length_eq_zero z3
            subst z4
            have d7 : (((p1.length : Nat) : Int) == (vs.length : Int)) = true := beq_iff_eq.2 (by omega)
            have d11 : ((bd.length : Int) != (b1.length : Int)) = false := by simpa using d10
            clear hP1 hP2 hN1 hN2 hN1b hN2b z2 z3 d10 hpl0
            obtain ⟨A10, C10, hs10, hr10⟩ := hb3.high b1 [] HB.out C3 hc3
            obtain ⟨A11, C11, hs11, hc11, hc11', hr11⟩ := hb3.low b1 [] HB.out C3 hc3
            simp only [List.length_nil] at hr11
            go_wp2_with fail
            refine hsf.mono ?_
            rintro e w' ⟨⟨A12, C12, rfl, hb12, hc12, hc12'⟩, rfl⟩
            clear hsf
            have hsame := sameBytes_true b1 A10 A12 C10 C12 w9 hs10 hb12 (by omega)
            go_wp2_with fail
            refine hsame.mono ?_
            rintro e w10 ⟨rfl, hbel10⟩
            clear hsame
            have hsame := sameBytes_true [] A11 none C11 0 w10 (.inl rfl) (.inl rfl) (by simp)
            go_wp2_with fail
            refine hsame.mono ?_
            rintro e w11 ⟨rfl, hbel11⟩
            clear hsame
            go_wp2_with fail
            go_ret
            have hB10 := hB9.trans (hbel10.mono hB9.size)
            exact ⟨rfl, hB10.trans (hbel11.mono hB10.size)⟩
          · -- the cut stands between
            have d7 : (((p1.length : Nat) : Int) == (vs.length : Int)) = false := beq_eq_false_iff_ne.2 (by omega)
            have hpr0 := hP2 z2
            have hsf2 := splitField_at T b2 pr a7 c7 w9 hT hpr0 hb79 (by omega) hc7 (by omega)
            clear hP1 hP2 hN1 hN2 hN1b hN2b hpl0 hpr0
            obtain ⟨A10, C10, hs10, hr10⟩ := hb3.high b1 b2 HB.out C3 hc3
            obtain ⟨A11, C11, hs11, hc11, hc11', hr11⟩ := hb3.low b1 b2 HB.out C3 hc3
            go_wp2_with fail
            refine hsf.mono ?_
            rintro e w' ⟨⟨A12, C12, rfl, hb12, hc12, hc12'⟩, rfl⟩
            clear hsf
            go_wp2_with fail
            refine hsf2.mono ?_
            rintro e w' ⟨⟨A13, C13, rfl, hb13, hc13, hc13'⟩, rfl⟩
            clear hsf2
            have hsame := sameBytes_true b1 A10 A12 C10 C12 w9 hs10 hb12 (by omega)
            go_wp2_with fail
            refine hsame.mono ?_
            rintro e w10 ⟨rfl, hbel10⟩
            clear hsame
            have hsame := sameBytes_true b2 A11 A13 C11 C13 w10 (hs11.below hbel10) (hb13.below hbel10) (by omega)
            go_wp2_with fail
            refine hsame.mono ?_
            rintro e w11 ⟨rfl, hbel11⟩
            clear hsame
            go_wp2_with fail
            go_ret
            have hB10 := hB9.trans (hbel10.mono hB9.size)
            exact ⟨rfl, hB10.trans (hbel11.mono hB10.size)⟩
end Go.Proofs.Qxb6627196a
