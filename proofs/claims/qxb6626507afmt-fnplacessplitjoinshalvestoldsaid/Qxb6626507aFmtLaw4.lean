/- FnPlacesSplitJoinsHalves: the walk. -/
import Derived.Test.Qxb6626507aFmtLaw3
import Derived.Test.Qxb6626507aFmtMerge
import Derived.Test.Qxb6626507aFmtHalves
namespace Go.Proofs.Qxb6626507aFmt
open Go.RowKit Go.WideMaps Go.Maps Go.Extern.Stop Go.Stop Go.Extern
set_option linter.unusedVariables false

theorem info4 : (Tryf.prog.info? 4).map (fun i => (i.zero, i.size, i.bytes)) = some (some (.bool false), 1, 1) := by kernel_rfl

theorem made_bools (n : Nat) : (madeCells (Value.bool false).cells (n * 1)).toList = (List.replicate n false).map Value.bool := by
  have e : ∀ x : Nat, x % 1 = 0 := Nat.mod_one
  simp [madeCells, Value.cells, e, List.eq_replicate_iff]

theorem set_bools (cs : List Bool) (j : Nat) (x : Bool) : (cs.map Value.bool).set j (.bool x) = (cs.set j x).map Value.bool := by rw [List.map_set]

theorem own_bool {w : World} {base g cap n : Nat} {bs : List Bool} (h : w.ownsRow base 4 1 (.slice (some ⟨g, 0, none⟩) n cap) n (bs.map Value.bool)) {j : Nat} (hj : j < n) : w.cell? ⟨g, j, none⟩ = some (.bool (bs.getD j false)) := by
  have hl : bs.length = n := by simpa using h.1
  rw [h.cellAt j (by omega), List.getElem?_map, List.getElem?_eq_getElem (by omega), getD_of_lt (by omega)]
  rfl

/-- A List lies in block L, whole. -/
def ListIs (w : World) (L : Nat) (noun : ByteArray) (ids : List ByteArray) (a : Option Addr) (c m : Nat) : Prop := ListAt w L noun a ids.length c m ∧ Strs w a ids ∧ MapIs w m ids

theorem ListIs.below {w w' : World} {L : Nat} {noun : ByteArray} {ids : List ByteArray} {a : Option Addr} {c m : Nat} (h : ListIs w L noun ids a c m) (hb : Below w.heap.size w w') : ListIs w' L noun ids a c m := by
  obtain ⟨⟨k0, k1, k2, hL⟩, h2, h3⟩ := h
  exact ⟨⟨(hb.cell (p := ⟨L, 0, none⟩) hL).trans k0, (hb.cell (p := ⟨L, 1, none⟩) hL).trans k1, (hb.cell (p := ⟨L, 2, none⟩) hL).trans k2, Nat.lt_of_lt_of_le hL hb.size⟩, h2.below hb, h3.below hb⟩

/-- Places of a List. -/
theorem places_of (hS : Sort16) (F : Interp) {L m c0 : Nat} {a0 a : Option Addr} {noun what : ByteArray} {c : Nat} {ids req : List ByteArray} {w : World} (hF : F.answers w.tape) (hl : ListIs w L noun ids a0 c0 m) (hreq : Strs w a req)
    (l3 : req.length ≤ 1048576) (l0 : ids.length ≤ 1048576) (hz : ∀ s ∈ req, s.size ≤ maxLen) (hn : ids.Nodup) :
    Calls Tryf.prog 11 #[.pointer (some ⟨L, 0, none⟩), .string what, .slice a req.length c] w fun e w' => PlacesIs ids req e w' ∧ Below w.heap.size w w' := by
  obtain ⟨⟨k0, k1, k2, hL⟩, h2, h3⟩ := hl
  exact places11 hS F L m c0 a0 a noun what c ids req w hF hL k0 k1 k2 h2 h3 hreq l3 l0 hz hn

theorem ints_nil (w : World) : Ints w none [] := .inl rfl
theorem ints_at' {w : World} {g : Nat} {zs : List Int} (hg : g < w.heap.size) (h : ∀ j, j < zs.length → w.cell? ⟨g, j, none⟩ = some (.int .i64 (zs.getD j 0))) : Ints w (some ⟨g, 0, none⟩) zs :=
  .inr ⟨g, 0, rfl, hg, fun j hj => by rw [Nat.zero_add]; exact h j hj⟩

theorem Ints.below {w w' : World} {a : Option Addr} {zs : List Int} (h : Ints w a zs) (hb : Below w.heap.size w w') : Ints w' a zs := by
  rcases h with h | ⟨b, off, rfl, hl, hc⟩
  · exact .inl h
  · exact .inr ⟨b, off, rfl, Nat.lt_of_lt_of_le hl hb.size, fun j hj => (hb.cell (p := ⟨b, off + j, none⟩) hl).trans (hc j hj)⟩

/-- What Places hands back, without its shapes: the error's nil test is told. -/
structure PlacesAbs (ids r : List ByteArray) (w' : World) (P : Option Addr) (zs : List Int) (E : Value) (b : Bool) : Prop where
  ints : Ints w' P zs
  inc : zs.Pairwise (· < ·)
  len : zs.length ≤ r.length
  eql : ∀ w, (binOp .eql 32 E .nilIface).run Tryf.prog w = .ok (.bool b) w
  grd : ∀ (o : Operand) (u : Value) (w : World), (eqGuard .eql 32 o (.const u) E .nilIface).run Tryf.prog w = .ok () w
  yes : b = true → Good ids r ∧ IsPlaces ids r zs
  no : b = false → ¬ Good ids r

theorem PlacesIs.abs {ids r : List ByteArray} {e : Ending} {w' : World} (h : PlacesIs ids r e w') : ∃ (P : Option Addr) (zs : List Int) (C : Nat) (E : Value) (b : Bool), e = .returned (.tuple #[.slice P zs.length C, E]) ∧ PlacesAbs ids r w' P zs E b := by
  rcases h with ⟨hbad, t, v, rfl⟩ | ⟨hgood, g, cap, zs, rfl, hg, hzl, hzc, hzs⟩
  · exact ⟨none, [], 0, .iface t v, false, rfl, ⟨ints_nil _, List.Pairwise.nil, Nat.zero_le _, fun w => run_eql_iface_nil w 32 (by kernel_rfl) t v, fun o u w => (by cases o <;> rfl), fun h => (by cases h), fun _ => hbad⟩⟩
  · exact ⟨some ⟨g, 0, none⟩, zs, cap, .nilIface, true, by rw [hzl], ⟨ints_at' hg hzc, hzs.1, by omega, fun w => run_eql_nil_nil_at w 32 (by kernel_rfl), fun o u w => (by cases o <;> rfl), fun _ => ⟨hgood, hzs⟩, fun h => by cases h⟩⟩

theorem MergeIs.abs {xs ys : List Int} {e : Ending} {w' : World} (h : MergeIs xs ys e w') : ∃ (M : Option Addr) (n C : Nat) (d : Bool), e = .returned (.tuple #[.slice M n C, .bool d]) ∧ (d = true → ∀ z ∈ xs, z ∉ ys) := by
  rcases h with ⟨hno, rfl⟩ | ⟨g, cap, ms, hm, rfl, hg, hc⟩
  · exact ⟨none, 0, 0, false, rfl, fun h => by cases h⟩
  · exact ⟨_, _, _, true, rfl, fun _ => hm.1⟩

set_option maxRecDepth 100000 in
set_option maxHeartbeats 4000000 in
theorem law4 (hS : Sort16) (F : Interp) (noun what : ByteArray) (a1 a3 : Option Addr) (c1 c3 : Nat) (ids req : List ByteArray) (k0 : Int) (w : World) (hF : F.answers w.tape) (h1 : Strs w a1 ids) (h3 : Strs w a3 req)
    (l0 : noun.size ≤ maxLen) (l2 : what.size ≤ maxLen) (l1 : ids.length ≤ maxLen) (l3 : req.length ≤ maxLen) (lc : req.length ≤ c3) (z1 : ∀ s ∈ ids, s.size ≤ maxLen) (z3 : ∀ s ∈ req, s.size ≤ maxLen) :
    Calls Tryf.prog 4 #[.string noun, .slice a1 ids.length c1, .string what, .slice a3 req.length c3, .int .i64 k0] w fun e w' => e = .returned (.bool true) ∧ Below w.heap.size w w' := by
  obtain ⟨i0, hi, hz0, hz1, hz2⟩ := info_parts info4
  have q30 : ∀ (w : World) (a : Option Addr) (n c n' c' : Nat), (binOp .eql 30 (.slice a n c) (.slice none n' c')).run Tryf.prog w = .ok (.bool a.isNone) w := fun w a n c n' c' => Lib.run_eql_slice_nil w _ _ a n c n' c' Tryf.underlying30
  go_enter Tryf.func4, Tryf.ntmps4
  go_wp2_with fail
  refine (size12 noun what a1 a3 c1 c3 ids req k0 w h1 h3 l0 l2 l1 l3).mono ?_
  rintro e w' ⟨⟨b, rfl, hsm⟩, rfl⟩
  cases b
  · go_wp2_with fail
    go_ret
    exact ⟨rfl, Below.refl _ _⟩
  obtain ⟨s1, s3⟩ := hsm rfl
  clear hsm
  go_wp2_with fail
  refine (size6 noun what a1 a3 c1 c3 ids req w h1 h3 l0 l2 l1 l3).mono ?_
  rintro e w' ⟨⟨b, rfl, _⟩, rfl⟩
  cases b
  · go_wp2_with fail
    go_ret
    exact ⟨rfl, Below.refl _ _⟩
  by_cases hk0 : k0 < 0
  · go_wp2_with fail
    go_ret
    exact ⟨rfl, Below.refl _ _⟩
  by_cases hk1 : (req.length : Int) < k0
  · go_wp2_with fail
    go_ret
    exact ⟨rfl, Below.refl _ _⟩
  obtain ⟨k, rfl⟩ := Int.eq_ofNat_of_zero_le (show 0 ≤ k0 by omega)
  have hk : k ≤ req.length := by omega
  go_wp2_with fail
  refine (distinct7 a1 c1 ids w h1 s1 z1).mono ?_
  rintro e w1 ⟨⟨b, rfl, hnd⟩, hb1⟩
  cases b
  · go_wp2_with fail
    go_ret
    exact ⟨rfl, hb1⟩
  have hnod : ids.Nodup := hnd rfl
  clear hnd
  go_wp2_with fail
  refine (copy8 a1 c1 ids w1 (h1.below hb1) s1).mono ?_
  rintro e w2 ⟨⟨a, c, rfl, hs2⟩, hb2⟩
  go_wp2_with fail
  refine (index10 a c ids w2 hs2 s1 z1 hnod).mono ?_
  rintro e w4 ⟨rfl, hm4, hb4⟩
  go_wp2_with fail
  refine (newList9 noun a ids.length c _ w4).mono ?_
  rintro e w5 ⟨rfl, hla, hb5⟩
  have hbel : Below w.heap.size w w5 := (((hb1.trans (hb2.mono hb1.size)).trans (hb4.mono (Nat.le_trans hb1.size hb2.size))).trans (hb5.mono (Nat.le_trans (Nat.le_trans hb1.size hb2.size) hb4.size)))
  have hli : ListIs w5 w4.heap.size noun ids a c w2.heap.size := ⟨hla, (hs2.below hb4).below hb5, hm4.below hb5⟩
  clear hm4 hb1 hb2 hb4 hb5 hs2 h1 hla hk0 hk1
  go_wp2_with fail
  refine (places_of hS F (by rw [hbel.tape]; exact hF) hli (h3.below hbel) s3 s1 z3 hnod).mono ?_
  rintro e w6 ⟨hpl, hb6⟩
  have hbel6 := hbel.trans (hb6.mono hbel.size)
  have hli6 := hli.below hb6
  clear hli hbel hb6
  obtain ⟨A1, A2, C1, C2, r1, r2, er1, er2, hA1, hA2, hrun1, hrun2⟩ := halves h3 hk lc
  have zr1 : ∀ s ∈ r1, s.size ≤ maxLen := fun s hs => z3 s (List.mem_of_mem_take (er1 ▸ hs))
  have zr2 : ∀ s ∈ r2, s.size ≤ maxLen := fun s hs => z3 s (List.mem_of_mem_drop (er2 ▸ hs))
  have lr1 : r1.length ≤ 1048576 := by rw [er1, List.length_take]; omega
  have lr2 : r2.length ≤ 1048576 := by rw [er2, List.length_drop]; omega
  have lrs : r1.length + r2.length = req.length := by rw [er1, er2, List.length_take, List.length_drop]; omega
  have ER1 : Hid (r1 = req.take k) := er1
  have ER2 : Hid (r2 = req.drop k) := er2
  have LRS : Hid (r1.length + r2.length = req.length) := lrs
  clear er1 er2 lrs
  rcases hpl with ⟨hbad, t, v, rfl⟩ | ⟨hgood, g, cap, zs, rfl, hg, hzl, hzc, hzs⟩
  · -- the whole request is refused
    go_wp2_with fail
    refine (places_of hS F (by rw [hbel6.tape]; exact hF) hli6 (hA1.below hbel6) lr1 s1 zr1 hnod).mono ?_
    rintro e w7 ⟨hp1, hb7⟩
    obtain ⟨P1, x1, D1, E1, b1, rfl, ab1⟩ := hp1.abs
    have hbel7 := hbel6.trans (hb7.mono hbel6.size)
    have hli7 := hli6.below hb7
    clear hp1 hb7 hbel6 hli6
    go_wp2_with fail
    refine (places_of hS F (by rw [hbel7.tape]; exact hF) hli7 (hA2.below hbel7) lr2 s1 zr2 hnod).mono ?_
    rintro e w8 ⟨hp2, hb8⟩
    obtain ⟨P2, x2, D2, E2, b2, rfl, ab2⟩ := hp2.abs
    have hbel8 := hbel7.trans (hb8.mono hbel7.size)
    have hs8 := (hli7.below hb8).2.1
    have hx1 := ab1.ints.below hb8
    clear hp2 hb8 hbel7 hli7
    go_wp2_with fail
    refine (merge13 P1 P2 D1 D2 x1 x2 w8 hx1 ab2.ints (Nat.le_trans ab1.len lr1) (Nat.le_trans ab2.len lr2) ab1.inc ab2.inc).mono ?_
    rintro e w9 ⟨hmg, hb9⟩
    obtain ⟨M, nM, CM, d, rfl, hd⟩ := hmg.abs
    have hbel9 := hbel8.trans (hb9.mono hbel8.size)
    have hs9 := hs8.below hb9
    have e1 := ab1.eql
    have e2 := ab2.eql
    have g1 := ab1.grd
    have g2 := ab2.grd
    have hall : (b1 && b2 && d) = false := by
      rcases Bool.eq_false_or_eq_true (b1 && b2 && d) with h | h
      · exfalso
        simp only [Bool.and_eq_true] at h
        obtain ⟨⟨rfl, rfl⟩, rfl⟩ := h
        obtain ⟨g1, pl1⟩ := ab1.yes rfl
        obtain ⟨g2, pl2⟩ := ab2.yes rfl
        have := (share_iff hnod g1.1 pl1 pl2).1 (hd rfl)
        rw [ER1.out] at g1 this
        rw [ER2.out] at g2 this
        exact hbad (good_join g1 g2 this)
      · exact h
    have HALL : Hid ((b1 && b2 && d) = false) := hall
    clear hall hmg hb9 hbel8 hs8 hx1 hd ab1 ab2
    have hways : b1 = false ∨ (b1 = true ∧ b2 = false) ∨ (b1 = true ∧ b2 = true ∧ d = false) := by
      have := HALL.out
      cases b1 <;> cases b2 <;> cases d <;> simp_all
    clear HALL
    rcases hways with rfl | ⟨rfl, rfl⟩ | ⟨rfl, rfl, rfl⟩
    all_goals
      go_wp2_with fail
      refine (index10 a c ids w9 hs9 s1 z1 hnod).mono ?_
      rintro e w10 ⟨rfl, hm10, hb10⟩
      go_wp2_with (at_make; refine wpList_make_full _ rfl _ _ 39 rfl w10.heap.size 4 i0 (.bool false) 1 Tryf.underlying39 hi hz0 hz1 .i64 .i64 _ _ ids.length rfl rfl rfl rfl (by rw [hz2]; omega) (by unfold maxLen; omega) (Nat.le_refl _) ?_; intro w11 hown0 hgrow0)
      have hnx0 := (hbel9.trans (hb10.mono hbel9.size)).grown hgrow0 (Nat.le_trans hbel9.size hb10.size) (fun k hk => by cases hk)
      have hm11 := hm10.grown hgrow0
      have hmne : w9.heap.size ≠ w10.heap.size := Nat.ne_of_lt hm10.lt
      have hb67 := Nat.le_trans hbel9.size hb10.size
      rw [made_bools] at hown0
      clear hs9 hb10 hm10 hgrow0 hbel9
      go_wp2_with fail
      go_loopw [23, 24] (fun ok j wr => ∃ (q : Nat) (bs : List Bool), ok = .bool true ∧ j = .int .i64 q ∧ q ≤ req.length ∧ wr.ownsRow w10.heap.size 4 1 (.slice (some ⟨w10.heap.size, 0, none⟩) ids.length ids.length) ids.length (bs.map Value.bool) ∧
          SeenAt ids (req.take q) bs ∧ (req.take q).Nodup ∧ (∀ s ∈ req.take q, s ∈ ids) ∧ MapIs wr w9.heap.size ids ∧ Below w.heap.size w wr) (fun _ j _ => req.length - (intOf j).toNat)
      case atStart => exact ⟨0, _, rfl, rfl, Nat.zero_le _, hown0, seenAt_none ids, List.nodup_nil, fun s hs => (by cases hs), hm11, hnx0⟩
      case round =>
        clear hown0 hm11 hnx0
        obtain ⟨q, bs, rfl, rfl, hq, hown, hcnt, hnd, hin, hm, hnx⟩ := hrel
        by_cases hlt : q < req.length
        · rcases h3.ways with h0 | ⟨b3, o3, rfl, hb3, hc3⟩
          · exfalso; omega
          obtain ⟨s, hs⟩ : ∃ s, s = req.getD q ByteArray.empty := ⟨_, rfl⟩
          have hcx : wr.cell? ⟨b3, o3 + q, none⟩ = some (.string s) := by rw [hs]; exact (hnx.cell (by exact hb3)).trans (hc3 q hlt)
          have hmem : s ∈ req := by rw [hs]; exact getD_mem hlt
          have HT : Hid (req.take (q + 1) = req.take q ++ [s]) := by rw [hs]; exact take_snoc hlt
          clear hs hc3
          rcases look_places hm (z3 s hmem) with ⟨hno, cc, hrun⟩ | ⟨j, hat, hrun⟩
          · go_wp2_with fail
            go_ret
            exact ⟨rfl, hnx⟩
          · have hjl : j < ids.length := hat.1
            have hcl : bs.length = ids.length := hcnt.1
            have hcc := own_bool hown hjl
            have hfz := hown.frozenAt j
            have i1 : (j : Int) < (ids.length : Int) := by omega
            by_cases hag : s ∈ req.take q
            · rw [(hcnt.2 j hjl).1 (by rw [hat.2]; exact hag)] at hcc
              clear hown hcnt
              go_wp2_with fail
              go_ret
              exact ⟨rfl, hnx⟩
            · rw [(hcnt.2 j hjl).2 (by rw [hat.2]; exact hag)] at hcc
              obtain ⟨hown1, hgrow1⟩ := hown.stored j (.bool true)
              have R2 := hnx.grown hgrow1 hnx.size (fun i hi => by cases hi; exact hb67)
              have hm1 := hm.kept hgrow1 hmne
              have hct := seenAt_step hnod hcnt hat
              rw [set_bools] at hown1
              clear hgrow1 hown hcnt hm
              go_wp2_with fail
              go_roundw
              case rel => exact ⟨q + 1, _, rfl, by go_num, by omega, hown1, by rw [HT.out]; exact hct, by rw [HT.out]; exact nodup_snoc hnd hag, by rw [HT.out]; exact mem_snoc hin hat.mem, hm1, R2⟩
              case measure => simp [intOf]; omega
        · exact absurd (good_end (by omega) hin hnd) hbad
  · -- the whole request is taken
    have gd1 : Good ids r1 := by rw [ER1.out]; exact good_left hgood
    have gd2 : Good ids r2 := by rw [ER2.out]; exact good_right hgood
    have hzi := ints_at' hg hzc
    go_wp2_with fail
    refine (places_of hS F (by rw [hbel6.tape]; exact hF) hli6 (hA1.below hbel6) lr1 s1 zr1 hnod).mono ?_
    rintro e w7 ⟨hp1, hb7⟩
    rcases hp1 with ⟨hno, _⟩ | ⟨_, g1, cap1, x1, rfl, hg1, hl1, hc1, hs1⟩
    · exact absurd gd1 hno
    have hbel7 := hbel6.trans (hb7.mono hbel6.size)
    have hli7 := hli6.below hb7
    have hzi7 := hzi.below hb7
    have hx1 := ints_at' hg1 hc1
    clear hb7 hbel6 hli6 hzi hg hzc hc1 hg1
    go_wp2_with fail
    refine (places_of hS F (by rw [hbel7.tape]; exact hF) hli7 (hA2.below hbel7) lr2 s1 zr2 hnod).mono ?_
    rintro e w8 ⟨hp2, hb8⟩
    rcases hp2 with ⟨hno, _⟩ | ⟨_, g2, cap2, x2, rfl, hg2, hl2, hc2, hs2⟩
    · exact absurd gd2 hno
    have hbel8 := hbel7.trans (hb8.mono hbel7.size)
    have hs8 := (hli7.below hb8).2.1
    have hzi8 := hzi7.below hb8
    have hx18 := hx1.below hb8
    have hx2 := ints_at' hg2 hc2
    clear hb8 hbel7 hli7 hzi7 hx1 hg2 hc2
    have hmc := merge13 (some ⟨g1, 0, none⟩) (some ⟨g2, 0, none⟩) cap1 cap2 x1 x2 w8 hx18 hx2 (by omega) (by omega) hs1.1 hs2.1
    rw [hl1, hl2] at hmc
    have HL1 : Hid (x1.length = r1.length) := hl1
    have HL2 : Hid (x2.length = r2.length) := hl2
    have HZL : Hid (zs.length = req.length) := hzl
    clear hl1 hl2 hzl hx18 hx2
    go_wp2_with fail
    refine hmc.mono ?_
    clear hmc
    rintro e w9 ⟨hmg, hb9⟩
    rcases hmg with ⟨hno, _⟩ | ⟨g3, cap3, ms, him, he, hg3, hc3⟩
    · refine absurd ((share_iff hnod gd1.1 hs1 hs2).2 ?_) hno
      rw [ER1.out, ER2.out]
      exact good_parts hgood
    rw [HL1.out, HL2.out, LRS.out] at he
    subst he
    have hbel9 := hbel8.trans (hb9.mono hbel8.size)
    have hs9 := hs8.below hb9
    have hzi9 := hzi8.below hb9
    have hmi9 := ints_at' hg3 hc3
    have HEQ : Hid (zs = ms) := same_places hzs (ER1.out ▸ hs1) (ER2.out ▸ hs2) him
    rw [← HEQ.out] at hmi9
    clear hb9 hbel8 hs8 hzi8 hg3 hc3 hs1 hs2 him HEQ HL1 HL2 LRS ER1 ER2 gd1 gd2 hzs
    go_wp2_with fail
    refine (index10 a c ids w9 hs9 s1 z1 hnod).mono ?_
    rintro e w10 ⟨rfl, hm10, hb10⟩
    go_wp2_with (at_make; refine wpList_make_full _ rfl _ _ 39 rfl w10.heap.size 4 i0 (.bool false) 1 Tryf.underlying39 hi hz0 hz1 .i64 .i64 _ _ ids.length rfl rfl rfl rfl (by rw [hz2]; omega) (by unfold maxLen; omega) (Nat.le_refl _) ?_; intro w11 hown0 hgrow0)
    have hnx0 := hb10.grown hgrow0 hb10.size (fun k hk => by cases hk)
    have hm11 := hm10.grown hgrow0
    have hmne : w9.heap.size ≠ w10.heap.size := Nat.ne_of_lt hm10.lt
    have hb67 := hb10.size
    rw [made_bools] at hown0
    clear hs9 hb10 hm10 hgrow0
    go_wp2_with fail
    go_loopw [23, 24] (fun ok j wr => ∃ (q : Nat) (bs : List Bool), ok = .bool true ∧ j = .int .i64 q ∧ q ≤ req.length ∧ wr.ownsRow w10.heap.size 4 1 (.slice (some ⟨w10.heap.size, 0, none⟩) ids.length ids.length) ids.length (bs.map Value.bool) ∧
        SeenAt ids (req.take q) bs ∧ MapIs wr w9.heap.size ids ∧ Below w9.heap.size w9 wr) (fun _ j _ => req.length - (intOf j).toNat)
    case atStart => exact ⟨0, _, rfl, rfl, Nat.zero_le _, hown0, seenAt_none ids, hm11, hnx0⟩
    case round =>
      clear hown0 hm11 hnx0
      obtain ⟨q, bs, rfl, rfl, hq, hown, hcnt, hm, hnx⟩ := hrel
      by_cases hlt : q < req.length
      · rcases h3.ways with h0 | ⟨b3, o3, rfl, hb3, hc3⟩
        · exfalso; omega
        obtain ⟨s, hs⟩ : ∃ s, s = req.getD q ByteArray.empty := ⟨_, rfl⟩
        have hcx : wr.cell? ⟨b3, o3 + q, none⟩ = some (.string s) := by rw [hs]; exact (hnx.cell (Nat.lt_of_lt_of_le hb3 hbel9.size)).trans ((hbel9.cell (by exact hb3)).trans (hc3 q hlt))
        have hmem : s ∈ req := by rw [hs]; exact getD_mem hlt
        have HT : Hid (req.take (q + 1) = req.take q ++ [s]) := by rw [hs]; exact take_snoc hlt
        clear hs hc3
        rcases look_places hm (z3 s hmem) with ⟨hno, cc, hrun⟩ | ⟨j, hat, hrun⟩
        · exact absurd hgood (bad_not_in hmem hno)
        · have hjl : j < ids.length := hat.1
          have hcl : bs.length = ids.length := hcnt.1
          have hcc := own_bool hown hjl
          have hfz := hown.frozenAt j
          have i1 : (j : Int) < (ids.length : Int) := by omega
          by_cases hag : s ∈ req.take q
          · exact absurd hgood (bad_again (rs := []) HT.out hag)
          · rw [(hcnt.2 j hjl).2 (by rw [hat.2]; exact hag)] at hcc
            obtain ⟨hown1, hgrow1⟩ := hown.stored j (.bool true)
            have R2 := hnx.grown hgrow1 hnx.size (fun i hi => by cases hi; exact hb67)
            have hm1 := hm.kept hgrow1 hmne
            have hct := seenAt_step hnod hcnt hat
            rw [set_bools] at hown1
            clear hgrow1 hown hcnt hm
            go_wp2_with fail
            go_roundw
            case rel => exact ⟨q + 1, _, rfl, by go_num, by omega, hown1, by rw [HT.out]; exact hct, hm1, R2⟩
            case measure => simp [intOf]; omega
      · have hfin := hbel9.trans (hnx.mono hbel9.size)
        have hzr := hzi9.below hnx
        have hmr := hmi9.below hnx
        have HC : Hid (∀ j, j < req.length → wr.cell? ⟨g, j, none⟩ = some (.int .i64 (zs.getD j 0)) ∧ wr.cell? ⟨g3, j, none⟩ = some (.int .i64 (zs.getD j 0))) := fun j hj => by
          have hj' : j < zs.length := by rw [HZL.out]; exact hj
          rcases hzr.ways with h0 | ⟨b, off, e, _, hc⟩
          · omega
          cases e
          rcases hmr.ways with h0 | ⟨b, off, e, _, hc2⟩
          · omega
          cases e
          exact ⟨by have := hc j hj'; rw [Nat.zero_add] at this; exact this, by have := hc2 j hj'; rw [Nat.zero_add] at this; exact this⟩
        clear hown hcnt hm hnx hzr hmr hzi9 hmi9 hbel9
        go_wp2_with fail
        go_loopw [27] (fun i w' => ∃ (p : Nat), i = .int .i64 p ∧ p ≤ req.length ∧ ∃ n, w' = wr.drewN n) (fun i _ => req.length - (intOf i).toNat)
        case atStart => exact ⟨0, rfl, Nat.zero_le _, 0, rfl⟩
        case round =>
          obtain ⟨p, rfl, hp, n, rfl⟩ := hrel
          by_cases hlp : p < req.length
          · obtain ⟨x, hx⟩ : ∃ x, x = zs.getD p 0 := ⟨_, rfl⟩
            obtain ⟨c1', c2'⟩ := HC.out p hlp
            rw [← hx] at c1' c2'
            clear hx
            have hxx : (x != x) = false := by simp
            go_wp2_with fail
            go_quiet (fail)
            go_wp2_with fail
            go_roundw
            case rel => exact ⟨p + 1, by go_num, by omega, _, rfl⟩
            case measure => simp [intOf]; omega
          · go_wp2_with fail
            go_ret
            exact ⟨rfl, below_drewN hfin _⟩
end Go.Proofs.Qxb6626507aFmt
