/- FnPlacesMatchCountModel: the walk. -/
import Derived.Test.Qxb6626507aFmtPlaces
import Derived.Test.Qxb6626507aFmtSizes
import Derived.Test.Qxb6626507aFmtCopy
import Derived.Test.Qxb6626507aFmtPlain3
namespace Go.Proofs.Qxb6626507aFmt
open Go.RowKit Go.WideMaps Go.Maps Go.Extern.Stop Go.Stop Go.Extern
set_option linter.unusedVariables false

/-- A List lies in block L. -/
def ListAt (w : World) (L : Nat) (noun : ByteArray) (a : Option Addr) (n c m : Nat) : Prop :=
  w.cell? ⟨L, 0, none⟩ = some (.string noun) ∧ w.cell? ⟨L, 1, none⟩ = some (.slice a n c) ∧ w.cell? ⟨L, 2, none⟩ = some (.map (some m)) ∧ L < w.heap.size

theorem ListAt.new (w : World) (noun : ByteArray) (a : Option Addr) (n c m : Nat) : ListAt (w.alloc (.cells #[.string noun, .slice a n c, .map (some m)] 42)) w.heap.size noun a n c m :=
  ⟨by go_simp, by go_simp, by go_simp, by simp⟩

theorem newList9 (noun : ByteArray) (a : Option Addr) (n c m : Nat) (w : World) :
    Calls Tryf.prog 9 #[.string noun, .slice a n c, .map (some m)] w fun e w' => e = .returned (.pointer (some ⟨w.heap.size, 0, none⟩)) ∧ ListAt w' w.heap.size noun a n c m ∧ Below w.heap.size w w' := by
  go_enter Tryf.func9, Tryf.ntmps9
  go_wp2
  go_ret
  exact ⟨rfl, ListAt.new w noun a n c m, (Below.refl _ _).alloc (Nat.le_refl _) _⟩

theorem MapIs.kept {w w' : World} {b r : Nat} {ss : List ByteArray} (h : MapIs w b ss) (hg : w.grownBy w' (some r)) (hne : b ≠ r) : MapIs w' b ss := by
  obtain ⟨D, h1, h2⟩ := h
  exact ⟨D, h1.kept hg (by simpa using hne), h2⟩

theorem set_ints (cs : List Int) (j : Nat) (x : Int) : (cs.map (Value.int .i64)).set j (.int .i64 x) = (cs.set j x).map (Value.int .i64) := by rw [List.map_set]

theorem mem_snoc {ids rs : List ByteArray} {s : ByteArray} (h : ∀ t ∈ rs, t ∈ ids) (hs : s ∈ ids) : ∀ t ∈ rs ++ [s], t ∈ ids := by
  intro t ht
  rcases List.mem_append.1 ht with ht | ht
  · exact h t ht
  · rw [List.mem_singleton.1 ht]; exact hs

theorem MapIs.grown {w w' : World} {b : Nat} {ss : List ByteArray} (h : MapIs w b ss) (hg : w.grownBy w' none) : MapIs w' b ss := by
  obtain ⟨D, h1, h2⟩ := h
  exact ⟨D, h1.kept hg (by simp), h2⟩

theorem Strs.grown {w w' : World} {a : Option Addr} {ss : List ByteArray} (h : Strs w a ss) (hg : w.grownBy w' none) : Strs w' a ss :=
  h.below ((Below.refl _ _).grown hg (Nat.le_refl _) (fun k hk => by cases hk))

theorem made_ints (n : Nat) : (madeCells (Value.int .i64 0).cells (n * 1)).toList = (List.replicate n (0 : Int)).map (Value.int .i64) := by
  have e : ∀ x : Nat, x % 1 = 0 := Nat.mod_one
  simp [madeCells, Value.cells, e, List.eq_replicate_iff]

set_option maxRecDepth 100000 in
set_option maxHeartbeats 2000000 in
theorem law3 (hS : Sort16) (F : Interp) (noun what : ByteArray) (a1 a3 : Option Addr) (c1 c3 : Nat) (ids req : List ByteArray) (w : World) (hF : F.answers w.tape) (h1 : Strs w a1 ids) (h3 : Strs w a3 req)
    (l0 : noun.size ≤ maxLen) (l2 : what.size ≤ maxLen) (l1 : ids.length ≤ maxLen) (l3 : req.length ≤ maxLen) (z1 : ∀ s ∈ ids, s.size ≤ maxLen) (z3 : ∀ s ∈ req, s.size ≤ maxLen) :
    Calls Tryf.prog 3 #[.string noun, .slice a1 ids.length c1, .string what, .slice a3 req.length c3] w fun e w' => e = .returned (.bool true) ∧ Below w.heap.size w w' := by
  obtain ⟨i0, hi, hz0, hz1, hz2⟩ := info_parts Tryf.info3
  have q30 : ∀ (w : World) (a : Option Addr) (n c n' c' : Nat), (binOp .eql 30 (.slice a n c) (.slice none n' c')).run Tryf.prog w = .ok (.bool a.isNone) w := fun w a n c n' c' => Lib.run_eql_slice_nil w _ _ a n c n' c' Tryf.underlying30
  go_enter Tryf.func3, Tryf.ntmps3
  go_wp2_with fail
  refine (size5 noun what a1 a3 c1 c3 ids req w h1 h3 l0 l2 l1 l3).mono ?_
  rintro e w' ⟨⟨b, rfl, hsm⟩, rfl⟩
  cases b
  · go_wp2_with fail
    go_ret
    exact ⟨rfl, Below.refl _ _⟩
  obtain ⟨s1, s3⟩ := hsm rfl
  clear hsm
  go_wp2_with fail
  refine (size6 noun what a1 a3 c1 c3 ids req w h1 h3 l0 l2 l1 l3).mono ?_
  rintro e w' ⟨⟨b, rfl, _⟩, rfl⟩
  cases b
  · go_wp2_with fail
    go_ret
    exact ⟨rfl, Below.refl _ _⟩
  go_wp2_with fail
  refine (distinct7 a1 c1 ids w h1 s1 z1).mono ?_
  rintro e w1 ⟨⟨b, rfl, hnd⟩, hb1⟩
  cases b
  · go_wp2_with fail
    go_ret
    exact ⟨rfl, hb1⟩
  have hnod : ids.Nodup := hnd rfl
  clear hnd
  go_wp2_with fail
  refine (copy8 a1 c1 ids w1 (h1.below hb1) s1).mono ?_
  rintro e w2 ⟨⟨a, c, rfl, hs2⟩, hb2⟩
  go_wp2_with fail
  refine (index10 a c ids w2 hs2 s1 z1 hnod).mono ?_
  rintro e w4 ⟨rfl, hm4, hb4⟩
  go_wp2_with fail
  refine (newList9 noun a ids.length c _ w4).mono ?_
  rintro e w5 ⟨rfl, ⟨k0, k1, k2, hL⟩, hb5⟩
  have hm5 := hm4.below hb5
  have hs5 := (hs2.below hb4).below hb5
  have hbel : Below w.heap.size w w5 := (((hb1.trans (hb2.mono hb1.size)).trans (hb4.mono (Nat.le_trans hb1.size hb2.size))).trans (hb5.mono (Nat.le_trans (Nat.le_trans hb1.size hb2.size) hb4.size)))
  have hr5 := h3.below hbel
  clear hm4 hb1 hb2 hb4 hb5 hs2 h1
  go_wp2_with fail
  refine (places11 hS F w4.heap.size w2.heap.size c a a3 noun what c3 ids req w5 (by rw [hbel.tape]; exact hF) hL k0 k1 k2 hs5 hm5 hr5 s3 s1 z3 hnod).mono ?_
  rintro e w6 ⟨hpl, hb6⟩
  have hbel6 := hbel.trans (hb6.mono hbel.size)
  have hs6 := hs5.below hb6
  clear hm5 hs5 hr5 k0 k1 k2 hbel hb6 hL hF
  rcases hpl with ⟨hbad, t, v, rfl⟩ | ⟨hgood, g, cap, zs, rfl, hg, hzl, hzc, hzs⟩
  · go_wp2_with fail
    refine (index10 a c ids w6 hs6 s1 z1 hnod).mono ?_
    rintro e w7 ⟨rfl, hm7, hb7⟩
    go_wp2_with (at_make; refine wpList_make_full _ rfl _ _ 30 rfl w7.heap.size 3 i0 (.int .i64 0) 1 Tryf.underlying30 hi hz0 hz1 .i64 .i64 _ _ ids.length rfl rfl rfl rfl (by rw [hz2]; omega) (by unfold maxLen; omega) (Nat.le_refl _) ?_; intro w8 hown0 hgrow0)
    have hnx0 := (hbel6.trans (hb7.mono hbel6.size)).grown hgrow0 (Nat.le_trans hbel6.size hb7.size) (fun k hk => by cases hk)
    have hlt7 := own_lt' hown0
    have hm8 := hm7.grown hgrow0
    have hmne : w6.heap.size ≠ w7.heap.size := Nat.ne_of_lt hm7.lt
    have hb67 := Nat.le_trans hbel6.size hb7.size
    rw [made_ints] at hown0
    clear hs6 hb7 hm7 hgrow0 hbel6
    go_wp2_with fail
    go_loopw [14, 15] (fun ok j wr => ∃ (k : Nat) (cs : List Int), ok = .bool true ∧ j = .int .i64 k ∧ k ≤ req.length ∧ wr.ownsRow w7.heap.size 3 1 (.slice (some ⟨w7.heap.size, 0, none⟩) ids.length ids.length) ids.length (cs.map (Value.int .i64)) ∧
        Counts ids (req.take k) cs ∧ (req.take k).Nodup ∧ (∀ s ∈ req.take k, s ∈ ids) ∧ MapIs wr w6.heap.size ids ∧ Below w.heap.size w wr) (fun _ j _ => req.length - (intOf j).toNat)
    case atStart => exact ⟨0, _, rfl, rfl, Nat.zero_le _, hown0, counts_none ids, List.nodup_nil, fun s hs => (by cases hs), hm8, hnx0⟩
    case round =>
      clear hown0 hm8 hnx0
      obtain ⟨k, cs, rfl, rfl, hk, hown, hcnt, hnd, hin, hm, hnx⟩ := hrel
      by_cases hlt : k < req.length
      · rcases h3.ways with h0 | ⟨b3, o3, rfl, hb3, hc3⟩
        · exfalso; omega
        obtain ⟨s, hs⟩ : ∃ s, s = req.getD k ByteArray.empty := ⟨_, rfl⟩
        have hcx : wr.cell? ⟨b3, o3 + k, none⟩ = some (.string s) := by rw [hs]; exact (hnx.cell (by exact hb3)).trans (hc3 k hlt)
        have hmem : s ∈ req := by rw [hs]; exact getD_mem hlt
        have HT : Hid (req.take (k + 1) = req.take k ++ [s]) := by rw [hs]; exact take_snoc hlt
        clear hs hc3
        rcases look_places hm (z3 s hmem) with ⟨hno, cc, hrun⟩ | ⟨j, hat, hrun⟩
        · go_wp2_with fail
          go_ret
          exact ⟨rfl, hnx⟩
        · have hjl : j < ids.length := hat.1
          have hcl : cs.length = ids.length := hcnt.1
          have hcc := own_int hown hjl
          have hfz := hown.frozenAt j
          have i1 : (j : Int) < (ids.length : Int) := by omega
          by_cases hag : s ∈ req.take k
          · rw [(hcnt.2 j hjl).1 (by rw [hat.2]; exact hag)] at hcc
            obtain ⟨hown1, hgrow1⟩ := hown.stored j (.int .i64 2)
            have R2 := hnx.grown hgrow1 hnx.size (fun i hi => by cases hi; exact hb67)
            have hc2 : (wr.setCell ⟨w7.heap.size, j, none⟩ (.int .i64 2)).cell? ⟨w7.heap.size, j, none⟩ = some (.int .i64 2) := by rw [hown1.cellAt j (by omega), List.getElem?_set_self (by simp; omega)]
            clear hown1 hgrow1 hown hcnt
            go_wp2_with fail
            go_ret
            exact ⟨rfl, R2⟩
          · rw [(hcnt.2 j hjl).2 (by rw [hat.2]; exact hag)] at hcc
            obtain ⟨hown1, hgrow1⟩ := hown.stored j (.int .i64 1)
            have R2 := hnx.grown hgrow1 hnx.size (fun i hi => by cases hi; exact hb67)
            have hc2 : (wr.setCell ⟨w7.heap.size, j, none⟩ (.int .i64 1)).cell? ⟨w7.heap.size, j, none⟩ = some (.int .i64 1) := by rw [hown1.cellAt j (by omega), List.getElem?_set_self (by simp; omega)]
            have hm1 := hm.kept hgrow1 hmne
            have hct := counts_step hnod hcnt hat
            rw [set_ints] at hown1
            clear hgrow1 hown hcnt hm
            go_wp2_with fail
            go_roundw
            case rel => exact ⟨k + 1, _, rfl, by go_num, by omega, hown1, by rw [HT.out]; exact hct, by rw [HT.out]; exact nodup_snoc hnd hag, by rw [HT.out]; exact mem_snoc hin hat.mem, hm1, R2⟩
            case measure => simp [intOf]; omega
      · exact absurd (good_end (by omega) hin hnd) hbad
  · go_wp2_with fail
    refine (index10 a c ids w6 hs6 s1 z1 hnod).mono ?_
    rintro e w7 ⟨rfl, hm7, hb7⟩
    go_wp2_with (at_make; refine wpList_make_full _ rfl _ _ 30 rfl w7.heap.size 3 i0 (.int .i64 0) 1 Tryf.underlying30 hi hz0 hz1 .i64 .i64 _ _ ids.length rfl rfl rfl rfl (by rw [hz2]; omega) (by unfold maxLen; omega) (Nat.le_refl _) ?_; intro w8 hown0 hgrow0)
    have hnx0 := hb7.grown hgrow0 hb7.size (fun k hk => by cases hk)
    have hlt7 := own_lt' hown0
    have hm8 := hm7.grown hgrow0
    have hmne : w6.heap.size ≠ w7.heap.size := Nat.ne_of_lt hm7.lt
    have hb67 := hb7.size
    rw [made_ints] at hown0
    clear hs6 hb7 hm7 hgrow0
    go_wp2_with fail
    go_loopw [14, 15] (fun ok j wr => ∃ (k : Nat) (cs : List Int), ok = .bool true ∧ j = .int .i64 k ∧ k ≤ req.length ∧ wr.ownsRow w7.heap.size 3 1 (.slice (some ⟨w7.heap.size, 0, none⟩) ids.length ids.length) ids.length (cs.map (Value.int .i64)) ∧
        Counts ids (req.take k) cs ∧ (req.take k).Nodup ∧ (∀ s ∈ req.take k, s ∈ ids) ∧ MapIs wr w6.heap.size ids ∧ Below w6.heap.size w6 wr) (fun _ j _ => req.length - (intOf j).toNat)
    case atStart => exact ⟨0, _, rfl, rfl, Nat.zero_le _, hown0, counts_none ids, List.nodup_nil, fun s hs => (by cases hs), hm8, hnx0⟩
    case round =>
      clear hown0 hm8 hnx0
      obtain ⟨k, cs, rfl, rfl, hk, hown, hcnt, hnd, hin, hm, hnx⟩ := hrel
      by_cases hlt : k < req.length
      · rcases h3.ways with h0 | ⟨b3, o3, rfl, hb3, hc3⟩
        · exfalso; omega
        obtain ⟨s, hs⟩ : ∃ s, s = req.getD k ByteArray.empty := ⟨_, rfl⟩
        have hcx : wr.cell? ⟨b3, o3 + k, none⟩ = some (.string s) := by rw [hs]; exact (hnx.cell (Nat.lt_of_lt_of_le hb3 hbel6.size)).trans ((hbel6.cell (by exact hb3)).trans (hc3 k hlt))
        have hmem : s ∈ req := by rw [hs]; exact getD_mem hlt
        have HT : Hid (req.take (k + 1) = req.take k ++ [s]) := by rw [hs]; exact take_snoc hlt
        clear hs hc3
        rcases look_places hm (z3 s hmem) with ⟨hno, cc, hrun⟩ | ⟨j, hat, hrun⟩
        · exact absurd hgood (bad_not_in hmem hno)
        · have hjl : j < ids.length := hat.1
          have hcl : cs.length = ids.length := hcnt.1
          have hcc := own_int hown hjl
          have hfz := hown.frozenAt j
          have i1 : (j : Int) < (ids.length : Int) := by omega
          by_cases hag : s ∈ req.take k
          · exact absurd hgood (bad_again (rs := []) HT.out hag)
          · rw [(hcnt.2 j hjl).2 (by rw [hat.2]; exact hag)] at hcc
            obtain ⟨hown1, hgrow1⟩ := hown.stored j (.int .i64 1)
            have R2 := hnx.grown hgrow1 hnx.size (fun i hi => by cases hi; exact hb67)
            have hc2 : (wr.setCell ⟨w7.heap.size, j, none⟩ (.int .i64 1)).cell? ⟨w7.heap.size, j, none⟩ = some (.int .i64 1) := by rw [hown1.cellAt j (by omega), List.getElem?_set_self (by simp; omega)]
            have hm1 := hm.kept hgrow1 hmne
            have hct := counts_step hnod hcnt hat
            rw [set_ints] at hown1
            clear hgrow1 hown hcnt hm
            go_wp2_with fail
            go_roundw
            case rel => exact ⟨k + 1, _, rfl, by go_num, by omega, hown1, by rw [HT.out]; exact hct, by rw [HT.out]; exact nodup_snoc hnd hag, by rw [HT.out]; exact mem_snoc hin hat.mem, hm1, R2⟩
            case measure => simp [intOf]; omega
      · rw [List.take_of_length_le (by omega)] at hcnt
        clear hnd hin hm
        have hgw : ∀ j, j < zs.length → wr.cell? ⟨g, j, none⟩ = some (.int .i64 (zs.getD j 0)) := fun j hj => (hnx.cell (by exact hg)).trans (hzc j hj)
        have hcw : ∀ j, j < ids.length → wr.cell? ⟨w7.heap.size, j, none⟩ = some (.int .i64 (cs.getD j 0)) := fun j hj => own_int hown hj
        have hfin := hbel6.trans (hnx.mono hbel6.size)
        have HZ : Hid (zs.length = req.length) := hzl
        clear hown hnx hzc hzl
        go_wp2_with fail
        go_loop [18, 19] (fun n i => ∃ (k p : Nat), n = .int .i64 p ∧ i = .int .i64 k ∧ k ≤ ids.length ∧ Up zs k p) (fun _ i => ids.length - (intOf i).toNat)
        case atStart => exact ⟨0, 0, rfl, rfl, Nat.zero_le _, up_start hzs⟩
        case round =>
          obtain ⟨k, p, rfl, rfl, hk, hup⟩ := hrel
          have hpl : p ≤ req.length := by have := hup.1; rw [HZ.out] at this; exact this
          by_cases hlt : k < ids.length
          · have hcc := hcw k hlt
            by_cases hin : ids.getD k ByteArray.empty ∈ req
            · rw [(hcnt.2 k hlt).1 hin] at hcc
              obtain ⟨hp1, hp2, hp3⟩ := up_hit hzs hlt hin hup
              have hgc := hgw p hp1
              rw [hp2] at hgc
              have hp4 : (p : Int) < (req.length : Int) := by rw [HZ.out] at hp1; omega
              clear hp2 hup hcw hgw hcnt
              go_wp2_with fail
              go_round
              case rel => exact ⟨k + 1, p + 1, by go_num, by go_num, by omega, hp3⟩
              case measure => simp [intOf]; omega
            · rw [(hcnt.2 k hlt).2 hin] at hcc
              have hup2 := up_miss hnod hzs hlt hin hup
              clear hup hcw hgw hcnt
              go_wp2_with fail
              go_round
              case rel => exact ⟨k + 1, p, rfl, by go_num, by omega, hup2⟩
              case measure => simp [intOf]; omega
          · have hpe := up_end hzs (by omega) hup
            rw [HZ.out] at hpe
            have hpb : ((p : Int) == (req.length : Int)) = true := by rw [hpe]; simp
            clear hpe hup hcw hgw hcnt
            go_wp2_with fail
            go_ret
            exact ⟨rfl, hfin⟩
end Go.Proofs.Qxb6626507aFmt
