/- (*List).Places. -/
import Derived.Test.Qxb6626507aFmtPlace
import Derived.Test.Qxb6626507aFmtErr
import Derived.BigQuiet
import Derived.Deep.QuietTactic
import Derived.Deep.RegionWith
import Derived.Deep.RegionHeld3
namespace Go.Proofs.Qxb6626507aFmt
open Go.RowKit Go.WideMaps Go.Maps Go.Extern.Stop Go.Stop Go.Extern
set_option linter.unusedVariables false

theorem Tryf.info3 : (Tryf.prog.info? 3).map (fun i => (i.zero, i.size, i.bytes)) = some (some (.int .i64 0), 1, 8) := by kernel_rfl

/-- What Places hands back. -/
def PlacesIs (ids req : List ByteArray) (e : Ending) (w' : World) : Prop :=
  (¬ Good ids req ∧ ∃ t v, e = .returned (.tuple #[.slice none 0 0, .iface t v])) ∨
  (Good ids req ∧ ∃ g cap zs, e = .returned (.tuple #[.slice (some ⟨g, 0, none⟩) req.length cap, .nilIface]) ∧ g < w'.heap.size ∧ zs.length = req.length ∧
    (∀ j, j < zs.length → w'.cell? ⟨g, j, none⟩ = some (.int .i64 (zs.getD j 0))) ∧ IsPlaces ids req zs)

theorem PlacesIs.bad {ids req : List ByteArray} {w' : World} (h : ¬ Good ids req) (t : TypeId) (v : Value) : PlacesIs ids req (.returned (.tuple #[.slice none 0 0, .iface t v])) w' := .inl ⟨h, t, v, rfl⟩

/-- What is asked of slices.Sort at []int (paid in Qxb6626507aFmtSort.lean). -/
def Sort16 : Prop := ∀ (base g cap : Nat) (zs : List Int) (w : World), w.ownsRow base 3 1 (.slice (some ⟨g, 0, none⟩) zs.length cap) zs.length (zs.map (Value.int .i64)) → zs.length < 4611686018427387904 →
  Calls Tryf.prog 16 #[.slice (some ⟨g, 0, none⟩) zs.length cap] w fun e w' => e = .returned (.tuple #[]) ∧
    w'.ownsRow base 3 1 (.slice (some ⟨g, 0, none⟩) zs.length cap) zs.length ((zs.mergeSort fun x y => decide (x ≤ y)).map (Value.int .i64)) ∧ w.grownBy w' (some g)

/-- .. of the places that the first loop has gathered. -/
theorem sort_js (hS : Sort16) {base g cap n : Nat} {js : List Nat} {w : World} (hn : js.length = n) (h : w.ownsRow base 3 1 (.slice (some ⟨g, 0, none⟩) n cap) n (js.map fun j => Value.int .i64 (Int.ofNat j))) (hl : n ≤ 1048576) :
    Calls Tryf.prog 16 #[.slice (some ⟨g, 0, none⟩) n cap] w fun e w' => e = .returned (.tuple #[]) ∧ w'.ownsRow base 3 1 (.slice (some ⟨g, 0, none⟩) n cap) n ((sorted js).map (Value.int .i64)) ∧ w.grownBy w' (some g) := by
  subst hn
  have := hS base g cap (js.map Int.ofNat) w (by simpa [List.map_map, Function.comp_def] using h) (by simp; omega)
  simpa [sorted] using this

theorem own_int {w : World} {base g cap n : Nat} {zs : List Int} (h : w.ownsRow base 3 1 (.slice (some ⟨g, 0, none⟩) n cap) n (zs.map (Value.int .i64))) {j : Nat} (hj : j < n) : w.cell? ⟨g, j, none⟩ = some (.int .i64 (zs.getD j 0)) := by
  have hl : zs.length = n := by simpa using h.1
  rw [h.cellAt j (by omega), List.getElem?_map, List.getElem?_eq_getElem (by omega), getD_of_lt (by omega)]
  rfl

theorem own_lt' {w : World} {base g cap n : Nat} {xs : List Value} {e : TypeId} (h : w.ownsRow base e 1 (.slice (some ⟨g, 0, none⟩) n cap) n xs) : g < w.heap.size := by
  rcases h.2 with ⟨h, _⟩ | ⟨g', cap', cur, h, _, hb, _⟩
  · cases h
  · cases h; exact (Array.getElem?_eq_some_iff.1 hb).1

theorem PlacesIs.good {ids req : List ByteArray} {w' : World} {g cap : Nat} {base : Nat} {zs : List Int} (h : Good ids req ∧ IsPlaces ids req zs) (hown : w'.ownsRow base 3 1 (.slice (some ⟨g, 0, none⟩) req.length cap) req.length (zs.map (Value.int .i64))) :
    PlacesIs ids req (.returned (.tuple #[.slice (some ⟨g, 0, none⟩) req.length cap, .nilIface])) w' := by
  have hl : zs.length = req.length := by simpa using hown.1
  exact .inr ⟨h.1, g, cap, zs, rfl, own_lt' hown, hl, fun j hj => own_int hown (by omega), h.2⟩

set_option maxRecDepth 100000 in
set_option maxHeartbeats 1000000 in
theorem places11 (hS : Sort16) (F : Interp) (L m c0 : Nat) (a0 a : Option Addr) (noun what : ByteArray) (c : Nat) (ids req : List ByteArray) (w : World) (hF : F.answers w.tape)
    (hL : L < w.heap.size) (k0 : w.cell? ⟨L, 0, none⟩ = some (.string noun)) (k1 : w.cell? ⟨L, 1, none⟩ = some (.slice a0 ids.length c0)) (k2 : w.cell? ⟨L, 2, none⟩ = some (.map (some m)))
    (hids : Strs w a0 ids) (hm : MapIs w m ids) (hreq : Strs w a req) (hl : req.length ≤ 1048576) (hl0 : ids.length ≤ 1048576) (hz : ∀ s ∈ req, s.size ≤ maxLen) (hn : ids.Nodup) :
    Calls Tryf.prog 11 #[.pointer (some ⟨L, 0, none⟩), .string what, .slice a req.length c] w fun e w' => PlacesIs ids req e w' ∧ Below w.heap.size w w' := by
  obtain ⟨i0, hi, hz0, hz1, hz2⟩ := info_parts Tryf.info3
  rcases hreq.ways with h0 | ⟨b, off, rfl, hb, hc⟩
  case inl =>
    have hr0 : req = [] := List.eq_nil_of_length_eq_zero (by omega)
    subst hr0
    go_enter Tryf.func11, Tryf.ntmps11
    go_wp2_with (at_make; refine wpList_make_own _ rfl _ _ 30 rfl w.heap.size 3 i0 (.int .i64 0) 1 Tryf.underlying30 hi hz0 hz1 .i64 .i64 _ 0 rfl rfl rfl (by omega) (by unfold maxLen; omega) (Nat.le_refl _) ?_; intro w1 hown0 hgrow0)
    have hnx := (Below.refl w.heap.size w).grown hgrow0 (Nat.le_refl _) (fun k hk => by cases hk)
    have hso := sort_js hS (js := []) rfl hown0 (by omega)
    go_wp2_with fail
    refine wp_loop_rounds 1 ?_
    rw [rounds_succ]
    go_wp2_with (go_at_call 16; refine hso.mono ?_; rintro e w2 ⟨rfl, hown2, hgrow2⟩)
    have hnx2 := hnx.grown hgrow2 hnx.size (fun i hi => by cases hi; exact Nat.le_refl _)
    clear hso hown0 hgrow2 hgrow0 hnx
    go_wp2_with fail
    refine wp_loop_rounds 1 ?_
    rw [rounds_succ]
    go_wp2_with fail
    go_ret2
    exact ⟨PlacesIs.good (good_of hn (pl_none ids) fun i hi => absurd hi (by simp [sorted])) hown2, hnx2⟩
  case inr =>
    go_enter Tryf.func11, Tryf.ntmps11
    go_wp2_with (at_make; refine wpList_make_own _ rfl _ _ 30 rfl w.heap.size 3 i0 (.int .i64 0) 1 Tryf.underlying30 hi hz0 hz1 .i64 .i64 _ req.length rfl rfl rfl (by rw [hz2]; omega) (by unfold maxLen; omega) (Nat.le_refl _) ?_; intro w1 hown0 hgrow0)
    go_wp2_with fail
    go_loopw [8, 19] (fun v i wr => ∃ (k : Nat) (js : List Nat), k ≤ req.length ∧ i = .int .i64 k ∧ v = .slice (some ⟨w.heap.size, 0, none⟩) k req.length ∧
        wr.ownsRow w.heap.size 3 1 (.slice (some ⟨w.heap.size, 0, none⟩) k req.length) k (js.map fun j => Value.int .i64 (Int.ofNat j)) ∧ Pl ids (req.take k) js ∧ Below w.heap.size w wr) (fun _ i _ => req.length - (intOf i).toNat)
    case atStart => exact ⟨0, [], Nat.zero_le _, rfl, rfl, hown0, pl_none _, (Below.refl _ _).grown hgrow0 (Nat.le_refl _) (fun k hk => by cases hk)⟩
    case round =>
      clear hown0 hgrow0
      obtain ⟨k, js, hk, rfl, rfl, hown, hpl, hnx⟩ := hrel
      by_cases hlt : k < req.length
      · obtain ⟨s, hs⟩ : ∃ s, s = req.getD k ByteArray.empty := ⟨_, rfl⟩
        have hcx : wr.cell? ⟨b, off + k, none⟩ = some (.string s) := by rw [hs]; exact (hnx.cell (by exact hb)).trans (hc k hlt)
        have hmem : s ∈ req := by rw [hs]; exact getD_mem hlt
        have HT : Hid (req.take (k + 1) = req.take k ++ [s]) := by rw [hs]; exact take_snoc hlt
        have k0r := (hnx.cell (p := ⟨L, 0, none⟩) hL).trans k0
        have k1r := (hnx.cell (p := ⟨L, 1, none⟩) hL).trans k1
        have k2r := (hnx.cell (p := ⟨L, 2, none⟩) hL).trans k2
        clear hs
        rcases look_places (hm.below hnx) (hz s hmem) with ⟨hno, cc, hrun⟩ | ⟨j, hat, hrun⟩
        · have hbad : ¬ Good ids req := fun h => hno (h.1 s hmem)
          go_wp2_with (go_at_call 14; refine (place14_no L m ids s wr cc k2r hrun).mono ?_; rintro e w' ⟨rfl, rfl⟩)
          have hE := errorf0_at F what noun s noun wr (by rw [hnx.tape]; exact hF)
          go_region_with (go_at_call 15; refine hE.mono ?_; rintro e w2 ⟨⟨t, v, rfl⟩, hb2⟩)
          all_goals go_wp2
          all_goals go_ret2
          all_goals exact ⟨PlacesIs.bad hbad _ _, hnx.trans (hb2.mono hnx.size)⟩
        · go_wp2_with (first
            | (go_at_call 14; refine (place14_yes L m ids s wr j k2r hrun).mono ?_; rintro e w' ⟨rfl, rfl⟩)
            | (at_builtin; refine wpList_append_fits _ rfl _ _ 30 rfl w.heap.size 3 i0 1 Tryf.underlying30 hi hz1 w.heap.size k req.length _ rfl (hown.alloc _) ⟨wr.heap.size, 0, none⟩ 1 1 [.int .i64 j] rfl rfl (cell_one_new _ _ _) (ints_oneCell .i64 [(j : Int)]) (by omega) ?_; intro w2 hown2 hgrow2))
          have hpl2 := pl_step hpl hat
          have hg := (World.grownBy_alloc wr (.cells #[.int .i64 (j : Int)] 3) (some w.heap.size)).trans hgrow2
          have R2 := hnx.grown hg hnx.size (fun i hi => by cases hi; exact Nat.le_refl _)
          go_roundw
          case rel => exact ⟨k + 1, js ++ [j], by omega, by go_num, rfl, by rw [List.map_append]; exact hown2, by rw [HT.out]; exact hpl2, R2⟩
          case measure => simp [intOf]; omega
      · have hkr : k = req.length := by omega
        subst hkr
        rw [List.take_of_length_le (Nat.le_refl _)] at hpl
        have hjl : js.length = req.length := hpl.1
        have hso := sort_js hS hjl hown hl
        have HP : Hid (Pl ids req js) := hpl
        clear hpl hjl
        go_wp2_with (go_at_call 16; refine hso.mono ?_; rintro e w2 ⟨rfl, hown2, hgrow2⟩)
        have hnx2 := hnx.grown hgrow2 hnx.size (fun i hi => by cases hi; exact Nat.le_refl _)
        clear hso hown hgrow2 hnx
        go_wp2_with fail
        go_loopw [13] (fun i wr => ∃ (k : Nat), i = .int .i64 ((k + 1 : Nat) : Int) ∧ k ≤ req.length ∧ wr.ownsRow w.heap.size 3 1 (.slice (some ⟨w.heap.size, 0, none⟩) req.length req.length) req.length ((sorted js).map (Value.int .i64)) ∧
            (∀ i, i < k → i + 1 < (sorted js).length → (sorted js).getD (i + 1) 0 ≠ (sorted js).getD i 0) ∧ Below w.heap.size w wr) (fun i _ => req.length + 1 - (intOf i).toNat)
        case atStart => exact ⟨0, rfl, Nat.zero_le _, hown2, fun i hi => absurd hi (by omega), hnx2⟩
        case round =>
          clear hown2 hnx2
          obtain ⟨k, rfl, hk, hown, hne, hnx⟩ := hrel
          by_cases hlt : k + 1 < req.length
          · obtain ⟨za, hza⟩ : ∃ z, z = (sorted js).getD (k + 1) 0 := ⟨_, rfl⟩
            obtain ⟨zb, hzb⟩ : ∃ z, z = (sorted js).getD k 0 := ⟨_, rfl⟩
            have hca : wr.cell? ⟨w.heap.size, k + 1, none⟩ = some (.int .i64 za) := by rw [hza]; exact own_int hown hlt
            have hcb : wr.cell? ⟨w.heap.size, k, none⟩ = some (.int .i64 zb) := by rw [hzb]; exact own_int hown (by omega)
            have HA : Hid (za = (sorted js).getD (k + 1) 0) := hza
            have HB : Hid (zb = (sorted js).getD k 0) := hzb
            clear hza hzb
            by_cases e : za = zb
            · obtain ⟨j, hj, hjl⟩ := sorted_at HP.out hlt
              have hbad : ¬ Good ids req := bad_twice HP.out (i := k) (by rw [sorted_length, HP.out.1]; exact hlt) (by rw [← HA.out, ← HB.out]; exact e)
              have hjj : za = (j : Int) := by rw [HA.out]; exact hj
              subst e
              subst hjj
              go_wp2_with fail
              go_quiet (fail)
              go_wp2_with fail
              have k0r := (hnx.cell (p := ⟨L, 0, none⟩) hL).trans k0
              have k1r := (hnx.cell (p := ⟨L, 1, none⟩) hL).trans k1
              rcases hids.ways with h0 | ⟨b0, o0, rfl, hb0, hc0⟩
              · exfalso; omega
              · obtain ⟨s, hs⟩ : ∃ s, s = ids.getD j ByteArray.empty := ⟨_, rfl⟩
                have hcs : wr.cell? ⟨b0, o0 + j, none⟩ = some (.string s) := by rw [hs]; exact (hnx.cell (by exact hb0)).trans (hc0 j hjl)
                clear hs
                have hE := errorf1_at F what noun s (wr.drewN nq) (by show F.answers wr.tape; rw [hnx.tape]; exact hF)
                have i1 : (0 : Int) ≤ (k : Int) + 1 := by omega
                have i2 : (k : Int) + 1 < (req.length : Int) := by omega
                have hLr : L < wr.heap.size := Nat.lt_of_lt_of_le hL hnx.size
                have hbr : b0 < wr.heap.size := Nat.lt_of_lt_of_le hb0 hnx.size
                have hwr : w.heap.size < wr.heap.size := own_lt' hown
                have i3 : (0 : Int) ≤ (j : Int) := by omega
                have i4 : (j : Int) < (ids.length : Int) := by omega
                go_region_held3 (fun w' => w'.cell? ⟨L, 0, none⟩ = some (.string noun) ∧ w'.cell? ⟨L, 1, none⟩ = some (.slice (some ⟨b0, o0, none⟩) ids.length c0) ∧ w'.cell? ⟨w.heap.size, k + 1, none⟩ = some (.int .i64 (j : Int)) ∧ w'.cell? ⟨b0, o0 + j, none⟩ = some (.string s)) (go_keep)
                  ((go_at_call 15; refine hE.mono ?_; rintro e w2 ⟨⟨t, v, rfl⟩, hb2⟩; have g0 := (hb2.cell (p := ⟨L, 0, none⟩) hLr).trans k0r; have g1 := (hb2.cell (p := ⟨L, 1, none⟩) hLr).trans k1r; have g2 := (hb2.cell (p := ⟨w.heap.size, k + 1, none⟩) hwr).trans hca; have g3 := (hb2.cell (p := ⟨b0, o0 + j, none⟩) hbr).trans hcs))
                all_goals go_wp2
                all_goals go_ret2
                all_goals exact ⟨PlacesIs.bad hbad _ _, (below_drewN hnx nq).trans (hb2.mono hnx.size)⟩
            · have hb1 : (za == zb) = false := by simpa using e
              have HN : Hid (za ≠ zb) := e
              clear e
              go_wp2_with fail
              go_quiet (fail)
              go_wp2_with fail
              go_roundw
              case rel =>
                refine ⟨k + 1, by go_num, by omega, hown, fun i hi hl => ?_, below_drewN hnx nq⟩
                by_cases ei : i = k
                · subst ei; rw [← HA.out, ← HB.out]; exact HN.out
                · exact hne i (by omega) hl
              case measure => simp [intOf]; omega
          · go_wp2_with fail
            go_ret2
            exact ⟨PlacesIs.good (good_of hn HP.out fun i hi => hne i (by rw [sorted_length, HP.out.1] at hi; omega) hi) hown, hnx⟩
end Go.Proofs.Qxb6626507aFmt
