/- collapseWhiteModel: the walk. -/
import Derived.Test.Qxb6626914aDoorWidthAt
namespace Go.Proofs.Qxb6626914aDoor
open Go.RowKit Go.Lib
set_option linter.unusedVariables false

theorem info5 : (Tryd.prog.info? 5).map (fun i => (i.zero, i.size, i.bytes)) = some (some (.int .u8 0), 1, 1) := by kernel_rfl

/-- Bytes as cells. -/
def bs (o : List UInt8) : List Value := o.map fun b => Value.int .u8 (b.toNat : Int)

theorem bs_snoc {w : World} {B g cap n : Nat} {o : List UInt8} {v : Value} {b : UInt8} (hv : v = .int .u8 (b.toNat : Int)) (h : w.ownsRow B 5 1 (.slice (some ⟨g, 0, none⟩) (n + 1) cap) (n + 1) (bs o ++ [v])) :
    w.ownsRow B 5 1 (.slice (some ⟨g, 0, none⟩) (n + 1) cap) (n + 1) (bs (o ++ [b])) := by
  unfold bs; rw [List.map_append, List.map_singleton, ← hv]; exact h

theorem run_back {w : World} {B g cap n : Nat} {o : List UInt8} (hn : o.length = n) (h : w.ownsRow B 5 1 (.slice (some ⟨g, 0, none⟩) n cap) n (bs o)) :
    (convert 32 9 (.slice (some ⟨g, 0, none⟩) n cap)).run Tryd.prog w = .ok (.string ⟨o.toArray⟩) w := by
  subst hn
  refine run_convert_bytes_back w 32 9 5 ⟨g, 0, none⟩ cap o Tryd.underlying32 Tryd.underlying5 Tryd.underlying9 fun j hj => ?_
  rw [Addr.add_lit, Nat.zero_add, h.cellAt j (by omega)]
  unfold bs
  rw [List.getElem?_map, List.getElem?_eq_getElem hj]
  rfl

/-- The byte at a place of a string. -/
theorem byte_at (l : List UInt8) (i : Nat) (h : i < l.length) : (⟨l.toArray⟩ : ByteArray)[i]'h = l.getD i 0 := by
  rw [List.getD, List.getElem?_eq_getElem h]; rfl

theorem grown_alloc {w wr w2 : World} {B r : Nat} {o : Obj} (h : Below B w wr) (hg : (wr.alloc o).grownBy w2 (some r)) (hw : B ≤ wr.heap.size) (hr : B ≤ r) : Below B w w2 :=
  (h.alloc hw o).grown hg (Nat.le_trans hw (by simp)) (fun k hk => by cases hk; exact hr)

set_option maxRecDepth 100000 in
set_option maxHeartbeats 1000000 in
theorem collapse7 (s : ByteArray) (l : List UInt8) (w : World) (hl : s.data.toList = l) (hm : s.size ≤ 1048576) :
    Calls Tryd.prog 7 #[.string s] w fun e w' => e = .returned (.string ⟨(echo l).toArray⟩) ∧ Below w.heap.size w w' := by
  obtain ⟨i0, hi, hz0, hz1, hz2⟩ := info_parts info5
  have hlen : l.length = s.size := by rw [← hl]; rfl
  have HL : Hid (l.length = s.size) := hlen
  have HD : Hid (s.data.toList = l) := hl
  clear hlen hl
  go_enter Tryd.func7, Tryd.ntmps7
  go_wp2_with (at_make; refine wpList_make_own _ rfl _ _ 32 rfl w.heap.size 5 i0 (.int .u8 0) 1 Tryd.underlying32 hi hz0 hz1 .i64 .i64 _ s.size rfl rfl rfl (by rw [hz2]; omega) (by unfold maxLen; omega) (Nat.le_refl _) ?_; intro w1 hown0 hgrow0)
  go_wp2_with fail
  go_loopw [3, 4, 5] (fun v g p wr => ∃ (i k : Nat) (o : List UInt8) (gap : Bool), i ≤ s.size ∧ Hid (o.length = k) ∧ v = .slice (some ⟨w.heap.size, 0, none⟩) k s.size ∧ g = .bool gap ∧ p = .int .i64 i ∧
      wr.ownsRow w.heap.size 5 1 (.slice (some ⟨w.heap.size, 0, none⟩) k s.size) k (bs o) ∧ Inv l i o gap ∧ k ≤ i ∧ (gap = true → k + 1 ≤ i) ∧ Below w.heap.size w wr) (fun _ _ p _ => s.size - (intOf p).toNat)
  case atStart => exact ⟨0, 0, [], false, Nat.zero_le _, rfl, rfl, rfl, rfl, hown0, inv_start l, Nat.le_refl _, (fun h => by cases h), (Below.refl _ _).grown hgrow0 (Nat.le_refl _) (fun k hk => by cases hk)⟩
  case round =>
    clear hown0 hgrow0
    obtain ⟨i, k, o, gap, hil, hk, rfl, rfl, rfl, hown, hinv, hki, hkg, hnx⟩ := hrel
    by_cases hlt : i < s.size
    · have hli : i < l.length := by rw [HL.out]; exact hlt
      have hwd := width12 s i wr (by omega) hlt
      rw [HD.out] at hwd
      obtain ⟨h, hh⟩ : ∃ h, h = headSpace (l.drop i) := ⟨_, rfl⟩
      rw [← hh] at hwd
      have HH : Hid (h = headSpace (l.drop i)) := hh
      have hle : h ≤ s.size - i := by have := hs_le (l.drop i); rw [← hh, List.length_drop, HL.out] at this; exact this
      clear hh
      by_cases h0 : h = 0
      · subst h0
        obtain ⟨x, hx⟩ : ∃ x : UInt8, s[i] = x := ⟨_, rfl⟩
        have HXX : Hid (l.getD i 0 = x) := by
          rw [← hx, ← HD.out, List.getD, List.getElem?_eq_getElem (show i < s.data.toList.length by exact hlt)]; rfl
        have hib := inv_byte hli HH.out.symm hinv
        rw [HXX.out] at hib
        have HI : Hid (Inv l (i + 1) ((if gap = true ∧ o ≠ [] then o ++ [32] else o) ++ [x]) false) := hib
        clear hib hinv hli
        have plain : (gap = true ∧ o ≠ []) ∨ ¬ (gap = true ∧ o ≠ []) := Classical.em _
        rcases plain with ⟨hg, ho⟩ | hno
        · subst hg
          have hk0 : 0 < k := by rw [← hk.out]; exact List.length_pos_iff.2 ho
          have HI2 : Hid (Inv l (i + 1) (o ++ [32] ++ [x]) false) := by have := HI.out; rw [if_pos ⟨rfl, ho⟩] at this; exact this
          have hkg2 := hkg rfl
          clear HI ho hkg
          have tok : True := trivial
          go_wp2_with (first
            | (go_at_call 12; refine hwd.mono ?_; rintro e w' ⟨rfl, rfl⟩)
            | (at_builtin; have _t := tok; refine wpList_append_fits _ rfl _ _ 32 rfl w.heap.size 5 i0 1 Tryd.underlying32 hi hz1 w.heap.size k s.size _ rfl (hown.alloc _) ⟨wr.heap.size, 0, none⟩ 1 1 [.int .u8 32] rfl rfl (cell_one_new _ _ _) (ints_oneCell .u8 [(32 : Int)]) (by omega) ?_; intro w2 hown2 hgrow2; clear tok)
            | (at_builtin; refine wpList_append_fits _ rfl _ _ 32 rfl w.heap.size 5 i0 1 Tryd.underlying32 hi hz1 w.heap.size (k + 1) s.size _ rfl (hown2.alloc _) ⟨w2.heap.size, 0, none⟩ 1 1 [.int .u8 (x.toNat : Int)] rfl rfl (cell_one_new _ _ _) (ints_oneCell .u8 [(x.toNat : Int)]) (by omega) ?_; intro w3 hown3 hgrow3))
          have R2 := grown_alloc hnx hgrow2 hnx.size (Nat.le_refl _)
          have R3 := grown_alloc R2 hgrow3 R2.size (Nat.le_refl _)
          have o2 := bs_snoc (b := 32) rfl hown2
          have o3 : w3.ownsRow w.heap.size 5 1 (.slice (some ⟨w.heap.size, 0, none⟩) (k + 1 + 1) s.size) (k + 1 + 1) (bs (o ++ [32] ++ [x])) := by
            have := hown3
            rw [show bs o ++ [Value.int .u8 32] = bs (o ++ [32]) by unfold bs; rw [List.map_append]; rfl] at this
            exact bs_snoc (b := x) rfl this
          clear hgrow2 hgrow3 hown hown2 hown3 o2
          go_wp2_with fail
          go_roundw
          case rel => exact ⟨i + 1, k + 1 + 1, o ++ [32] ++ [x], false, by omega, (by have := hk.out; show (o ++ [32] ++ [x]).length = k + 1 + 1; simp; exact this), rfl, rfl, by go_num, o3, HI2.out, by omega, (fun h => by cases h), R3⟩
          case measure => simp [intOf]; omega
        · have HI2 : Hid (Inv l (i + 1) (o ++ [x]) false) := by have := HI.out; rw [if_neg hno] at this; exact this
          have hgk : gap = false ∨ k ≤ 0 := by
            cases gap
            · exact .inl rfl
            · right
              have : o = [] := Classical.byContradiction fun ho => hno ⟨rfl, ho⟩
              have := hk.out
              simp_all
          clear HI hno
          rcases hgk with hg | hk0
          case' inl => subst hg
          all_goals
            go_wp2_with (first
              | (go_at_call 12; refine hwd.mono ?_; rintro e w' ⟨rfl, rfl⟩)
              | (at_builtin; refine wpList_append_fits _ rfl _ _ 32 rfl w.heap.size 5 i0 1 Tryd.underlying32 hi hz1 w.heap.size k s.size _ rfl (hown.alloc _) ⟨wr.heap.size, 0, none⟩ 1 1 [.int .u8 (x.toNat : Int)] rfl rfl (cell_one_new _ _ _) (ints_oneCell .u8 [(x.toNat : Int)]) (by omega) ?_; intro w3 hown3 hgrow3))
            all_goals
              have R3 := grown_alloc hnx hgrow3 hnx.size (Nat.le_refl _)
              have o3 := bs_snoc (b := x) rfl hown3
              go_roundw
              case rel => exact ⟨i + 1, k + 1, o ++ [x], false, by omega, (by have := hk.out; show (o ++ [x]).length = k + 1; simp; exact this), rfl, rfl, by go_num, o3, HI2.out, by omega, (fun h => by cases h), R3⟩
              case measure => simp [intOf]; omega
      · have h1 : (0 : Int) < (h : Int) := by omega
        have hib := inv_space hli (by rw [← HH.out]; exact h0) hinv
        rw [← HH.out] at hib
        go_wp2_with (go_at_call 12; refine hwd.mono ?_; rintro e w' ⟨rfl, rfl⟩)
        go_roundw
        case rel => exact ⟨i + h, k, o, true, by omega, hk, rfl, rfl, by go_num, hown, hib, by omega, (fun _ => by omega), hnx⟩
        case measure => simp [intOf]; omega
    · have hfin := run_back hk.out hown
      have HE : Hid (o = echo l) := inv_end (by rw [HL.out]; omega) hinv
      go_wp2_with fail
      go_ret
      exact ⟨by rw [← HE.out]; rfl, hnx⟩
end Go.Proofs.Qxb6626914aDoor
