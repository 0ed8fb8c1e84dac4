/- zzb1Distinct and zzb1Index: the two maps that the law makes. -/
import Derived.Test.Qxb6626507aFmtBase
import Derived.Maps.OwnSet
namespace Go.Proofs.Qxb6626507aFmt
open Go.RowKit Go.WideMaps Go.Maps
set_option linter.unusedVariables false

theorem law9 : Keyed Tryf.prog 9 := string_keyed Tryf.underlying9
theorem zero3 (w : World) : (zeroValue 3).run Tryf.prog w = .ok (.int .i64 0) w := by kernel_rfl
theorem zero4 (w : World) : (zeroValue 4).run Tryf.prog w = .ok (.bool false) w := by kernel_rfl

theorem run_makeMap_hint {P : Program} {t k e : TypeId} (hu : P.underlying t = some (.map k e)) (q : IntKind) (n : Int) (w : World) :
    (Instr.makeMap t (some (.int q n))).run P w = .ok (.map (some w.heap.size)) (w.alloc (.map #[] 0)) := by
  simp [Instr.makeMap, run_underlying hu, asInt, asIntOf, Result.andThen]

/-- A string as a key's datum. -/
def key (s : ByteArray) : Lit := .string s.data.toList

theorem key_inj {s t : ByteArray} (h : key s = key t) : s = t := by
  unfold key at h
  cases s; cases t
  simp at h
  rw [h]

theorem key_ok {s : ByteArray} (h : s.size ≤ maxLen) : keyOf Tryf.prog 9 (.string s) = some (key s) := keyOf_string_mk Tryf.underlying9 h
theorem key_is (s : ByteArray) : WideAt.IsKeyLit (key s) := by simp [WideAt.IsKeyLit, key]

theorem getD_mem {ss : List ByteArray} {k : Nat} (h : k < ss.length) : ss.getD k ByteArray.empty ∈ ss := by
  rw [List.getD, List.getElem?_eq_getElem h]; exact List.getElem_mem h

/-- What is in 'seen' once the first k IDs are through. -/
def Seen (ss : List ByteArray) (D : DataW Unit) : Prop := IsMap D ∧ ∀ s, (s ∈ ss → D.atKey (key s) (.lit (.bool false)) = .lit (.bool true)) ∧ (s ∉ ss → D.atKey (key s) (.lit (.bool false)) = .lit (.bool false))

theorem seen_none : Seen [] (.map []) := ⟨isMap_empty, fun s => ⟨fun h => (by simp at h), fun _ => rfl⟩⟩

theorem seen_step {ss : List ByteArray} {D : DataW Unit} (h : Seen ss D) (s : ByteArray) : Seen (ss ++ [s]) (D.put (key s) (.lit (.bool true))) := by
  refine ⟨h.1.put _ _, fun t => ?_⟩
  by_cases e : t = s
  · subst e; rw [atKey_put_same h.1 (key_is _)]; exact ⟨fun _ => rfl, fun hn => absurd (by simp) hn⟩
  · rw [atKey_put_other (fun h' => e (key_inj h'))]
    exact ⟨fun hm => (h.2 t).1 (by simpa [e] using hm), fun hn => (h.2 t).2 (by simpa [e] using hn)⟩

theorem take_snoc {ss : List ByteArray} {k : Nat} (h : k < ss.length) : ss.take (k + 1) = ss.take k ++ [ss.getD k ByteArray.empty] := by
  rw [List.take_succ_eq_append_getElem h, List.getD, List.getElem?_eq_getElem h]; rfl

theorem plainElem_bool_inv {P : Program} {e : TypeId} (he : P.underlying e = some .bool) {v : Value} {z : DataW Unit × List MemPlace} (h : plainElem P e v = some z) : ∃ x, v = .bool x ∧ z = (.lit (.bool x), []) := by
  unfold plainElem at h
  rw [he] at h
  split at h
  · cases h; exact ⟨_, rfl, rfl⟩
  all_goals simp_all

theorem nodup_snoc {ss : List ByteArray} {s : ByteArray} (h : ss.Nodup) (hn : s ∉ ss) : (ss ++ [s]).Nodup := by
  rw [List.nodup_append]
  refine ⟨h, by simp, ?_⟩
  intro a ha b hb
  simp at hb
  subst hb
  rintro rfl
  exact hn ha

def IfNodup (ss : List ByteArray) (b : Bool) : Prop := b = true → ss.Nodup

set_option maxRecDepth 100000 in
set_option maxHeartbeats 1000000 in
theorem distinct7 (a : Option Addr) (c : Nat) (ss : List ByteArray) (w : World) (h : Strs w a ss) (hl : ss.length ≤ 1048576) (hz : ∀ s ∈ ss, s.size ≤ maxLen) :
    Calls Tryf.prog 7 #[.slice a ss.length c] w fun e w' => IsB (IfNodup ss) e ∧ Below w.heap.size w w' := by
  have hmm := fun (n : Int) (w : World) => run_makeMap_hint (P := Tryf.prog) Tryf.underlying40 .i64 n w
  rcases h.ways with h0 | ⟨b, off, rfl, hb, hc⟩
  all_goals
    go_enter Tryf.func7, Tryf.ntmps7
    go_wp2
    go_loopw [4] (fun i wr => ∃ (k : Nat) (D : DataW Unit), k ≤ ss.length ∧ i = .int .i64 k ∧ wr.ownsMap Tryf.prog 9 (plainElem Tryf.prog 4) w.heap.size k D ∧ Seen (ss.take k) D ∧ (ss.take k).Nodup ∧ Below w.heap.size w wr)
      (fun i _ => ss.length - (intOf i).toNat)
    case atStart => exact ⟨0, _, Nat.zero_le _, rfl, World.ownsMap_made _ _ _ _, seen_none, List.nodup_nil, (Below.refl _ _).alloc (Nat.le_refl _) _⟩
    case round =>
      obtain ⟨k, D, hk, rfl, hown, hseen, hnd, hnx⟩ := hrel
      by_cases hlt : k < ss.length
      · first
        | (exfalso; omega)
        | (obtain ⟨s, hs⟩ : ∃ s, s = ss.getD k ByteArray.empty := ⟨_, rfl⟩
           have hcx : wr.cell? ⟨b, off + k, none⟩ = some (.string s) := by rw [hs]; exact (hnx.cell (by exact hb)).trans (hc k hlt)
           have hmem : s ∈ ss := by rw [hs]; exact getD_mem hlt
           have hkey := key_ok (hz s hmem)
           have HT : Hid (ss.take (k + 1) = ss.take k ++ [s]) := by rw [hs]; exact take_snoc hlt
           clear hs hmem
           obtain ⟨v, ps, hrun, hv⟩ := hown.lookup law9 Tryf.underlying40 (zero4 _) (plainElem_bool Tryf.underlying4 false) hkey
           obtain ⟨x, rfl, hx⟩ := plainElem_bool_inv Tryf.underlying4 hv
           have hx1 : D.atKey (key s) (.lit (.bool false)) = .lit (.bool x) := congrArg Prod.fst hx
           have HX : Hid (x = false → s ∉ ss.take k) := fun e hm => by
             have := (hseen.2 s).1 hm
             rw [hx1, e] at this
             simp at this
           clear hx hv hx1
           cases x
           · go_wp2_with (first
               | (at_mapUpdate; refine wpList_mapUpdate_own _ rfl _ _ _ 40 rfl 9 4 law9 Tryf.underlying40 _ w.heap.size k _ rfl hown (by unfold maxLen; omega) _ _ _ rfl rfl hkey _ [] (plainElem_bool Tryf.underlying4 true) ?_)
               | go_in)
             intro w1 hown1 hgrow1
             have R2 := hnx.grown hgrow1 hnx.size (fun j hj => by cases hj; exact Nat.le_refl _)
             clear hgrow1 hown hrun hcx
             go_wp2
             go_roundw
             case rel => exact ⟨k + 1, _, by omega, by go_num, hown1, by rw [HT.out]; exact seen_step hseen s, by rw [HT.out]; exact nodup_snoc hnd (HX.out trivial), R2⟩
             case measure => simp [intOf]; omega
           · go_wp2
             go_ret
             exact ⟨IsB.mk _ (fun h => by cases h), hnx⟩)
      · go_wp2
        go_ret
        exact ⟨IsB.mk _ (fun _ => by rw [List.take_of_length_le (by omega)] at hnd; exact hnd), hnx⟩

/-- A map that leads each of the IDs to its place, and nothing else anywhere. -/
def Idx (ss : List ByteArray) (D : DataW Unit) : Prop :=
  IsMap D ∧ (∀ s, s ∉ ss → has D (key s) = false) ∧ ∀ j, j < ss.length → has D (key (ss.getD j ByteArray.empty)) = true ∧ D.atKey (key (ss.getD j ByteArray.empty)) (.lit (.int .i64 0)) = .lit (.int .i64 j)

theorem idx_none : Idx [] (.map []) := ⟨isMap_empty, fun s _ => rfl, fun j hj => absurd hj (by simp)⟩

theorem idx_step {ss : List ByteArray} {D : DataW Unit} (h : Idx ss D) (s : ByteArray) (hn : s ∉ ss) : Idx (ss ++ [s]) (D.put (key s) (.lit (.int .i64 ss.length))) := by
  refine ⟨h.1.put _ _, fun t ht => ?_, fun j hj => ?_⟩
  · simp at ht
    rw [has_put_other (fun h' => ht.2 (key_inj h'))]
    exact h.2.1 t ht.1
  · by_cases e : j < ss.length
    · have e1 : (ss ++ [s]).getD j ByteArray.empty = ss.getD j ByteArray.empty := by
        rw [List.getD, List.getD, List.getElem?_append_left e]
      have e2 : ss.getD j ByteArray.empty ≠ s := fun h' => hn (h' ▸ getD_mem e)
      rw [e1, has_put_other (fun h' => e2 (key_inj h')), atKey_put_other (fun h' => e2 (key_inj h'))]
      exact h.2.2 j e
    · have ej : j = ss.length := by simp at hj; omega
      subst ej
      have e1 : (ss ++ [s]).getD ss.length ByteArray.empty = s := by simp [List.getD]
      rw [e1, has_put_same h.1 (key_is _), atKey_put_same h.1 (key_is _)]
      exact ⟨rfl, rfl⟩

/-- Block b of w is such a map. -/
def MapIs (w : World) (b : Nat) (ss : List ByteArray) : Prop := ∃ D, w.ownsMap Tryf.prog 9 (plainElem Tryf.prog 3) b ss.length D ∧ Idx ss D

theorem MapIs.lt {w : World} {b : Nat} {ss : List ByteArray} (h : MapIs w b ss) : b < w.heap.size := by
  obtain ⟨D, h, _⟩ := h
  exact h.lt

theorem MapIs.below {w w' : World} {b : Nat} {ss : List ByteArray} (h : MapIs w b ss) (hb : Below w.heap.size w w') : MapIs w' b ss := by
  have hlt := h.lt
  obtain ⟨D, ⟨es, clock, h1, h2⟩, h3⟩ := h
  exact ⟨D, ⟨es, clock, (hb.block b hlt).trans h1, h2⟩, h3⟩

set_option maxRecDepth 100000 in
set_option maxHeartbeats 1000000 in
theorem index10 (a : Option Addr) (c : Nat) (ss : List ByteArray) (w : World) (h : Strs w a ss) (hl : ss.length ≤ 1048576) (hz : ∀ s ∈ ss, s.size ≤ maxLen) (hn : ss.Nodup) :
    Calls Tryf.prog 10 #[.slice a ss.length c] w fun e w' => e = .returned (.map (some w.heap.size)) ∧ MapIs w' w.heap.size ss ∧ Below w.heap.size w w' := by
  have hmm := fun (n : Int) (w : World) => run_makeMap_hint (P := Tryf.prog) Tryf.underlying28 .i64 n w
  rcases h.ways with h0 | ⟨b, off, rfl, hb, hc⟩
  all_goals
    go_enter Tryf.func10, Tryf.ntmps10
    go_wp2
    go_loopw [4] (fun i wr => ∃ (k : Nat) (D : DataW Unit), k ≤ ss.length ∧ i = .int .i64 k ∧ wr.ownsMap Tryf.prog 9 (plainElem Tryf.prog 3) w.heap.size k D ∧ Idx (ss.take k) D ∧ Below w.heap.size w wr)
      (fun i _ => ss.length - (intOf i).toNat)
    case atStart => exact ⟨0, _, Nat.zero_le _, rfl, World.ownsMap_made _ _ _ _, idx_none, (Below.refl _ _).alloc (Nat.le_refl _) _⟩
    case round =>
      obtain ⟨k, D, hk, rfl, hown, hidx, hnx⟩ := hrel
      by_cases hlt : k < ss.length
      · first
        | (exfalso; omega)
        | (obtain ⟨s, hs⟩ : ∃ s, s = ss.getD k ByteArray.empty := ⟨_, rfl⟩
           have hcx : wr.cell? ⟨b, off + k, none⟩ = some (.string s) := by rw [hs]; exact (hnx.cell (by exact hb)).trans (hc k hlt)
           have hmem : s ∈ ss := by rw [hs]; exact getD_mem hlt
           have hkey := key_ok (hz s hmem)
           have HT : Hid (ss.take (k + 1) = ss.take k ++ [s]) := by rw [hs]; exact take_snoc hlt
           have hno : s ∉ ss.take k := by
             have := hn.sublist (List.take_sublist (k + 1) ss)
             rw [HT.out, List.nodup_append] at this
             intro hm
             exact this.2.2 s hm s (by simp) rfl
           have hst := idx_step hidx s hno
           rw [List.length_take, Nat.min_eq_left (by omega)] at hst
           have HS : Hid (Idx (ss.take k ++ [s]) (D.put (key s) (.lit (.int .i64 k)))) := hst
           clear hs hmem hno hst
           go_wp2_with (first
             | (at_mapUpdate; refine wpList_mapUpdate_own _ rfl _ _ _ 28 rfl 9 3 law9 Tryf.underlying28 _ w.heap.size k _ rfl hown (by unfold maxLen; omega) _ _ _ rfl rfl hkey _ [] (plainElem_int Tryf.underlying3 (WalkArith.wf_i64 (by omega))) ?_)
             | go_in)
           intro w1 hown1 hgrow1
           have R2 := hnx.grown hgrow1 hnx.size (fun j hj => by cases hj; exact Nat.le_refl _)
           clear hgrow1 hown hcx
           go_wp2
           go_roundw
           case rel => exact ⟨k + 1, _, by omega, by go_num, hown1, by rw [HT.out]; exact HS.out, R2⟩
           case measure => simp [intOf]; omega)
      · have e : k = ss.length := by omega
        have HE : Hid (k = ss.length) := e
        clear e
        go_wp2
        go_ret
        exact ⟨rfl, ⟨D, HE.out ▸ hown, by rw [List.take_of_length_le (by omega)] at hidx; exact hidx⟩, hnx⟩

end Go.Proofs.Qxb6626507aFmt
