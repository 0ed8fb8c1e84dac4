/- The two guards on sizes: each hands back a bool and turns nothing. -/
import Derived.Test.Qxb6626507aFmtBase
namespace Go.Proofs.Qxb6626507aFmt
open Go.RowKit
set_option linter.unusedVariables false

/-- What a guard's yes says. -/
def Small (ids req : List ByteArray) (b : Bool) : Prop := b = true → ids.length ≤ 1048576 ∧ req.length ≤ 1048576

set_option maxRecDepth 100000 in
set_option maxHeartbeats 1000000 in
theorem size5 (noun what : ByteArray) (a1 a3 : Option Addr) (c1 c3 : Nat) (ids req : List ByteArray) (w : World) (h1 : Strs w a1 ids) (h3 : Strs w a3 req)
    (l0 : noun.size ≤ maxLen) (l2 : what.size ≤ maxLen) (l1 : ids.length ≤ maxLen) (l3 : req.length ≤ maxLen) :
    Calls Tryf.prog 5 #[.string noun, .slice a1 ids.length c1, .string what, .slice a3 req.length c3] w fun e w' => IsB (Small ids req) e ∧ w = w' := by
  unfold maxLen at l0 l1 l2 l3
  rcases h1.ways with h1 | ⟨b1, o1, rfl, hb1, hc1⟩ <;> rcases h3.ways with h3 | ⟨b3, o3, rfl, hb3, hc3⟩
  all_goals
    go_enter Tryf.func5, Tryf.ntmps5
    go_wp2
    all_goals try (go_ret; exact ⟨IsB.mk _ (fun h => by cases h), rfl⟩)
    go_loop [9, 10] (fun n i => ∃ (z : Int) (k : Nat), n = .int .i64 z ∧ i = .int .i64 k ∧ k ≤ ids.length) (fun _ i => ids.length - (intOf i).toNat)
    case atStart => exact ⟨_, 0, rfl, rfl, Nat.zero_le _⟩
    case round =>
      obtain ⟨z, k, rfl, rfl, hk⟩ := hrel
      by_cases hlt : k < ids.length
      · first
        | (exfalso; omega)
        | (have hcell := hc1 k hlt
           go_wp2
           all_goals try (go_ret; exact ⟨IsB.mk _ (fun h => by cases h), rfl⟩)
           go_round
           case rel => exact ⟨_, k + 1, rfl, by go_num, by omega⟩
           case measure => simp [intOf]; omega)
      · go_wp2
        all_goals try (go_ret; exact ⟨IsB.mk _ (fun h => by cases h), rfl⟩)
        go_loop [9, 11] (fun n i => ∃ (z : Int) (k : Nat), n = .int .i64 z ∧ i = .int .i64 k ∧ k ≤ req.length) (fun _ i => req.length - (intOf i).toNat)
        case atStart => exact ⟨_, 0, rfl, rfl, Nat.zero_le _⟩
        case round =>
          obtain ⟨z, k, rfl, rfl, hk⟩ := hrel
          by_cases hlt : k < req.length
          · first
            | (exfalso; omega)
            | (have hcell := hc3 k hlt
               go_wp2
               all_goals try (go_ret; exact ⟨IsB.mk _ (fun h => by cases h), rfl⟩)
               go_round
               case rel => exact ⟨_, k + 1, rfl, by go_num, by omega⟩
               case measure => simp [intOf]; omega)
          · go_wp2
            go_ret
            exact ⟨IsB.mk _ (fun _ => ⟨by omega, by omega⟩), rfl⟩

set_option maxRecDepth 100000 in
set_option maxHeartbeats 1000000 in
theorem size6 (noun what : ByteArray) (a1 a3 : Option Addr) (c1 c3 : Nat) (ids req : List ByteArray) (w : World) (h1 : Strs w a1 ids) (h3 : Strs w a3 req)
    (l0 : noun.size ≤ maxLen) (l2 : what.size ≤ maxLen) (l1 : ids.length ≤ maxLen) (l3 : req.length ≤ maxLen) :
    Calls Tryf.prog 6 #[.string noun, .slice a1 ids.length c1, .string what, .slice a3 req.length c3] w fun e w' => IsB (Small ids req) e ∧ w = w' := by
  unfold maxLen at l0 l1 l2 l3
  rcases h1.ways with h1 | ⟨b1, o1, rfl, hb1, hc1⟩ <;> rcases h3.ways with h3 | ⟨b3, o3, rfl, hb3, hc3⟩
  all_goals
    go_enter Tryf.func6, Tryf.ntmps6
    go_wp2
    all_goals try (go_ret; exact ⟨IsB.mk _ (fun h => by cases h), rfl⟩)
    go_loop [9, 10] (fun n i => ∃ (z : Int) (k : Nat), n = .int .i64 z ∧ i = .int .i64 k ∧ k ≤ ids.length) (fun _ i => ids.length - (intOf i).toNat)
    case atStart => exact ⟨_, 0, rfl, rfl, Nat.zero_le _⟩
    case round =>
      obtain ⟨z, k, rfl, rfl, hk⟩ := hrel
      by_cases hlt : k < ids.length
      · first
        | (exfalso; omega)
        | (have hcell := hc1 k hlt
           go_wp2
           all_goals try (go_ret; exact ⟨IsB.mk _ (fun h => by cases h), rfl⟩)
           go_round
           case rel => exact ⟨_, k + 1, rfl, by go_num, by omega⟩
           case measure => simp [intOf]; omega)
      · go_wp2
        all_goals try (go_ret; exact ⟨IsB.mk _ (fun h => by cases h), rfl⟩)
        go_loop [9, 11] (fun n i => ∃ (z : Int) (k : Nat), n = .int .i64 z ∧ i = .int .i64 k ∧ k ≤ req.length) (fun _ i => req.length - (intOf i).toNat)
        case atStart => exact ⟨_, 0, rfl, rfl, Nat.zero_le _⟩
        case round =>
          obtain ⟨z, k, rfl, rfl, hk⟩ := hrel
          by_cases hlt : k < req.length
          · first
            | (exfalso; omega)
            | (have hcell := hc3 k hlt
               go_wp2
               all_goals try (go_ret; exact ⟨IsB.mk _ (fun h => by cases h), rfl⟩)
               go_round
               case rel => exact ⟨_, k + 1, rfl, by go_num, by omega⟩
               case measure => simp [intOf]; omega)
          · go_wp2
            go_ret
            exact ⟨IsB.mk _ (fun _ => ⟨by omega, by omega⟩), rfl⟩

set_option maxRecDepth 100000 in
set_option maxHeartbeats 1000000 in
theorem size12 (noun what : ByteArray) (a1 a3 : Option Addr) (c1 c3 : Nat) (ids req : List ByteArray) (k0 : Int) (w : World) (h1 : Strs w a1 ids) (h3 : Strs w a3 req)
    (l0 : noun.size ≤ maxLen) (l2 : what.size ≤ maxLen) (l1 : ids.length ≤ maxLen) (l3 : req.length ≤ maxLen) :
    Calls Tryf.prog 12 #[.string noun, .slice a1 ids.length c1, .string what, .slice a3 req.length c3, .int .i64 k0] w fun e w' => IsB (Small ids req) e ∧ w = w' := by
  unfold maxLen at l0 l1 l2 l3
  rcases h1.ways with h1 | ⟨b1, o1, rfl, hb1, hc1⟩ <;> rcases h3.ways with h3 | ⟨b3, o3, rfl, hb3, hc3⟩
  all_goals
    go_enter Tryf.func12, Tryf.ntmps12
    go_wp2
    all_goals try (go_ret; exact ⟨IsB.mk _ (fun h => by cases h), rfl⟩)
    go_loop [11, 12] (fun n i => ∃ (z : Int) (k : Nat), n = .int .i64 z ∧ i = .int .i64 k ∧ k ≤ ids.length) (fun _ i => ids.length - (intOf i).toNat)
    case atStart => exact ⟨_, 0, rfl, rfl, Nat.zero_le _⟩
    case round =>
      obtain ⟨z, k, rfl, rfl, hk⟩ := hrel
      by_cases hlt : k < ids.length
      · first
        | (exfalso; omega)
        | (have hcell := hc1 k hlt
           go_wp2
           all_goals try (go_ret; exact ⟨IsB.mk _ (fun h => by cases h), rfl⟩)
           go_round
           case rel => exact ⟨_, k + 1, rfl, by go_num, by omega⟩
           case measure => simp [intOf]; omega)
      · go_wp2
        all_goals try (go_ret; exact ⟨IsB.mk _ (fun h => by cases h), rfl⟩)
        go_loop [11, 13] (fun n i => ∃ (z : Int) (k : Nat), n = .int .i64 z ∧ i = .int .i64 k ∧ k ≤ req.length) (fun _ i => req.length - (intOf i).toNat)
        case atStart => exact ⟨_, 0, rfl, rfl, Nat.zero_le _⟩
        case round =>
          obtain ⟨z, k, rfl, rfl, hk⟩ := hrel
          by_cases hlt : k < req.length
          · first
            | (exfalso; omega)
            | (have hcell := hc3 k hlt
               go_wp2
               all_goals try (go_ret; exact ⟨IsB.mk _ (fun h => by cases h), rfl⟩)
               go_round
               case rel => exact ⟨_, k + 1, rfl, by go_num, by omega⟩
               case measure => simp [intOf]; omega)
          · go_wp2
            go_ret
            exact ⟨IsB.mk _ (fun _ => ⟨by omega, by omega⟩), rfl⟩

end Go.Proofs.Qxb6626507aFmt
