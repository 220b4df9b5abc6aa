/-
  THE BOUNDS ON BYTES OF THE ROLLOUT LAWS: each returns some bool, some integer; nothing turns.
-/
import Derived.Test.Qxb6614063aShape
namespace Go.Proofs.Qxb6614063a
open Go.RowKit

set_option maxRecDepth 100000 in
set_option maxHeartbeats 1000000 in
theorem bytes26 (ch id : ByteArray) (q : ByteArray) (ma sa ha ca xa la0 : Option Addr) (mn mc sn sc n hc c cc x xc m lc0 : Nat) (ss cs : Nat → ByteArray) (la : Nat → Option Addr) (ln lc : Nat → Nat) (bs : Nat → Nat → Nat → Int) (w : World)
    (hss : SlAt w ha n fun j => .string (ss j)) (hcs : SlAt w ca c fun j => .string (cs j)) (hL : LevAt w la0 m la ln lc bs) (hsb : ∀ j, (ss j).size ≤ maxLen) (hcb : ∀ j, (cs j).size ≤ maxLen) :
    Calls Try.prog 26 #[.string ch, .string id, .slice ma mn mc, .slice sa sn sc, .slice ha n hc, .slice ca c cc, .slice xa x xc, .slice la0 m lc0, .string q] w fun e w' => AnyBool e ∧ w' = w := by
  unfold maxLen at hsb hcb
  have hn0 := hss.small
  have hc0 := hcs.small
  have hm0 := hL.outer.small
  by_cases t1 : (1048576 : Int) < (ch.size : Int)
  · go_enter Try.func26, Try.ntmps26
    go_wp2
    go_ret
    exact ⟨⟨_, rfl⟩, rfl⟩
  by_cases t2 : (1048576 : Int) < (id.size : Int)
  · go_enter Try.func26, Try.ntmps26
    go_wp2
    go_ret
    exact ⟨⟨_, rfl⟩, rfl⟩
  by_cases u2 : (1048576 : Int) < (ch.size : Int) + (id.size : Int)
  · go_enter Try.func26, Try.ntmps26
    go_wp2
    go_ret
    exact ⟨⟨_, rfl⟩, rfl⟩
  by_cases t3 : (1048576 : Int) < (mn : Int)
  · go_enter Try.func26, Try.ntmps26
    go_wp2
    go_ret
    exact ⟨⟨_, rfl⟩, rfl⟩
  by_cases u3 : (1048576 : Int) < (ch.size : Int) + (id.size : Int) + (mn : Int)
  · go_enter Try.func26, Try.ntmps26
    go_wp2
    go_ret
    exact ⟨⟨_, rfl⟩, rfl⟩
  by_cases t4 : (1048576 : Int) < (sn : Int)
  · go_enter Try.func26, Try.ntmps26
    go_wp2
    go_ret
    exact ⟨⟨_, rfl⟩, rfl⟩
  by_cases u4 : (1048576 : Int) < (ch.size : Int) + (id.size : Int) + (mn : Int) + (sn : Int)
  · go_enter Try.func26, Try.ntmps26
    go_wp2
    go_ret
    exact ⟨⟨_, rfl⟩, rfl⟩
  by_cases t5 : (1048576 : Int) < (n : Int)
  · go_enter Try.func26, Try.ntmps26
    go_wp2
    go_ret
    exact ⟨⟨_, rfl⟩, rfl⟩
  by_cases u5 : (1048576 : Int) < (ch.size : Int) + (id.size : Int) + (mn : Int) + (sn : Int) + (n : Int)
  · go_enter Try.func26, Try.ntmps26
    go_wp2
    go_ret
    exact ⟨⟨_, rfl⟩, rfl⟩
  go_enter Try.func26, Try.ntmps26
  go_wp2
  go_loop [18, 19, 20] (fun r t i => r = .bool false ∧ (∃ z : Int, t = .int .i64 z ∧ 0 ≤ z ∧ z ≤ 1048576) ∧ ∃ k : Nat, k ≤ n ∧ i = .int .i64 k) (fun _ _ i => n - (intOf i).toNat)
  case atStart => exact ⟨rfl, ⟨_, rfl, by omega, by omega⟩, 0, Nat.zero_le _, rfl⟩
  case round =>
    obtain ⟨rfl, ⟨z, rfl, hz0, hz1⟩, k, hk, rfl⟩ := hrel
    by_cases hlt : k < n
    · obtain ⟨b, off, _, hix, hcell⟩ := hss.elem29 hlt hc
      have hsk := hsb k
      go_wp2
      all_goals first
        | (go_ret; exact ⟨⟨_, rfl⟩, rfl⟩)
        | (go_round
           case rel => exact ⟨rfl, ⟨_, rfl, by omega, by omega⟩, k + 1, by omega, by go_num⟩
           case measure => simp [intOf]; omega)
    by_cases t6 : (1048576 : Int) < (c : Int)
    · go_wp2
      go_ret
      exact ⟨⟨_, rfl⟩, rfl⟩
    by_cases u6 : (1048576 : Int) < z + (c : Int)
    · go_wp2
      go_ret
      exact ⟨⟨_, rfl⟩, rfl⟩
    clear t1 t2 u2 t3 u3 t4 u4 t5 u5
    go_wp2
    go_loop [18, 19, 21] (fun r t i => r = .bool false ∧ (∃ z : Int, t = .int .i64 z ∧ 0 ≤ z ∧ z ≤ 1048576) ∧ ∃ k : Nat, k ≤ c ∧ i = .int .i64 k) (fun _ _ i => c - (intOf i).toNat)
    case atStart => exact ⟨rfl, ⟨_, rfl, by omega, by omega⟩, 0, Nat.zero_le _, rfl⟩
    case round =>
      clear hz0 hz1 t6 u6
      obtain ⟨rfl, ⟨z2, rfl, hz0, hz1⟩, k2, hk2, rfl⟩ := hrel
      by_cases hlt2 : k2 < c
      · obtain ⟨b, off, _, hix, hcell⟩ := hcs.elem29 hlt2 cc
        have hsk := hcb k2
        go_wp2
        all_goals first
          | (go_ret; exact ⟨⟨_, rfl⟩, rfl⟩)
          | (go_round
             case rel => exact ⟨rfl, ⟨_, rfl, by omega, by omega⟩, k2 + 1, by omega, by go_num⟩
             case measure => simp [intOf]; omega)
      by_cases t7 : (1048576 : Int) < (x : Int)
      · go_wp2
        go_ret
        exact ⟨⟨_, rfl⟩, rfl⟩
      by_cases u7 : (1048576 : Int) < z2 + (x : Int)
      · go_wp2
        go_ret
        exact ⟨⟨_, rfl⟩, rfl⟩
      by_cases t8 : (1048576 : Int) < (m : Int)
      · go_wp2
        go_ret
        exact ⟨⟨_, rfl⟩, rfl⟩
      by_cases u8 : (1048576 : Int) < z2 + (x : Int) + (m : Int)
      · go_wp2
        go_ret
        exact ⟨⟨_, rfl⟩, rfl⟩
      go_wp2
      go_loop [18, 19, 22, 23] (fun r t i _ => r = .bool false ∧ (∃ z : Int, t = .int .i64 z ∧ 0 ≤ z ∧ z ≤ 1048576) ∧ ∃ k : Nat, k ≤ m ∧ i = .int .i64 k) (fun _ _ i _ => m - (intOf i).toNat)
      case atStart => exact ⟨rfl, ⟨_, rfl, by omega, by omega⟩, 0, Nat.zero_le _, rfl⟩
      case round =>
        clear hz0 hz1 t7 u7 t8 u8
        obtain ⟨rfl, ⟨z3, rfl, hz0, hz1⟩, k3, hk3, rfl⟩ := hrel
        by_cases hlt3 : k3 < m
        · obtain ⟨b, off, _, hix, hcell⟩ := hL.outer.elem41 hlt3 lc0
          have hsk := hL.small k3
          by_cases t9 : (1048576 : Int) < (ln k3 : Int)
          · go_wp2
            go_ret
            exact ⟨⟨_, rfl⟩, rfl⟩
          by_cases u9 : (1048576 : Int) < z3 + (ln k3 : Int)
          · go_wp2
            go_ret
            exact ⟨⟨_, rfl⟩, rfl⟩
          go_wp2
          go_loop [18, 19, 23] (fun r t i => r = .bool false ∧ (∃ z : Int, t = .int .i64 z ∧ 0 ≤ z ∧ z ≤ 1048576) ∧ ∃ k : Nat, k ≤ ln k3 ∧ i = .int .i64 k) (fun _ _ i => ln k3 - (intOf i).toNat)
          case atStart => exact ⟨rfl, ⟨_, rfl, by omega, by omega⟩, 0, Nat.zero_le _, rfl⟩
          case round =>
            clear hz0 hz1 t9 u9
            obtain ⟨rfl, ⟨z4, rfl, hz0, hz1⟩, k4, hk4, rfl⟩ := hrel
            by_cases hlt4 : k4 < ln k3
            · go_wp2
              all_goals first
                | (go_ret; exact ⟨⟨_, rfl⟩, rfl⟩)
                | (go_round
                   case rel => exact ⟨rfl, ⟨_, rfl, by omega, by omega⟩, k4 + 1, by omega, by go_num⟩
                   case measure => simp [intOf]; omega)
            · go_wp2
              go_round
              case rel => exact ⟨rfl, ⟨_, rfl, by omega, by omega⟩, k3 + 1, by omega, by go_num⟩
              case measure => simp [intOf]; omega
        · go_wp2
          all_goals (go_ret; exact ⟨⟨_, rfl⟩, rfl⟩)

set_option maxRecDepth 100000 in
set_option maxHeartbeats 1000000 in
theorem bytes17 (ch id : ByteArray) (kk : Int) (ma sa ha ca xa la0 : Option Addr) (mn mc sn sc n hc c cc x xc m lc0 : Nat) (ss cs : Nat → ByteArray) (la : Nat → Option Addr) (ln lc : Nat → Nat) (bs : Nat → Nat → Nat → Int) (w : World)
    (hss : SlAt w ha n fun j => .string (ss j)) (hcs : SlAt w ca c fun j => .string (cs j)) (hL : LevAt w la0 m la ln lc bs) (hsb : ∀ j, (ss j).size ≤ maxLen) (hcb : ∀ j, (cs j).size ≤ maxLen) :
    Calls Try.prog 17 #[.string ch, .string id, .slice ma mn mc, .slice sa sn sc, .slice ha n hc, .slice ca c cc, .slice xa x xc, .slice la0 m lc0, .int .i64 kk] w fun e w' => AnyBool e ∧ w' = w := by
  unfold maxLen at hsb hcb
  have hn0 := hss.small
  have hc0 := hcs.small
  have hm0 := hL.outer.small
  by_cases t1 : (1048576 : Int) < (ch.size : Int)
  · go_enter Try.func17, Try.ntmps17
    go_wp2
    go_ret
    exact ⟨⟨_, rfl⟩, rfl⟩
  by_cases t2 : (1048576 : Int) < (id.size : Int)
  · go_enter Try.func17, Try.ntmps17
    go_wp2
    go_ret
    exact ⟨⟨_, rfl⟩, rfl⟩
  by_cases u2 : (1048576 : Int) < (ch.size : Int) + (id.size : Int)
  · go_enter Try.func17, Try.ntmps17
    go_wp2
    go_ret
    exact ⟨⟨_, rfl⟩, rfl⟩
  by_cases t3 : (1048576 : Int) < (mn : Int)
  · go_enter Try.func17, Try.ntmps17
    go_wp2
    go_ret
    exact ⟨⟨_, rfl⟩, rfl⟩
  by_cases u3 : (1048576 : Int) < (ch.size : Int) + (id.size : Int) + (mn : Int)
  · go_enter Try.func17, Try.ntmps17
    go_wp2
    go_ret
    exact ⟨⟨_, rfl⟩, rfl⟩
  by_cases t4 : (1048576 : Int) < (sn : Int)
  · go_enter Try.func17, Try.ntmps17
    go_wp2
    go_ret
    exact ⟨⟨_, rfl⟩, rfl⟩
  by_cases u4 : (1048576 : Int) < (ch.size : Int) + (id.size : Int) + (mn : Int) + (sn : Int)
  · go_enter Try.func17, Try.ntmps17
    go_wp2
    go_ret
    exact ⟨⟨_, rfl⟩, rfl⟩
  by_cases t5 : (1048576 : Int) < (n : Int)
  · go_enter Try.func17, Try.ntmps17
    go_wp2
    go_ret
    exact ⟨⟨_, rfl⟩, rfl⟩
  by_cases u5 : (1048576 : Int) < (ch.size : Int) + (id.size : Int) + (mn : Int) + (sn : Int) + (n : Int)
  · go_enter Try.func17, Try.ntmps17
    go_wp2
    go_ret
    exact ⟨⟨_, rfl⟩, rfl⟩
  go_enter Try.func17, Try.ntmps17
  go_wp2
  go_loop [18, 19, 20] (fun r t i => r = .bool false ∧ (∃ z : Int, t = .int .i64 z ∧ 0 ≤ z ∧ z ≤ 1048576) ∧ ∃ k : Nat, k ≤ n ∧ i = .int .i64 k) (fun _ _ i => n - (intOf i).toNat)
  case atStart => exact ⟨rfl, ⟨_, rfl, by omega, by omega⟩, 0, Nat.zero_le _, rfl⟩
  case round =>
    obtain ⟨rfl, ⟨z, rfl, hz0, hz1⟩, k, hk, rfl⟩ := hrel
    by_cases hlt : k < n
    · obtain ⟨b, off, _, hix, hcell⟩ := hss.elem29 hlt hc
      have hsk := hsb k
      go_wp2
      all_goals first
        | (go_ret; exact ⟨⟨_, rfl⟩, rfl⟩)
        | (go_round
           case rel => exact ⟨rfl, ⟨_, rfl, by omega, by omega⟩, k + 1, by omega, by go_num⟩
           case measure => simp [intOf]; omega)
    by_cases t6 : (1048576 : Int) < (c : Int)
    · go_wp2
      go_ret
      exact ⟨⟨_, rfl⟩, rfl⟩
    by_cases u6 : (1048576 : Int) < z + (c : Int)
    · go_wp2
      go_ret
      exact ⟨⟨_, rfl⟩, rfl⟩
    clear t1 t2 u2 t3 u3 t4 u4 t5 u5
    go_wp2
    go_loop [18, 19, 21] (fun r t i => r = .bool false ∧ (∃ z : Int, t = .int .i64 z ∧ 0 ≤ z ∧ z ≤ 1048576) ∧ ∃ k : Nat, k ≤ c ∧ i = .int .i64 k) (fun _ _ i => c - (intOf i).toNat)
    case atStart => exact ⟨rfl, ⟨_, rfl, by omega, by omega⟩, 0, Nat.zero_le _, rfl⟩
    case round =>
      clear hz0 hz1 t6 u6
      obtain ⟨rfl, ⟨z2, rfl, hz0, hz1⟩, k2, hk2, rfl⟩ := hrel
      by_cases hlt2 : k2 < c
      · obtain ⟨b, off, _, hix, hcell⟩ := hcs.elem29 hlt2 cc
        have hsk := hcb k2
        go_wp2
        all_goals first
          | (go_ret; exact ⟨⟨_, rfl⟩, rfl⟩)
          | (go_round
             case rel => exact ⟨rfl, ⟨_, rfl, by omega, by omega⟩, k2 + 1, by omega, by go_num⟩
             case measure => simp [intOf]; omega)
      by_cases t7 : (1048576 : Int) < (x : Int)
      · go_wp2
        go_ret
        exact ⟨⟨_, rfl⟩, rfl⟩
      by_cases u7 : (1048576 : Int) < z2 + (x : Int)
      · go_wp2
        go_ret
        exact ⟨⟨_, rfl⟩, rfl⟩
      by_cases t8 : (1048576 : Int) < (m : Int)
      · go_wp2
        go_ret
        exact ⟨⟨_, rfl⟩, rfl⟩
      by_cases u8 : (1048576 : Int) < z2 + (x : Int) + (m : Int)
      · go_wp2
        go_ret
        exact ⟨⟨_, rfl⟩, rfl⟩
      go_wp2
      go_loop [18, 19, 22, 23] (fun r t i _ => r = .bool false ∧ (∃ z : Int, t = .int .i64 z ∧ 0 ≤ z ∧ z ≤ 1048576) ∧ ∃ k : Nat, k ≤ m ∧ i = .int .i64 k) (fun _ _ i _ => m - (intOf i).toNat)
      case atStart => exact ⟨rfl, ⟨_, rfl, by omega, by omega⟩, 0, Nat.zero_le _, rfl⟩
      case round =>
        clear hz0 hz1 t7 u7 t8 u8
        obtain ⟨rfl, ⟨z3, rfl, hz0, hz1⟩, k3, hk3, rfl⟩ := hrel
        by_cases hlt3 : k3 < m
        · obtain ⟨b, off, _, hix, hcell⟩ := hL.outer.elem41 hlt3 lc0
          have hsk := hL.small k3
          by_cases t9 : (1048576 : Int) < (ln k3 : Int)
          · go_wp2
            go_ret
            exact ⟨⟨_, rfl⟩, rfl⟩
          by_cases u9 : (1048576 : Int) < z3 + (ln k3 : Int)
          · go_wp2
            go_ret
            exact ⟨⟨_, rfl⟩, rfl⟩
          go_wp2
          go_loop [18, 19, 23] (fun r t i => r = .bool false ∧ (∃ z : Int, t = .int .i64 z ∧ 0 ≤ z ∧ z ≤ 1048576) ∧ ∃ k : Nat, k ≤ ln k3 ∧ i = .int .i64 k) (fun _ _ i => ln k3 - (intOf i).toNat)
          case atStart => exact ⟨rfl, ⟨_, rfl, by omega, by omega⟩, 0, Nat.zero_le _, rfl⟩
          case round =>
            clear hz0 hz1 t9 u9
            obtain ⟨rfl, ⟨z4, rfl, hz0, hz1⟩, k4, hk4, rfl⟩ := hrel
            by_cases hlt4 : k4 < ln k3
            · go_wp2
              all_goals first
                | (go_ret; exact ⟨⟨_, rfl⟩, rfl⟩)
                | (go_round
                   case rel => exact ⟨rfl, ⟨_, rfl, by omega, by omega⟩, k4 + 1, by omega, by go_num⟩
                   case measure => simp [intOf]; omega)
            · go_wp2
              go_round
              case rel => exact ⟨rfl, ⟨_, rfl, by omega, by omega⟩, k3 + 1, by omega, by go_num⟩
              case measure => simp [intOf]; omega
        · go_wp2
          all_goals (go_ret; exact ⟨⟨_, rfl⟩, rfl⟩)

end Go.Proofs.Qxb6614063a
