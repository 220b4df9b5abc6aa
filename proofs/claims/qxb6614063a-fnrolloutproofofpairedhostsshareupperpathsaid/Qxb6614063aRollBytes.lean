/-
  zzB1RolloutBytes: it returns some integer; nothing turns.
-/
import Derived.Test.Qxb6614063aBytes
import Derived.Test.Qxb6614063aFreshLeaves
namespace Go.Proofs.Qxb6614063a
open Go.RowKit

set_option maxRecDepth 100000 in
set_option maxHeartbeats 1000000 in
theorem rolloutBytes18 (ch id q : ByteArray) (ma sa ha ca xa la0 : Option Addr) (mn mc sn sc n hc c cc x xc m lc0 : Nat) (ss cs : Nat → ByteArray) (la : Nat → Option Addr) (ln lc : Nat → Nat) (bs : Nat → Nat → Nat → Int) (w : World)
    (hss : SlAt w ha n fun j => .string (ss j)) (hcs : SlAt w ca c fun j => .string (cs j)) (hL : LevAt w la0 m la ln lc bs) :
    Calls Try.prog 18 #[.string ch, .string id, .slice ma mn mc, .slice sa sn sc, .string q, .slice ha n hc, .slice ca c cc, .slice xa x xc, .slice la0 m lc0] w fun e w' => AnyInt e ∧ w' = w := by
  have hn0 := hss.small
  have hc0 := hcs.small
  have hm0 := hL.outer.small
  go_enter Try.func18, Try.ntmps18
  go_wp2_with fail
  refine (addLen _ _ _ (by omega) (by omega)).mono ?_
  rintro e w' ⟨⟨z1, rfl, a1, b1⟩, rfl⟩
  go_wp2_with fail
  refine (addLen _ _ _ (by omega) (by omega)).mono ?_
  rintro e w' ⟨⟨z2, rfl, a2, b2⟩, rfl⟩
  go_wp2_with fail
  refine (addLen _ _ _ (by omega) (by omega)).mono ?_
  rintro e w' ⟨⟨z3, rfl, a3, b3⟩, rfl⟩
  go_wp2_with fail
  refine (addLen _ _ _ (by omega) (by omega)).mono ?_
  rintro e w' ⟨⟨z4, rfl, a4, b4⟩, rfl⟩
  go_wp2_with fail
  refine (addLen _ _ _ (by omega) (by omega)).mono ?_
  rintro e w' ⟨⟨z5, rfl, a5, b5⟩, rfl⟩
  by_cases t1 : (131072 : Int) < (x : Int)
  · go_wp2
    go_ret
    exact ⟨⟨_, rfl⟩, rfl⟩
  by_cases t2 : (65536 : Int) < (n : Int)
  · go_wp2
    go_ret
    exact ⟨⟨_, rfl⟩, rfl⟩
  by_cases t3 : (65536 : Int) < (c : Int)
  · go_wp2
    go_ret
    exact ⟨⟨_, rfl⟩, rfl⟩
  by_cases t4 : (64 : Int) < (m : Int)
  · go_wp2
    go_ret
    exact ⟨⟨_, rfl⟩, rfl⟩
  go_wp2_with fail
  refine (addLen _ _ _ (by omega) (by omega)).mono ?_
  rintro e w' ⟨⟨z6, rfl, a6, b6⟩, rfl⟩
  go_wp2_with fail
  refine (addLen _ _ _ (by omega) (by omega)).mono ?_
  rintro e w' ⟨⟨z7, rfl, a7, b7⟩, rfl⟩
  go_wp2_with fail
  refine (addLen _ _ _ (by omega) (by omega)).mono ?_
  rintro e w' ⟨⟨z8, rfl, a8, b8⟩, rfl⟩
  go_wp2_with fail
  refine (addLen _ _ _ (by omega) (by omega)).mono ?_
  rintro e w' ⟨⟨z9, rfl, a9, b9⟩, rfl⟩
  clear a1 b1 a2 b2 a3 b3 a4 b4 a5 b5 a6 b6 a7 b7 a8 b8
  go_wp2
  go_loop [19, 20] (fun t i => (∃ z : Int, t = .int .i64 z ∧ 0 ≤ z ∧ z ≤ 4194304) ∧ ∃ k : Nat, k ≤ n ∧ i = .int .i64 k) (fun _ i => n - (intOf i).toNat)
  case atStart => exact ⟨⟨_, rfl, by omega, by omega⟩, 0, Nat.zero_le _, rfl⟩
  case round =>
    clear a9 b9
    obtain ⟨⟨z, rfl, hz0, hz1⟩, k, hk, rfl⟩ := hrel
    by_cases hgo : k < n ∧ z ≤ 1048576
    · obtain ⟨hlt, hz⟩ := hgo
      obtain ⟨b, off, _, hix, hcell⟩ := hss.elem29 hlt hc
      go_wp2_with fail
      refine (addLen _ _ _ (by omega) (by omega)).mono ?_
      rintro e w'' ⟨⟨z', rfl, hz'0, hz'1⟩, rfl⟩
      go_wp2
      go_round
      case rel => exact ⟨⟨_, rfl, by omega, by omega⟩, k + 1, by omega, by go_num⟩
      case measure => simp [intOf]; omega
    have hcase : (¬ k < n) ∨ (k < n ∧ ¬ z ≤ 1048576) := by omega
    have Hcase : Hid ((¬ k < n) ∨ (k < n ∧ ¬ z ≤ 1048576)) := hcase
    clear hcase hgo
    rcases Hcase.out with hA | ⟨hA, hA2⟩
    all_goals
      clear Hcase
      go_wp2
      go_loop [19, 21] (fun t i => (∃ z : Int, t = .int .i64 z ∧ 0 ≤ z ∧ z ≤ 4194304) ∧ ∃ k : Nat, k ≤ c ∧ i = .int .i64 k) (fun _ i => c - (intOf i).toNat)
      case atStart => exact ⟨⟨_, rfl, by omega, by omega⟩, 0, Nat.zero_le _, rfl⟩
      case round =>
        obtain ⟨⟨y, rfl, hy0, hy1⟩, k2, hk2, rfl⟩ := hrel
        by_cases hgo2 : k2 < c ∧ y ≤ 1048576
        · obtain ⟨hlt2, hy⟩ := hgo2
          obtain ⟨b, off, _, hix, hcell⟩ := hcs.elem29 hlt2 cc
          go_wp2_with fail
          refine (addLen _ _ _ (by omega) (by omega)).mono ?_
          rintro e w'' ⟨⟨z', rfl, hz'0, hz'1⟩, rfl⟩
          go_wp2
          go_round
          case rel => exact ⟨⟨_, rfl, by omega, by omega⟩, k2 + 1, by omega, by go_num⟩
          case measure => simp [intOf]; omega
        have hcase2 : (¬ k2 < c) ∨ (k2 < c ∧ ¬ y ≤ 1048576) := by omega
        have Hcase2 : Hid ((¬ k2 < c) ∨ (k2 < c ∧ ¬ y ≤ 1048576)) := hcase2
        clear hcase2 hgo2
        rcases Hcase2.out with hC | ⟨hC, hC2⟩
        all_goals
          clear Hcase2
          go_wp2
          go_loop [19, 22] (fun t i => (∃ z : Int, t = .int .i64 z ∧ 0 ≤ z ∧ z ≤ 4194304) ∧ ∃ k : Nat, k ≤ m ∧ i = .int .i64 k) (fun _ i => m - (intOf i).toNat)
          case atStart => exact ⟨⟨_, rfl, by omega, by omega⟩, 0, Nat.zero_le _, rfl⟩
          case round =>
            obtain ⟨⟨v, rfl, hv0, hv1⟩, k3, hk3, rfl⟩ := hrel
            by_cases hgo3 : k3 < m ∧ v ≤ 1048576
            · obtain ⟨hlt3, hv⟩ := hgo3
              obtain ⟨b, off, _, hix, hcell⟩ := hL.outer.elem41 hlt3 lc0
              have hsk := hL.small k3
              by_cases t5 : (32768 : Int) < (ln k3 : Int)
              · go_wp2
                go_ret
                exact ⟨⟨_, rfl⟩, rfl⟩
              go_wp2_with fail
              refine (addLen _ _ _ (by omega) (by omega)).mono ?_
              rintro e w'' ⟨⟨z', rfl, hz'0, hz'1⟩, rfl⟩
              go_wp2
              go_round
              case rel => exact ⟨⟨_, rfl, by omega, by omega⟩, k3 + 1, by omega, by go_num⟩
              case measure => simp [intOf]; omega
            have hcase3 : (¬ k3 < m) ∨ (k3 < m ∧ ¬ v ≤ 1048576) := by omega
            have Hcase3 : Hid ((¬ k3 < m) ∨ (k3 < m ∧ ¬ v ≤ 1048576)) := hcase3
            clear hcase3 hgo3
            rcases Hcase3.out with hD | ⟨hD, hD2⟩
            all_goals
              clear Hcase3
              go_wp2
              go_ret
              exact ⟨⟨_, rfl⟩, rfl⟩

end Go.Proofs.Qxb6614063a
