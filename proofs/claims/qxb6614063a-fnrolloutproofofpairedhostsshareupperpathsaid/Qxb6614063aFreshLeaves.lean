/-
  THE LEAVES OF THE FRESHNESS LAWS: the bounds on bytes (they return some bool, some integer), 'zzB1Distinct', 'zzB1WindowOf', 'minutes'.
-/
import Derived.Test.Qxb6614063aIn
import Derived.Test.Qxb6614063aFreshPlain
import Derived.Outline
import Derived.Deep.QuietTactic
import Derived.BigQuiet
import Derived.WalkSmall
namespace Go.Proofs.Qxb6614063a
open Go.RowKit

set_option maxHeartbeats 400000 in
theorem bytes10 (na wa : Option Addr) (n nc m mc : Nat) (cut : Int) (ss : Nat → ByteArray) (w : World) (hn : SlAt w na n fun j => .string (ss j)) (hm : m < 4611686018427387904) (hs : ∀ j, (ss j).size ≤ maxLen) :
    Calls Try.prog 10 #[.slice na n nc, .slice wa m mc, .int .i64 cut] w fun e w' => AnyBool e ∧ w' = w := by
  have hn0 := hn.small
  unfold maxLen at hs
  by_cases h1 : (1048576 : Int) < (n : Int)
  · go_enter Try.func10, Try.ntmps10
    go_wp2
    go_ret
    exact ⟨⟨_, rfl⟩, rfl⟩
  · go_enter Try.func10, Try.ntmps10
    go_wp2
    go_loop [6, 7, 8] (fun r t i => r = .bool false ∧ (∃ z : Int, t = .int .i64 z ∧ 0 ≤ z ∧ z ≤ 1048576) ∧ ∃ k : Nat, k ≤ n ∧ i = .int .i64 k) (fun _ _ i => n - (intOf i).toNat)
    case atStart => exact ⟨rfl, ⟨_, rfl, by omega, by omega⟩, 0, Nat.zero_le _, rfl⟩
    case round =>
      obtain ⟨rfl, ⟨z, rfl, hz0, hz1⟩, k, hk, rfl⟩ := hrel
      by_cases hlt : k < n
      · obtain ⟨b, off, _, hix, hc⟩ := hn.elem29 hlt nc
        have hsk := hs k
        go_wp2
        all_goals first
          | (go_ret; exact ⟨⟨_, rfl⟩, rfl⟩)
          | (go_round
             case rel => exact ⟨rfl, ⟨_, rfl, by omega, by omega⟩, k + 1, by omega, by go_num⟩
             case measure => simp [intOf]; omega)
      · go_wp2
        all_goals (go_ret; exact ⟨⟨_, rfl⟩, rfl⟩)

set_option maxHeartbeats 400000 in
theorem bytes16 (na wa : Option Addr) (n nc m mc : Nat) (j v : Int) (ss : Nat → ByteArray) (w : World) (hn : SlAt w na n fun j => .string (ss j)) (hm : m < 4611686018427387904) (hs : ∀ j, (ss j).size ≤ maxLen) :
    Calls Try.prog 16 #[.slice na n nc, .slice wa m mc, .int .i64 j, .int .i64 v] w fun e w' => AnyBool e ∧ w' = w := by
  have hn0 := hn.small
  unfold maxLen at hs
  by_cases h1 : (1048576 : Int) < (n : Int)
  · go_enter Try.func16, Try.ntmps16
    go_wp2
    go_ret
    exact ⟨⟨_, rfl⟩, rfl⟩
  · go_enter Try.func16, Try.ntmps16
    go_wp2
    go_loop [8, 9, 10] (fun r t i => r = .bool false ∧ (∃ z : Int, t = .int .i64 z ∧ 0 ≤ z ∧ z ≤ 1048576) ∧ ∃ k : Nat, k ≤ n ∧ i = .int .i64 k) (fun _ _ i => n - (intOf i).toNat)
    case atStart => exact ⟨rfl, ⟨_, rfl, by omega, by omega⟩, 0, Nat.zero_le _, rfl⟩
    case round =>
      obtain ⟨rfl, ⟨z, rfl, hz0, hz1⟩, k, hk, rfl⟩ := hrel
      by_cases hlt : k < n
      · obtain ⟨b, off, _, hix, hc⟩ := hn.elem29 hlt nc
        have hsk := hs k
        go_wp2
        all_goals first
          | (go_ret; exact ⟨⟨_, rfl⟩, rfl⟩)
          | (go_round
             case rel => exact ⟨rfl, ⟨_, rfl, by omega, by omega⟩, k + 1, by omega, by go_num⟩
             case measure => simp [intOf]; omega)
      · go_wp2
        all_goals (go_ret; exact ⟨⟨_, rfl⟩, rfl⟩)

theorem addLen (t n : Int) (w : World) (_h0 : 0 ≤ t) (h1 : 0 ≤ n) : Calls Try.prog 27 #[.int .i64 t, .int .i64 n] w fun e w' => (∃ z : Int, e = .returned (.int .i64 z) ∧ 0 ≤ z ∧ z ≤ 2097152) ∧ w' = w := by
  by_cases h2 : (1048576 : Int) < t
  · go_enter Try.func27, Try.ntmps27
    go_wp2
    go_ret
    exact ⟨⟨_, rfl, by omega, by omega⟩, rfl⟩
  · by_cases h3 : (1048576 : Int) < n
    · go_enter Try.func27, Try.ntmps27
      go_wp2
      go_ret
      exact ⟨⟨_, rfl, by omega, by omega⟩, rfl⟩
    · go_enter Try.func27, Try.ntmps27
      go_wp2
      go_ret
      exact ⟨⟨_, rfl, by omega, by omega⟩, rfl⟩

set_option maxHeartbeats 400000 in
theorem namesBytes (na wa : Option Addr) (n nc m mc : Nat) (ss : Nat → ByteArray) (w : World) (hn : SlAt w na n fun j => .string (ss j)) (hm : m < 4611686018427387904) :
    Calls Try.prog 11 #[.slice na n nc, .slice wa m mc] w fun e w' => AnyInt e ∧ w' = w := by
  have hn0 := hn.small
  by_cases h1 : (65536 : Int) < (n : Int)
  · go_enter Try.func11, Try.ntmps11
    go_wp2
    go_ret
    exact ⟨⟨_, rfl⟩, rfl⟩
  by_cases h2 : (131072 : Int) < (m : Int)
  · go_enter Try.func11, Try.ntmps11
    go_wp2
    go_ret
    exact ⟨⟨_, rfl⟩, rfl⟩
  · go_enter Try.func11, Try.ntmps11
    go_wp2
    go_loop [5, 6] (fun t i => (∃ z : Int, t = .int .i64 z ∧ 0 ≤ z ∧ z ≤ 4194304) ∧ ∃ k : Nat, k ≤ n ∧ i = .int .i64 k) (fun _ i => n - (intOf i).toNat)
    case atStart => exact ⟨⟨_, rfl, by omega, by omega⟩, 0, Nat.zero_le _, rfl⟩
    case round =>
      obtain ⟨⟨z, rfl, hz0, hz1⟩, k, hk, rfl⟩ := hrel
      by_cases hlt : k < n
      · obtain ⟨b, off, _, hix, hc⟩ := hn.elem29 hlt nc
        by_cases hz : z ≤ 1048576
        · go_wp2_with fail
          refine (addLen _ _ _ (by omega) (by omega)).mono ?_
          rintro e w' ⟨⟨z', rfl, hz'0, hz'1⟩, rfl⟩
          go_wp2
          go_round
          case rel => exact ⟨⟨_, rfl, by omega, by omega⟩, k + 1, by omega, by go_num⟩
          case measure => simp [intOf]; omega
        · go_wp2
          go_ret
          exact ⟨⟨_, rfl⟩, rfl⟩
      · go_wp2
        go_ret
        exact ⟨⟨_, rfl⟩, rfl⟩

end Go.Proofs.Qxb6614063a
