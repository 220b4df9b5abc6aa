/-
  THE BOUNDS ON TOTAL LENGTH: zzBytes_FnMembersFirstExact, zzBytes_FnMembersFirstMembersBefore.
-/
import Derived.Test.Qxb6605609aIn
namespace Go.Proofs.Qxb6605609a
open Go.RowKit

set_option maxHeartbeats 1000000 in
set_option maxRecDepth 100000 in
theorem bytes23 (a a1 : Option Addr) (n c m c1 : Nat) (ss : Nat → ByteArray) (la : Nat → Option Addr) (ln lc : Nat → Nat) (ms : Nat → Nat → ByteArray) (w : World) (hs : SlAt w a n fun j => .string (ss j)) (hL : Lists w a1 m la ln lc ms) (hb : ∀ j, (ss j).size ≤ maxLen) (hmb : ∀ k j, (ms k j).size ≤ maxLen) :
    Calls Try.prog 23 #[.slice a n c, .slice a1 m c1] w fun e w' => AnyBool e ∧ w' = w := by
  unfold maxLen at hb hmb
  have hn0 := hs.small
  have hm0 := hL.outer.small
  by_cases t1 : (1048576 : Int) < (n : Int)
  · go_enter Try.func23, Try.ntmps23
    go_wp2
    go_ret
    exact ⟨⟨_, rfl⟩, rfl⟩
  have t1' : decide ((1048576 : Int) < (n : Int)) = false := by simp; omega
  go_enter Try.func23, Try.ntmps23
  go_wp2_with fail
  go_loop [5, 6] (fun v vi => ∃ (k : Nat) (t : Int), k ≤ n ∧ vi = .int .i64 k ∧ v = .int .i64 t ∧ 0 ≤ t ∧ t ≤ 1048576) (fun _ vi => n - (intOf vi).toNat)
  case atStart => exact ⟨0, _, Nat.zero_le _, rfl, rfl, by omega, by omega⟩
  case round =>
    obtain ⟨k, t, hk, rfl, rfl, ht0, ht1⟩ := hrel
    by_cases hlt : k < n
    · obtain ⟨b1, o1, _, hix1, hc1⟩ := hs.elem22 hlt c
      have hsz := hb k
      by_cases h1 : (1048576 : Int) < ((ss k).size : Int)
      · go_wp2_with fail
        go_ret
        exact ⟨⟨_, rfl⟩, rfl⟩
      · by_cases h2 : (1048576 : Int) < t + ((ss k).size : Int)
        · go_wp2_with fail
          go_ret
          exact ⟨⟨_, rfl⟩, rfl⟩
        · go_wp2_with fail
          go_round
          case rel => exact ⟨k + 1, _, by omega, by go_num, rfl, by omega, by omega⟩
          case measure => simp [intOf]; omega
    · by_cases t2 : (1048576 : Int) < (m : Int)
      · go_wp2_with fail
        go_ret
        exact ⟨⟨_, rfl⟩, rfl⟩
      have t2' : decide ((1048576 : Int) < (m : Int)) = false := by simp; omega
      by_cases t3 : (1048576 : Int) < t + (m : Int)
      · go_wp2_with fail
        go_ret
        exact ⟨⟨_, rfl⟩, rfl⟩
      have t3' : decide ((1048576 : Int) < t + (m : Int)) = false := by simp; omega
      go_wp2_with fail
      go_loop [5, 7, 8] (fun v vi _ => ∃ (k : Nat) (t : Int), k ≤ m ∧ vi = .int .i64 k ∧ v = .int .i64 t ∧ 0 ≤ t ∧ t ≤ 1048576) (fun _ vi _ => m - (intOf vi).toNat)
      case atStart => exact ⟨0, _, Nat.zero_le _, rfl, rfl, by omega, by omega⟩
      case round =>
        obtain ⟨q, r, hq, rfl, rfl, hr0, hr1⟩ := hrel
        by_cases hlq : q < m
        · obtain ⟨b2, o2, _, hix2, hc2⟩ := hL.outer.elem23 hlq c1
          have hi := hL.inner q hlq
          have hi0 := hi.small
          by_cases h3 : (1048576 : Int) < (ln q : Int)
          · go_wp2_with fail
            go_ret
            exact ⟨⟨_, rfl⟩, rfl⟩
          by_cases h4 : (1048576 : Int) < r + (ln q : Int)
          · go_wp2_with fail
            go_ret
            exact ⟨⟨_, rfl⟩, rfl⟩
          have hlq' : decide ((q : Int) < (m : Int)) = true := by simp; omega
          have h3' : decide ((1048576 : Int) < (ln q : Int)) = false := by simp; omega
          have h4' : decide ((1048576 : Int) < r + (ln q : Int)) = false := by simp; omega
          go_wp2_with fail
          go_loop [5, 8] (fun v vi => ∃ (k : Nat) (t : Int), k ≤ ln q ∧ vi = .int .i64 k ∧ v = .int .i64 t ∧ 0 ≤ t ∧ t ≤ 1048576) (fun _ vi => ln q - (intOf vi).toNat)
          case atStart => exact ⟨0, _, Nat.zero_le _, rfl, rfl, by omega, by omega⟩
          case round =>
            obtain ⟨p, s, hp, rfl, rfl, hs0, hs1⟩ := hrel
            by_cases hlp : p < ln q
            · obtain ⟨b3, o3, _, hix3, hc3⟩ := hi.elem22 hlp (lc q)
              have hsz := hmb q p
              by_cases h5 : (1048576 : Int) < ((ms q p).size : Int)
              · go_wp2_with fail
                go_ret
                exact ⟨⟨_, rfl⟩, rfl⟩
              · by_cases h6 : (1048576 : Int) < s + ((ms q p).size : Int)
                · go_wp2_with fail
                  go_ret
                  exact ⟨⟨_, rfl⟩, rfl⟩
                · go_wp2_with fail
                  go_round
                  case rel => exact ⟨p + 1, _, by omega, by go_num, rfl, by omega, by omega⟩
                  case measure => simp [intOf]; omega
            · go_wp2_with fail
              go_round
              case rel => exact ⟨q + 1, _, by omega, by go_num, rfl, by omega, by omega⟩
              case measure => simp [intOf]; omega
        · go_wp2_with fail
          go_ret
          exact ⟨⟨_, rfl⟩, rfl⟩

set_option maxHeartbeats 1000000 in
set_option maxRecDepth 100000 in
theorem bytes17 (a a1 : Option Addr) (n c m c1 : Nat) (ss : Nat → ByteArray) (la : Nat → Option Addr) (ln lc : Nat → Nat) (ms : Nat → Nat → ByteArray) (w : World) (hs : SlAt w a n fun j => .string (ss j)) (hL : Lists w a1 m la ln lc ms) (hb : ∀ j, (ss j).size ≤ maxLen) (hmb : ∀ k j, (ms k j).size ≤ maxLen) :
    Calls Try.prog 17 #[.slice a n c, .slice a1 m c1] w fun e w' => AnyBool e ∧ w' = w := by
  unfold maxLen at hb hmb
  have hn0 := hs.small
  have hm0 := hL.outer.small
  by_cases t1 : (1048576 : Int) < (n : Int)
  · go_enter Try.func17, Try.ntmps17
    go_wp2
    go_ret
    exact ⟨⟨_, rfl⟩, rfl⟩
  have t1' : decide ((1048576 : Int) < (n : Int)) = false := by simp; omega
  go_enter Try.func17, Try.ntmps17
  go_wp2_with fail
  go_loop [5, 6] (fun v vi => ∃ (k : Nat) (t : Int), k ≤ n ∧ vi = .int .i64 k ∧ v = .int .i64 t ∧ 0 ≤ t ∧ t ≤ 1048576) (fun _ vi => n - (intOf vi).toNat)
  case atStart => exact ⟨0, _, Nat.zero_le _, rfl, rfl, by omega, by omega⟩
  case round =>
    obtain ⟨k, t, hk, rfl, rfl, ht0, ht1⟩ := hrel
    by_cases hlt : k < n
    · obtain ⟨b1, o1, _, hix1, hc1⟩ := hs.elem22 hlt c
      have hsz := hb k
      by_cases h1 : (1048576 : Int) < ((ss k).size : Int)
      · go_wp2_with fail
        go_ret
        exact ⟨⟨_, rfl⟩, rfl⟩
      · by_cases h2 : (1048576 : Int) < t + ((ss k).size : Int)
        · go_wp2_with fail
          go_ret
          exact ⟨⟨_, rfl⟩, rfl⟩
        · go_wp2_with fail
          go_round
          case rel => exact ⟨k + 1, _, by omega, by go_num, rfl, by omega, by omega⟩
          case measure => simp [intOf]; omega
    · by_cases t2 : (1048576 : Int) < (m : Int)
      · go_wp2_with fail
        go_ret
        exact ⟨⟨_, rfl⟩, rfl⟩
      have t2' : decide ((1048576 : Int) < (m : Int)) = false := by simp; omega
      by_cases t3 : (1048576 : Int) < t + (m : Int)
      · go_wp2_with fail
        go_ret
        exact ⟨⟨_, rfl⟩, rfl⟩
      have t3' : decide ((1048576 : Int) < t + (m : Int)) = false := by simp; omega
      go_wp2_with fail
      go_loop [5, 7, 8] (fun v vi _ => ∃ (k : Nat) (t : Int), k ≤ m ∧ vi = .int .i64 k ∧ v = .int .i64 t ∧ 0 ≤ t ∧ t ≤ 1048576) (fun _ vi _ => m - (intOf vi).toNat)
      case atStart => exact ⟨0, _, Nat.zero_le _, rfl, rfl, by omega, by omega⟩
      case round =>
        obtain ⟨q, r, hq, rfl, rfl, hr0, hr1⟩ := hrel
        by_cases hlq : q < m
        · obtain ⟨b2, o2, _, hix2, hc2⟩ := hL.outer.elem23 hlq c1
          have hi := hL.inner q hlq
          have hi0 := hi.small
          by_cases h3 : (1048576 : Int) < (ln q : Int)
          · go_wp2_with fail
            go_ret
            exact ⟨⟨_, rfl⟩, rfl⟩
          by_cases h4 : (1048576 : Int) < r + (ln q : Int)
          · go_wp2_with fail
            go_ret
            exact ⟨⟨_, rfl⟩, rfl⟩
          have hlq' : decide ((q : Int) < (m : Int)) = true := by simp; omega
          have h3' : decide ((1048576 : Int) < (ln q : Int)) = false := by simp; omega
          have h4' : decide ((1048576 : Int) < r + (ln q : Int)) = false := by simp; omega
          go_wp2_with fail
          go_loop [5, 8] (fun v vi => ∃ (k : Nat) (t : Int), k ≤ ln q ∧ vi = .int .i64 k ∧ v = .int .i64 t ∧ 0 ≤ t ∧ t ≤ 1048576) (fun _ vi => ln q - (intOf vi).toNat)
          case atStart => exact ⟨0, _, Nat.zero_le _, rfl, rfl, by omega, by omega⟩
          case round =>
            obtain ⟨p, s, hp, rfl, rfl, hs0, hs1⟩ := hrel
            by_cases hlp : p < ln q
            · obtain ⟨b3, o3, _, hix3, hc3⟩ := hi.elem22 hlp (lc q)
              have hsz := hmb q p
              by_cases h5 : (1048576 : Int) < ((ms q p).size : Int)
              · go_wp2_with fail
                go_ret
                exact ⟨⟨_, rfl⟩, rfl⟩
              · by_cases h6 : (1048576 : Int) < s + ((ms q p).size : Int)
                · go_wp2_with fail
                  go_ret
                  exact ⟨⟨_, rfl⟩, rfl⟩
                · go_wp2_with fail
                  go_round
                  case rel => exact ⟨p + 1, _, by omega, by go_num, rfl, by omega, by omega⟩
                  case measure => simp [intOf]; omega
            · go_wp2_with fail
              go_round
              case rel => exact ⟨q + 1, _, by omega, by go_num, rfl, by omega, by omega⟩
              case measure => simp [intOf]; omega
        · go_wp2_with fail
          go_ret
          exact ⟨⟨_, rfl⟩, rfl⟩

end Go.Proofs.Qxb6605609a
