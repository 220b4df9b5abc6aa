/-
  THE WALK OF FnFreshnessWindowOfJoinedFleetIsMinOfParts, out of the contracts.
-/
import Derived.Test.Qxb6614063aFreshMaps
namespace Go.Proofs.Qxb6614063a
open Go.RowKit

theorem slice30_to (a : Option Addr) (n c k : Nat) (hk : k ≤ c) (w : World) : (Instr.slice 30 (.slice a n c) none (some (.int .i64 k)) none).run Try.prog w = .ok (.slice a k c) w := by
  have h1 : (0 : Int) ≤ (k : Int) := by omega
  have h2 : (k : Int) ≤ (c : Int) := by omega
  cases a with
  | none => go_simp
  | some x => go_simp

/-- zzB1Channels, its bounds as plain integers. -/
theorem channels14i (na wa : Option Addr) (n nc m mc lo hi : Nat) (l h : Int) (ss : Nat → ByteArray) (xs : Nat → Int) (w : World) (hl : l = lo) (hh : h = hi) (hn : SlAt w na n fun j => .string (ss j)) (hm : SlAt w wa m fun j => .int .i64 (xs j)) (hs : ∀ j, (ss j).size ≤ maxLen)
    (h1 : lo ≤ hi) (h2 : hi ≤ n) (h3 : hi ≤ m) (hd : ∀ i j, i < j → j < n → ss i ≠ ss j) :
    Calls Try.prog 14 #[.slice na n nc, .slice wa m mc, .int .i64 l, .int .i64 h] w fun e w' => e = .returned (.map (some w.heap.size)) ∧ (∃ D, w'.ownsMap Try.prog 9 chanElem w.heap.size n D ∧ Holds ss xs lo hi D) ∧ Below w.heap.size w w' := by
  subst hl hh
  exact channels14 na wa n nc m mc lo hi ss xs w hn hm hs h1 h2 h3 hd

/-- The law past its guards: lengths within 4096, one length, the cut inside; every window at least 0. -/
theorem law5_core (na wa : Option Addr) (n nc mc c : Nat) (ss : Nat → ByteArray) (xs : Nat → Int) (w : World) (hn : SlAt w na n fun j => .string (ss j)) (hm : SlAt w wa n fun j => .int .i64 (xs j)) (hs : ∀ j, (ss j).size ≤ maxLen) (hmc : n ≤ mc)
    (h1 : n ≤ 4096) (hc : c ≤ n) :
    Calls Try.prog 5 #[.slice na n nc, .slice wa n mc, .int .i64 c] w fun e w' => e = .returned (.bool true) ∧ Below w.heap.size w w' := by
  have hn0 := hn.small
  have hsl := slice30_to wa n mc c (by omega)
  have hd1 : decide ((4096 : Int) < (n : Int)) = false := by simp; omega
  have hd2 : decide ((c : Int) < 0) = false := by simp
  have hd3 : decide ((n : Int) < (c : Int)) = false := by simp; omega
  go_enter Try.func5, Try.ntmps5
  go_wp2_with fail
  refine (bytes10 na wa n nc n mc c ss _ hn hm.small hs).mono ?_
  rintro e w' ⟨⟨b, rfl⟩, rfl⟩
  cases b with
  | false =>
    go_wp2
    go_ret
    exact ⟨rfl, Below.refl _ _⟩
  | true =>
  go_wp2_with fail
  refine (namesBytes na wa n nc n mc ss _ hn hm.small).mono ?_
  rintro e w' ⟨⟨t, rfl⟩, rfl⟩
  by_cases ht : 1048576 < t
  · go_wp2
    go_ret
    exact ⟨rfl, Below.refl _ _⟩
  have hd4 : decide ((1048576 : Int) < t) = false := by simp; omega
  go_wp2_with fail
  go_loop [6, 7] (fun r i => r = .bool false ∧ ∃ k : Nat, k ≤ n ∧ i = .int .i64 k ∧ ∀ j, j < k → 0 ≤ xs j) (fun _ i => n - (intOf i).toNat)
  case atStart => exact ⟨rfl, 0, Nat.zero_le _, rfl, fun j h => absurd h (Nat.not_lt_zero _)⟩
  case round =>
    obtain ⟨rfl, k, hk, rfl, hxs⟩ := hrel
    have Hxs : Hid (∀ j, j < k → 0 ≤ xs j) := hxs
    clear hxs
    by_cases hlt : k < n
    · obtain ⟨b2, o2, hb2, hix2, hc2⟩ := hm.elem30 hlt mc
      by_cases hx : xs k < 0
      · go_wp2
        go_ret
        exact ⟨rfl, Below.refl _ _⟩
      · go_wp2
        go_round
        case rel =>
          refine ⟨rfl, k + 1, by omega, by go_num, fun j hj => ?_⟩
          by_cases e : j = k
          · subst e; omega
          · exact Hxs.out j (by omega)
        case measure => simp [intOf]; omega
    · have hx0 : ∀ j, j < n → 0 ≤ xs j := fun j hj => Hxs.out j (by omega)
      have Hx0 : Hid (∀ j, j < n → 0 ≤ xs j) := hx0
      clear hx0
      go_wp2_with fail
      refine (distinct12 na n nc ss _ hn).mono ?_
      rintro e w1 ⟨⟨b, rfl, hd⟩, hB1⟩
      cases b with
      | false =>
        go_wp2
        go_ret
        exact ⟨rfl, hB1⟩
      | true =>
      have Hd : Hid (∀ i j, i < j → j < n → ss i ≠ ss j) := hd rfl
      clear hd
      have hn1 := hn.below hB1
      have hm1 := hm.below hB1
      -- the whole
      go_wp2_with fail
      refine (channels14i na wa n nc n mc 0 n _ _ ss xs _ rfl rfl hn1 hm1 hs (by omega) (by omega) (by omega) Hd.out).mono ?_
      rintro e w2 ⟨rfl, ⟨D2, ho2, hD2⟩, hB2'⟩
      have hB2 := hB1.trans (hB2'.mono hB1.size)
      have hn2 := hn.below hB2
      have hm2 := hm.below hB2
      go_wp2_with fail
      refine (fleet13 _ n 0 n ss xs D2 _ ho2 hD2 Hx0.out).mono ?_
      rintro e w3 ⟨⟨z, rfl, hz⟩, hB3'⟩
      have hB3 := hB2.trans (hB3'.mono hB2.size)
      have Hz : Hid (IsWin xs 0 n z) := hz
      clear hz hB2' hB3' hD2 ho2
      have hn3 := hn.below hB3
      have hm3 := hm.below hB3
      -- the left part
      go_wp2_with fail
      refine (channels14i na wa n nc n mc 0 c _ _ ss xs _ rfl rfl hn3 hm3 hs (by omega) (by omega) (by omega) Hd.out).mono ?_
      rintro e w4 ⟨rfl, ⟨D4, ho4, hD4⟩, hB4'⟩
      have hB4 := hB3.trans (hB4'.mono hB3.size)
      go_wp2_with fail
      refine (fleet13 _ n 0 c ss xs D4 _ ho4 hD4 (fun j hj => Hx0.out j (by omega))).mono ?_
      rintro e w5 ⟨⟨zl, rfl, hz⟩, hB5'⟩
      have hB5 := hB4.trans (hB5'.mono hB4.size)
      have Hzl : Hid (IsWin xs 0 c zl) := hz
      clear hz hB4' hB5' hD4 ho4
      have hn5 := hn.below hB5
      have hm5 := hm.below hB5
      -- the right part
      go_wp2_with fail
      refine (channels14i na wa n nc n mc c n _ _ ss xs _ rfl rfl hn5 hm5 hs (by omega) (by omega) (by omega) Hd.out).mono ?_
      rintro e w6 ⟨rfl, ⟨D6, ho6, hD6⟩, hB6'⟩
      have hB6 := hB5.trans (hB6'.mono hB5.size)
      go_wp2_with fail
      refine (fleet13 _ n c n ss xs D6 _ ho6 hD6 Hx0.out).mono ?_
      rintro e w7 ⟨⟨zr, rfl, hz⟩, hB7'⟩
      have hB7 := hB6.trans (hB7'.mono hB6.size)
      have Hzr : Hid (IsWin xs c n zr) := hz
      clear hz hB6' hB7' hD6 ho6
      have hm7 := hm.below hB7
      have hm7c := hm7.take hc
      -- the answer
      have hjb : (z == (if zr < zl then zr else zl)) = true := beq_iff_eq.2 (IsWin.join (Nat.zero_le _) hc Hzl.out Hzr.out Hz.out)
      go_wp2_with fail
      refine (windowOf15 wa n mc xs _ hm7 Hx0.out).mono ?_
      rintro e w8 ⟨⟨y, rfl, hy⟩, rfl⟩
      obtain rfl := hy.unique Hz.out
      clear hy
      go_wp2_with fail
      refine (windowOf15 wa c mc xs _ hm7c (fun j hj => Hx0.out j (by omega))).mono ?_
      rintro e w9 ⟨⟨yl, rfl, hy⟩, rfl⟩
      obtain rfl := hy.unique Hzl.out
      clear hy
      go_wp2
      all_goals (go_ret; exact ⟨rfl, hB7⟩)

theorem law5 (na wa : Option Addr) (n nc m mc : Nat) (cut : Int) (ss : Nat → ByteArray) (xs : Nat → Int) (w : World) (hn : SlAt w na n fun j => .string (ss j)) (hm : SlAt w wa m fun j => .int .i64 (xs j)) (hs : ∀ j, (ss j).size ≤ maxLen) (hmc : m ≤ mc) :
    Calls Try.prog 5 #[.slice na n nc, .slice wa m mc, .int .i64 cut] w fun e w' => e = .returned (.bool true) ∧ Below w.heap.size w w' := by
  by_cases hall : n ≤ 4096 ∧ m = n ∧ 0 ≤ cut ∧ cut ≤ n
  · obtain ⟨h1, rfl, h3, h4⟩ := hall
    obtain ⟨c, rfl⟩ := Int.eq_ofNat_of_zero_le h3
    exact law5_core na wa m nc mc c ss xs w hn hm hs hmc h1 (by omega)
  · go_enter Try.func5, Try.ntmps5
    go_wp2_with fail
    refine (bytes10 na wa n nc m mc cut ss _ hn hm.small hs).mono ?_
    rintro e w' ⟨⟨b, rfl⟩, rfl⟩
    cases b with
    | false =>
      go_wp2
      go_ret
      exact ⟨rfl, Below.refl _ _⟩
    | true =>
    go_wp2_with fail
    refine (namesBytes na wa n nc m mc ss _ hn hm.small).mono ?_
    rintro e w' ⟨⟨t, rfl⟩, rfl⟩
    have hn0 := hn.small
    have hm0 := hm.small
    have Hall : Hid (¬ (n ≤ 4096 ∧ m = n ∧ 0 ≤ cut ∧ cut ≤ n)) := hall
    clear hall
    by_cases ht : 1048576 < t
    · go_wp2
      go_ret
      exact ⟨rfl, Below.refl _ _⟩
    by_cases h1 : (4096 : Int) < (n : Int)
    · go_wp2
      go_ret
      exact ⟨rfl, Below.refl _ _⟩
    by_cases h2 : (4096 : Int) < (m : Int)
    · go_wp2
      go_ret
      exact ⟨rfl, Below.refl _ _⟩
    by_cases h3 : m = n
    · subst h3
      by_cases h4 : cut < 0
      · go_wp2
        go_ret
        exact ⟨rfl, Below.refl _ _⟩
      · have h5 : (m : Int) < cut := by
          have := Hall.out
          omega
        go_wp2
        go_ret
        exact ⟨rfl, Below.refl _ _⟩
    · have h3' : ((m : Int) != (n : Int)) = true := by rw [bne_iff_ne]; omega
      go_wp2
      go_ret
      exact ⟨rfl, Below.refl _ _⟩

end Go.Proofs.Qxb6614063a
