/-
  THE WALK OF FnFreshnessWindowMonotoneInOneChannel, out of the contracts.
-/
import Derived.Test.Qxb6614063aFreshLaw1
import Derived.Deep.OwnRows
namespace Go.Proofs.Qxb6614063a
open Go.RowKit

theorem info3 : (Try.prog.info? 3).map (fun i => (i.zero, i.size, i.bytes)) = some (some (.int .i64 0), 1, 8) := by kernel_rfl

theorem slAt_row {w : World} {b : Nat} {t : TypeId} {n : Nat} {f : Nat → Value} (h : w.rowIs b t n f) (hn : n < 4611686018427387904) : SlAt w (some ⟨b, 0, none⟩) n f :=
  ⟨hn, fun _ => ⟨b, 0, rfl, h.lt, fun j hj => by rw [Nat.zero_add]; exact h.cell hj⟩⟩

/-- The law past its guards. -/
theorem law6_core (na wa : Option Addr) (n nc mc c : Nat) (v : Int) (ss : Nat → ByteArray) (xs : Nat → Int) (w : World) (hn : SlAt w na n fun j => .string (ss j)) (hm : SlAt w wa n fun j => .int .i64 (xs j)) (hs : ∀ j, (ss j).size ≤ maxLen)
    (h1 : n ≤ 4096) (hc : c < n) (hv : 0 ≤ v) :
    Calls Try.prog 6 #[.slice na n nc, .slice wa n mc, .int .i64 c, .int .i64 v] w fun e w' => e = .returned (.bool true) ∧ Below w.heap.size w w' := by
  have hn0 := hn.small
  have hd1 : decide ((4096 : Int) < (n : Int)) = false := by simp; omega
  have hd2 : decide ((c : Int) < 0) = false := by simp
  have hd3 : decide ((n : Int) ≤ (c : Int)) = false := by simp; omega
  have hd5 : decide (v < 0) = false := by simp; omega
  have hmk := run_make_row' (P := Try.prog) 30 3 (.int .i64 0) 8 Try.underlying30 info3 rfl .i64 .i64 n (by omega) (by omega)
  go_enter Try.func6, Try.ntmps6
  go_wp2_with fail
  refine (bytes16 na wa n nc n mc c v ss _ hn hm.small hs).mono ?_
  rintro e w' ⟨⟨b, rfl⟩, rfl⟩
  cases b with
  | false =>
    go_wp2
    go_ret
    exact ⟨rfl, Below.refl _ _⟩
  | true =>
  go_wp2_with fail
  refine (namesBytes na wa n nc n mc ss _ hn hm.small).mono ?_
  rintro e w' ⟨⟨t, rfl⟩, rfl⟩
  by_cases ht : 1048576 < t
  · go_wp2
    go_ret
    exact ⟨rfl, Below.refl _ _⟩
  have hd4 : decide ((1048576 : Int) < t) = false := by simp; omega
  go_wp2_with fail
  go_loop [8, 9] (fun r i => r = .bool false ∧ ∃ k : Nat, k ≤ n ∧ i = .int .i64 k ∧ ∀ j, j < k → 0 ≤ xs j) (fun _ i => n - (intOf i).toNat)
  case atStart => exact ⟨rfl, 0, Nat.zero_le _, rfl, fun j h => absurd h (Nat.not_lt_zero _)⟩
  case round =>
    obtain ⟨rfl, k, hk, rfl, hxs⟩ := hrel
    have Hxs : Hid (∀ j, j < k → 0 ≤ xs j) := hxs
    clear hxs
    by_cases hlt : k < n
    · obtain ⟨b2, o2, hb2, hix2, hc2⟩ := hm.elem30 hlt mc
      by_cases hx : xs k < 0
      · go_wp2
        go_ret
        exact ⟨rfl, Below.refl _ _⟩
      · go_wp2
        go_round
        case rel =>
          refine ⟨rfl, k + 1, by omega, by go_num, fun j hj => ?_⟩
          by_cases e : j = k
          · subst e; omega
          · exact Hxs.out j (by omega)
        case measure => simp [intOf]; omega
    · have hx0 : ∀ j, j < n → 0 ≤ xs j := fun j hj => Hxs.out j (by omega)
      have Hx0 : Hid (∀ j, j < n → 0 ≤ xs j) := hx0
      clear hx0
      go_wp2_with fail
      refine (distinct12 na n nc ss _ hn).mono ?_
      rintro e w1 ⟨⟨b, rfl, hd⟩, hB1⟩
      cases b with
      | false =>
        go_wp2
        go_ret
        exact ⟨rfl, hB1⟩
      | true =>
      have Hd : Hid (∀ i j, i < j → j < n → ss i ≠ ss j) := hd rfl
      clear hd
      have hn1 := hn.below hB1
      have hm1 := hm.below hB1
      go_wp2_with fail
      go_loopw [11] (fun i wr => ∃ q : Nat, q ≤ n ∧ i = .int .i64 q ∧ wr.rowIs w1.heap.size 3 n (fun p => .int .i64 (if p < q then xs p else 0)) ∧ Below w1.heap.size w1 wr) (fun i _ => n - (intOf i).toNat)
      case atStart => exact ⟨0, Nat.zero_le _, rfl, (World.rowIs_made _ _ _ _).congr (fun p _ => by simp), (Below.refl _ _).alloc (Nat.le_refl _) _⟩
      case round =>
        obtain ⟨q, hq, rfl, hrow, hbl⟩ := hrel
        by_cases hlq : q < n
        · obtain ⟨b2, o2, hb2, hix2, hc2'⟩ := hm1.elem30 hlq mc
          have hc2 : wr.cell? ⟨b2, o2, none⟩ = some (.int .i64 (xs q)) := (hbl.cell (p := ⟨b2, o2, none⟩) hb2).trans hc2'
          have hcq := hrow.cell hlq
          have hfq := hrow.frozen q
          have hrow' := (hrow.set q (.int .i64 (xs q))).congr (g := fun p => .int .i64 (if p < q + 1 then xs p else 0)) (fun p _ => by
            by_cases e : p = q
            · subst e; simp
            · by_cases e2 : p < q
              · simp [e, e2, show p < q + 1 by omega]
              · simp [e, e2, show ¬ p < q + 1 by omega])
          have hbl' := hbl.setCell (p := ⟨w1.heap.size, q, none⟩) (Nat.le_refl _) (.int .i64 (xs q))
          go_wp2
          go_roundw
          case rel => exact ⟨q + 1, by omega, by go_num, hrow', hbl'⟩
          case measure => simp [intOf]; omega
        · have hrow2 : wr.rowIs w1.heap.size 3 n (fun p => .int .i64 (xs p)) := hrow.congr (fun p hp => by simp [show p < q by omega])
          clear hrow
          have hcc := hrow2.cell hc
          have hfc := hrow2.frozen c
          have hrow3 := (hrow2.set c (.int .i64 v)).congr (g := fun p => .int .i64 (if p = c then v else xs p)) (fun p _ => by split <;> rfl)
          have hbl3 := hbl.setCell (p := ⟨w1.heap.size, c, none⟩) (Nat.le_refl _) (.int .i64 v)
          have hB2 := hB1.trans (hbl3.mono hB1.size)
          have hya := slAt_row (f := fun p => .int .i64 ((fun p => if p = c then v else xs p) p)) hrow3 (by omega)
          have hY0 : ∀ j, j < n → 0 ≤ (fun p => if p = c then v else xs p) j := fun j hj => by
            have := Hx0.out j hj
            dsimp only
            split <;> omega
          have HY0 : Hid (∀ j, j < n → 0 ≤ (fun p => if p = c then v else xs p) j) := hY0
          clear hY0
          have Hys : Hid (∀ p, (fun p => if p = c then v else xs p) p = if p = c then v else xs p) := fun _ => rfl
          generalize (fun p => if p = c then v else xs p) = ys at hya HY0 Hys
          have hn2 := hn.below hB2
          have hm2 := hm.below hB2
          clear hrow2 hrow3 hmk
          go_wp2_with fail
          clear hcc hfc hbl3 hbl
          generalize wr.setCell ⟨w1.heap.size, c, none⟩ (.int .i64 v) = W2 at hB2 hya hn2 hm2 ⊢
          refine (channels14i na wa n nc n mc 0 n _ _ ss xs _ rfl rfl hn2 hm2 hs (by omega) (by omega) (by omega) Hd.out).mono ?_
          rintro e w3 ⟨rfl, ⟨D3, ho3, hD3⟩, hB3'⟩
          have hB3 := hB2.trans (hB3'.mono hB2.size)
          have hya3 := hya.below hB3'
          go_wp2_with fail
          refine (fleet13 _ n 0 n ss xs D3 _ ho3 hD3 Hx0.out).mono ?_
          rintro e w4 ⟨⟨zb, rfl, hz⟩, hB4'⟩
          have hB4 := hB3.trans (hB4'.mono hB3.size)
          have Hzb : Hid (IsWin xs 0 n zb) := hz
          have hya4 := hya3.below hB4'
          clear hz hB3' hB4' hD3 ho3 hya hya3
          have hn4 := hn.below hB4
          go_wp2_with fail
          refine (channels14i na _ n nc n n 0 n _ _ ss ys _ rfl rfl hn4 hya4 hs (by omega) (by omega) (by omega) Hd.out).mono ?_
          rintro e w5 ⟨rfl, ⟨D5, ho5, hD5⟩, hB5'⟩
          have hB5 := hB4.trans (hB5'.mono hB4.size)
          have hya5 := hya4.below hB5'
          go_wp2_with fail
          refine (fleet13 _ n 0 n ss ys D5 _ ho5 hD5 HY0.out).mono ?_
          rintro e w6 ⟨⟨za, rfl, hz⟩, hB6'⟩
          have hB6 := hB5.trans (hB6'.mono hB5.size)
          have Hza : Hid (IsWin ys 0 n za) := hz
          have hya6 := hya5.below hB6'
          clear hz hB5' hB6' hD5 ho5 hya4 hya5
          have hm6 := hm.below hB6
          obtain ⟨b7, o7, _, hix7, hc7⟩ := hm6.elem30 hc mc
          go_wp2_with fail
          refine (windowOf15 wa n mc xs _ hm6 Hx0.out).mono ?_
          rintro e w8 ⟨⟨y, rfl, hy⟩, rfl⟩
          obtain rfl := hy.unique Hzb.out
          clear hy
          go_wp2_with fail
          refine (windowOf15 _ n n ys _ hya6 HY0.out).mono ?_
          rintro e w9 ⟨⟨yl, rfl, hy⟩, rfl⟩
          obtain rfl := hy.unique Hza.out
          clear hy
          by_cases hvx : xs c ≤ v
          · have hle : y ≤ yl := IsWin.mono (fun j _ hj => Hx0.out j hj) (fun j _ hj => by
              rw [Hys.out j]
              split
              · rename_i e; subst e; exact hvx
              · exact Int.le_refl _) Hzb.out Hza.out
            go_wp2
            all_goals (go_ret; exact ⟨rfl, hB6⟩)
          · have hle : yl ≤ y := IsWin.mono (fun j _ hj => HY0.out j hj) (fun j _ hj => by
              rw [Hys.out j]
              split
              · rename_i e; subst e; omega
              · exact Int.le_refl _) Hza.out Hzb.out
            go_wp2
            all_goals (go_ret; exact ⟨rfl, hB6⟩)

theorem law6 (na wa : Option Addr) (n nc m mc : Nat) (j v : Int) (ss : Nat → ByteArray) (xs : Nat → Int) (w : World) (hn : SlAt w na n fun j => .string (ss j)) (hm : SlAt w wa m fun j => .int .i64 (xs j)) (hs : ∀ j, (ss j).size ≤ maxLen) :
    Calls Try.prog 6 #[.slice na n nc, .slice wa m mc, .int .i64 j, .int .i64 v] w fun e w' => e = .returned (.bool true) ∧ Below w.heap.size w w' := by
  by_cases hall : n ≤ 4096 ∧ m = n ∧ 0 ≤ j ∧ j < n ∧ 0 ≤ v
  · obtain ⟨h1, rfl, h3, h4, h5⟩ := hall
    obtain ⟨c, rfl⟩ := Int.eq_ofNat_of_zero_le h3
    exact law6_core na wa m nc mc c v ss xs w hn hm hs h1 (by omega) h5
  · go_enter Try.func6, Try.ntmps6
    go_wp2_with fail
    refine (bytes16 na wa n nc m mc j v ss _ hn hm.small hs).mono ?_
    rintro e w' ⟨⟨b, rfl⟩, rfl⟩
    cases b with
    | false =>
      go_wp2
      go_ret
      exact ⟨rfl, Below.refl _ _⟩
    | true =>
    go_wp2_with fail
    refine (namesBytes na wa n nc m mc ss _ hn hm.small).mono ?_
    rintro e w' ⟨⟨t, rfl⟩, rfl⟩
    have hn0 := hn.small
    have hm0 := hm.small
    have Hall : Hid (¬ (n ≤ 4096 ∧ m = n ∧ 0 ≤ j ∧ j < n ∧ 0 ≤ v)) := hall
    clear hall
    by_cases ht : 1048576 < t
    · go_wp2
      go_ret
      exact ⟨rfl, Below.refl _ _⟩
    by_cases h1 : (4096 : Int) < (n : Int)
    · go_wp2
      go_ret
      exact ⟨rfl, Below.refl _ _⟩
    by_cases h2 : (4096 : Int) < (m : Int)
    · go_wp2
      go_ret
      exact ⟨rfl, Below.refl _ _⟩
    by_cases h3 : m = n
    · subst h3
      by_cases h4 : j < 0
      · go_wp2
        go_ret
        exact ⟨rfl, Below.refl _ _⟩
      by_cases h6 : (m : Int) ≤ j
      · go_wp2
        go_ret
        exact ⟨rfl, Below.refl _ _⟩
      · have h5 : v < 0 := by
          have := Hall.out
          omega
        go_wp2
        go_ret
        exact ⟨rfl, Below.refl _ _⟩
    · have h3' : ((m : Int) != (n : Int)) = true := by rw [bne_iff_ne]; omega
      go_wp2
      go_ret
      exact ⟨rfl, Below.refl _ _⟩

end Go.Proofs.Qxb6614063a
