/-
  THE WALK OF FnRolloutProofFindsExactlyItsEntries.
-/
import Derived.Test.Qxb6614063aFind
namespace Go.Proofs.Qxb6614063a
open Go.RowKit

theorem below2 (w : World) (a b : Obj) : Below w.heap.size w ((w.alloc a).alloc b) := ((Below.refl _ _).alloc (Nat.le_refl _) a).alloc (by simp) b

set_option maxRecDepth 100000 in
set_option maxHeartbeats 2000000 in
theorem law8_core (ch id q : ByteArray) (ma sa ha ca xa la0 : Option Addr) (mn mc sn sc n hc cc xc m lc0 : Nat) (mb sb : Nat → Int) (ss cs : Nat → ByteArray) (xs : Nat → Int) (la : Nat → Option Addr) (ln lc : Nat → Nat) (bs : Nat → Nat → Nat → Int) (w : World)
    (hma : SlAt w ma mn fun j => .int .u8 (mb j)) (hsa : SlAt w sa sn fun j => .int .u8 (sb j)) (hmn : mn < 140737488355328) (hsn : sn < 140737488355328)
    (hss : SlAt w ha n fun j => .string (ss j)) (hcs : SlAt w ca n fun j => .string (cs j)) (hxs : SlAt w xa n fun j => .int .i64 (xs j)) (hL : LevAt w la0 m la ln lc bs) (hsb : ∀ j, (ss j).size ≤ maxLen) (hcb : ∀ j, (cs j).size ≤ maxLen)
    (hn : n ≤ 4096) (hm : m ≤ 64) :
    Calls Try.prog 8 #[.string ch, .string id, .slice ma mn mc, .slice sa sn sc, .slice ha n hc, .slice ca n cc, .slice xa n xc, .slice la0 m lc0, .string q] w fun e w' => e = .returned (.bool true) ∧ Below w.heap.size w w' := by
  have hd1 : decide ((4096 : Int) < (n : Int)) = false := by simp; omega
  have hd2 : decide ((64 : Int) < (m : Int)) = false := by simp; omega
  have hmk1 := makeBytes mn hmn
  have hmk2 := makeBytes sn hsn
  have hnil := fun (w : World) (a : Option Addr) (n c : Nat) => run_neq_slice_nil_any (P := Try.prog) w 40 5 a n c 0 0 Try.underlying40
  go_enter Try.func8, Try.ntmps8
  go_wp2_with fail
  refine (bytes26 ch id q ma sa ha ca xa la0 mn mc sn sc n hc n cc n xc m lc0 ss cs la ln lc bs _ hss hcs hL hsb hcb).mono ?_
  rintro e w' ⟨⟨b, rfl⟩, rfl⟩
  cases b with
  | false =>
    go_wp2
    go_ret
    exact ⟨rfl, Below.refl _ _⟩
  | true =>
  go_wp2_with fail
  refine (rolloutBytes18 ch id q ma sa ha ca xa la0 mn mc sn sc n hc n cc n xc m lc0 ss cs la ln lc bs _ hss hcs hL).mono ?_
  rintro e w' ⟨⟨t, rfl⟩, rfl⟩
  by_cases ht : 1048576 < t
  · go_wp2
    go_ret
    exact ⟨rfl, Below.refl _ _⟩
  have hd4 : decide ((1048576 : Int) < t) = false := by simp; omega
  obtain ⟨w2, hcp, hB2⟩ := copyBytes ma mn mc mb _ hma
  obtain ⟨w3, hcp3, hB3'⟩ := copyBytes sa sn sc sb _ (hsa.below hB2)
  obtain ⟨w4, hcp4, hB4⟩ := copyBytes sa sn sc sb _ hsa
  have hB3 := hB2.trans (hB3'.mono hB2.size)
  have hB0 := Below.refl w'.heap.size w'
  clear hB3'
  cases ma <;> cases sa
  case' none.none => have hBW := hB0
  case' none.some => have hBW := hB4
  case' some.none => have hBW := hB2
  case' some.some => have hBW := hB3
  all_goals
    have hss1 := hss.below hBW
    have hcs1 := hcs.below hBW
    have hxs1 := hxs.below hBW
    have hL1 := hL.below hBW
    go_wp2_with fail
    clear hB0 hB2 hB3 hB4 hcp hcp3 hcp4 hmk1 hmk2 hnil
    refine (ascending19 ha n hc ss _ hss1).mono ?_
    rintro e w5 ⟨⟨b, rfl, hasc⟩, hB5'⟩
    have hB5 := hBW.trans (hB5'.mono hBW.size)
    have hL5 := hL1.below hB5'
    cases b with
    | false =>
      go_wp2
      go_ret
      exact ⟨rfl, hB5⟩
    | true =>
    have Hasc : Hid (Asc ss n) := hasc rfl
    clear hasc
    go_wp2_with fail
    refine (treeShaped20 la0 n m lc0 la ln lc bs _ hn hL5).mono ?_
    rintro e w6 ⟨⟨b, rfl, htree⟩, hB6'⟩
    have hB6 := hB5.trans (hB6'.mono hB5.size)
    cases b with
    | false =>
      go_wp2
      go_ret
      exact ⟨rfl, hB6⟩
    | true =>
    have HT : Hid (TreeOk n m ln) := htree rfl
    clear htree
    have hss6 := hss.below hB6
    have hcs6 := hcs.below hB6
    have hxs6 := hxs.below hB6
    go_wp2_with fail
    refine (entries22 ha ca xa n hc cc xc ss cs xs _ hn hss6 hcs6 hxs6).mono ?_
    rintro e w7 ⟨rfl, hE7, hB7'⟩
    have hB7 := hB6.trans (hB7'.mono hB6.size)
    go_wp2_with fail
    refine (derived21 _ _ _ _ _ _ _ _ _ _ _ _ _ _ _).mono ?_
    rintro e w8 ⟨rfl, ht0, ht1, htl, hB8'⟩
    have hB8 := hB7.trans (hB8'.mono hB7.size)
    have hE8 := hE7.below hB8'
    have hL8 := hL.below hB8
    clear hss1 hcs1 hxs1 hL1 hL5 hss6 hcs6 hxs6 hE7
    have hmT := HT.out.m1
    go_wp2_with fail
    refine (proof23_some _ _ _ _ _ _ _ _ (w7.heap.size + 1) w6.heap.size n m la0 lc0 la ln lc bs ss cs xs q _ ?_ ?_ HT.out hn hm Hasc.out ?_ ?_).mono ?_
    · exact hE8.below (below2 _ _ _)
    · exact hL8.below (below2 _ _ _)
    · exact cellOld _ (cellOld _ ht0)
    · exact cellOld _ (cellOld _ ht1)
    rintro e w10 ⟨hres, hB10'⟩
    have hB10 := (hB8.trans ((below2 _ _ _).mono hB8.size)).trans (hB10'.mono (Nat.le_trans hB8.size (below2 _ _ _).size))
    have r0 := hB10'.cell (p := ⟨w8.heap.size + 1, 0, none⟩) (by simp)
    have r1 := hB10'.cell (p := ⟨w8.heap.size + 1, 1, none⟩) (by simp)
    have r2 := hB10'.cell (p := ⟨w8.heap.size + 1, 2, none⟩) (by simp)
    have r3 := hB10'.cell (p := ⟨w8.heap.size + 1, 3, none⟩) (by simp)
    have r4 := hB10'.cell (p := ⟨w8.heap.size + 1, 4, none⟩) (by simp)
    simp [go_sem] at r0 r1 r2 r3 r4
    have hss10 := hss.below hB10
    clear hE8 hL8 ht0 ht1
    rcases hres with ⟨rfl, hno⟩ | ⟨i, pb, pa, pc, rfl, hi, hq, hpb, p0, p1, p2, p3, p4, p5⟩
    · have Hno : Hid (∀ k, k < n → ss k ≠ q) := hno
      clear hno
      go_wp2_with fail
      refine (proof23_nil _ _ _ _ _ _ _ _ _ _).mono ?_
      rintro e w11 ⟨rfl, hB11'⟩
      have hB11 := hB10.trans (hB11'.mono hB10.size)
      have hss11 := hss.below hB11
      clear r0 r1 r2 r3 r4 hss10
      go_wp2_with fail
      go_loop [28, 29] (fun a i => a = .int .i64 (-1) ∧ ∃ k : Nat, k ≤ n ∧ i = .int .i64 k) (fun _ i => n - (intOf i).toNat)
      case atStart => exact ⟨rfl, 0, Nat.zero_le _, rfl⟩
      case round =>
        obtain ⟨rfl, k, hk, rfl⟩ := hrel
        by_cases hlt : k < n
        · obtain ⟨b1, o1, _, hix, hcell⟩ := hss11.elem29 hlt hc
          have hne : ((ss k).toList == q.toList) = false := by
            rw [beq_eq_false_iff_ne]
            intro e
            rw [ByteArray.toList_eq, ByteArray.toList_eq] at e
            exact Hno.out k hlt (WideShapes.bytes_inj e)
          go_wp2
          go_round
          case rel => exact ⟨rfl, k + 1, by omega, by go_num⟩
          case measure => simp [intOf]; omega
        · go_wp2
          go_ret
          exact ⟨rfl, hB11⟩
    · subst hq
      have hplt := World.block_lt_of_cell? _ _ p0
      go_wp2_with fail
      refine (proof23_nil _ _ _ _ _ _ _ _ _ _).mono ?_
      rintro e w11 ⟨rfl, hB11'⟩
      have hB11 := hB10.trans (hB11'.mono hB10.size)
      have hss11 := hss.below hB11
      have hcs11 := hcs.below hB11
      have hxs11 := hxs.below hB11
      have q0 := (hB11'.cell (p := ⟨pb, 0, none⟩) hplt).trans p0
      have q1 := (hB11'.cell (p := ⟨pb, 1, none⟩) hplt).trans p1
      have q2 := (hB11'.cell (p := ⟨pb, 2, none⟩) hplt).trans p2
      have q3 := (hB11'.cell (p := ⟨pb, 3, none⟩) hplt).trans p3
      have q4 := (hB11'.cell (p := ⟨pb, 4, none⟩) hplt).trans p4
      have hpl := pathTo_length ln bs i (m - 1)
      clear r0 r1 r2 r3 r4 hss10 p0 p1 p2 p3 p4 p5
      generalize (pathTo ln bs i (m - 1)).length = L at q4 hpl
      have hL1 : (L : Int) ≤ (m : Int) - 1 := by omega
      clear hpl
      go_wp2_with fail
      go_loop [28, 29] (fun a v => ∃ k : Nat, k ≤ n ∧ v = .int .i64 k ∧ Hid (a = .int .i64 (if i < k then (i : Int) else -1))) (fun _ i => n - (intOf i).toNat)
      case atStart => exact ⟨0, Nat.zero_le _, rfl, show _ = _ by rw [if_neg (by omega)]⟩
      case round =>
        obtain ⟨k, hk, rfl, Hat⟩ := hrel
        by_cases hlt : k < n
        · obtain ⟨b1, o1, _, hix, hcell⟩ := hss11.elem29 hlt hc
          by_cases hki : k = i
          · subst hki
            have hne : ((ss k).toList == (ss k).toList) = true := by simp
            go_wp2
            go_round
            case rel => exact ⟨k + 1, by omega, by go_num, show _ = _ by rw [if_pos (by omega)]⟩
            case measure => simp [intOf]; omega
          · have hne : ((ss k).toList == (ss i).toList) = false := by
              rw [beq_eq_false_iff_ne]
              intro e
              rw [ByteArray.toList_eq, ByteArray.toList_eq] at e
              exact hki (Hasc.out.ne hlt hi (WideShapes.bytes_inj e))
            go_wp2
            go_round
            case rel =>
              refine ⟨k + 1, by omega, by go_num, ?_⟩
              show _ = _
              rw [Hat.out]
              by_cases h1 : i < k
              · rw [if_pos h1, if_pos (by omega)]
              · rw [if_neg h1, if_neg (by omega)]
            case measure => simp [intOf]; omega
        · obtain ⟨b1, o1, _, hix1, hc1⟩ := hcs11.elem29 hi cc
          obtain ⟨b2, o2, _, hix2, hc2⟩ := hxs11.elem30 hi xc
          have hat := Hat.out
          rw [if_pos (by omega)] at hat
          subst hat
          clear Hat
          have hL2 : decide ((L : Int) ≤ (m : Int) - 1) = true := by simp; omega
          have hsm := hL.outer.small
          go_wp2_with fail
          go_quiet (fail)
          go_wp2
          go_ret
          exact ⟨rfl, below_drewN hB11 _⟩

end Go.Proofs.Qxb6614063a
