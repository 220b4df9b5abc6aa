/-
  heap.down; heap.Push; heap.Pop.
-/
import Derived.Test.Qxb6605609aHeapI
namespace Go.Proofs.Qxb6605609a
open Go.RowKit

/-- The lesser of i's children. -/
def kid (l : List Nat) (n i : Nat) : Nat := if 2 * i + 2 < n ∧ l.getD (2 * i + 2) 0 < l.getD (2 * i + 1) 0 then 2 * i + 2 else 2 * i + 1
theorem kid_gt (l : List Nat) (n i : Nat) : i < kid l n i := by unfold kid; split <;> omega

/-- What heap.down makes of a list: its element i is let down among the first n. -/
def downL (l : List Nat) (n i : Nat) : List Nat := if n ≤ 2 * i + 1 then l else if l.getD (kid l n i) 0 < l.getD i 0 then downL (swp l i (kid l n i)) n (kid l n i) else l
termination_by n - i
decreasing_by have := kid_gt l n i; omega

theorem less105' (lo : Nat) (v : Value) (l : List Nat) (i j : Nat) (w : World) (h : IL w lo v l) (hi : i < l.length) (hj : j < l.length) {x y : Int} (hx : x = i) (hy : y = j) :
    Calls Try.prog 105 #[v, .int .i64 x, .int .i64 y] w fun e w' => e = .returned (.bool (decide (l.getD i 0 < l.getD j 0))) ∧ Below w.heap.size w w' := by
  subst hx hy
  exact less105 lo v l i j w h hi hj
theorem swap108' (lo hb : Nat) (v : Value) (l : List Nat) (i j : Nat) (w : World) (h : HP w lo hb v l) (hi : i < l.length) (hj : j < l.length) {x y : Int} (hx : x = i) (hy : y = j) :
    Calls Try.prog 108 #[v, .int .i64 x, .int .i64 y] w fun e w' => e = .returned (.tuple #[]) ∧ HP w' lo hb v (swp l i j) ∧ KB (HB hb v) w w' := by
  subst hx hy
  exact swap108 lo hb v l i j w h hi hj

set_option maxRecDepth 100000 in
set_option maxHeartbeats 1000000 in
theorem down37 (lo hb : Nat) (v : Value) (l : List Nat) (i n : Nat) (w : World) (h : HP w lo hb v l) (hi : i ≤ n) (hn : n ≤ l.length) (hlen : l.length ≤ 1048576) :
    Calls Try.prog 37 #[.iface 60 (.pointer (some ⟨hb, 0, none⟩)), .int .i64 (i : Int), .int .i64 (n : Int)] w fun e w' => AnyBool e ∧ HP w' lo hb v (downL l n i) ∧ KB (HB hb v) w w' := by
  go_enter Try.func37, Try.ntmps37
  go_wp2_with fail
  go_loopw [7] (fun vi wr => ∃ (k : Nat) (l' : List Nat), Hid (l'.length = l.length) ∧ k ≤ n ∧ vi = .int .i64 k ∧ Hid (HP wr lo hb v l') ∧ Hid (downL l' n k = downL l n i) ∧ KB (HB hb v) w wr) (fun vi _ => n - (intOf vi).toNat)
  case atStart => exact ⟨i, l, rfl, hi, rfl, h, rfl, KB.refl _ _⟩
  case round =>
    obtain ⟨k, l', hl', hk, rfl, hH, hdn, hkb⟩ := hrel
    have hm1 := mLess hb v wr hH.out.cell
    by_cases hk0 : n ≤ 2 * k + 1
    · have hd1 : decide ((n : Int) ≤ 2 * (k : Int) + 1) = true := decide_eq_true (by omega)
      have hd1' : (n : Int) ≤ 2 * (k : Int) + 1 := by omega
      go_wp2_with fail
      go_ret
      have := hdn.out
      rw [downL, if_pos hk0] at this
      exact ⟨⟨_, rfl⟩, this ▸ hH.out, hkb⟩
    · have hd1 : decide ((n : Int) ≤ 2 * (k : Int) + 1) = false := decide_eq_false (by omega)
      have hd2 : decide (2 * (k : Int) + 1 < 0) = false := decide_eq_false (by omega)
      by_cases hk2 : 2 * k + 2 < n
      · have hd3 : decide (2 * (k : Int) + 1 + 1 < (n : Int)) = true := decide_eq_true (by omega)
        have hd3' : 2 * (k : Int) + 1 + 1 < (n : Int) := by omega
        go_wp2_with fail
        refine (less105' lo v l' (2 * k + 2) (2 * k + 1) wr hH.out.own (by rw [hl'.out]; omega) (by rw [hl'.out]; omega) (by omega) (by omega)).mono ?_
        rintro e w0 ⟨rfl, hb0⟩
        have hH0 : Hid (HP w0 lo hb v l') := hH.out.keep (KB.of (fun _ => False) hb0) (fun _ _ h => h) (fun h => h)
        have hkb0 := hkb.below hb0
        have hm0 := mLess hb v w0 hH0.out.cell
        by_cases hl0 : l'.getD (2 * k + 2) 0 < l'.getD (2 * k + 1) 0
        · have Hkid : Hid (kid l' n k = 2 * k + 2) := if_pos ⟨hk2, hl0⟩
          have hd : decide (l'.getD (2 * k + 2) 0 < l'.getD (2 * k + 1) 0) = true := decide_eq_true hl0
          rw [hd]
          clear hl0 hd
          go_wp2_with fail
          refine (less105' lo v l' (2 * k + 2) k w0 hH0.out.own (by rw [hl'.out]; omega) (by rw [hl'.out]; omega) (by omega) (by omega)).mono ?_
          rintro e w1 ⟨rfl, hb1⟩
          have hH1 := hH0.out.keep (KB.of (fun _ => False) hb1) (fun _ _ h => h) (fun h => h)
          have hkb1 := hkb0.below hb1
          have hm2 := mSwap hb v w1 hH1.cell
          by_cases hlt : l'.getD (2 * k + 2) 0 < l'.getD k 0
          · have hd : decide (l'.getD (2 * k + 2) 0 < l'.getD k 0) = true := decide_eq_true hlt
            have Hlt : Hid (l'.getD (2 * k + 2) 0 < l'.getD k 0) := hlt
            have HH1 : Hid (HP w1 lo hb v l') := hH1
            rw [hd]
            clear hlt hd hH1
            go_wp2_with fail
            refine (swap108' lo hb v l' k (2 * k + 2) w1 HH1.out (by rw [hl'.out]; omega) (by rw [hl'.out]; omega) (by omega) (by omega)).mono ?_
            rintro e w2 ⟨rfl, hH2, hkb2⟩
            have HH2 : Hid (HP w2 lo hb v (swp l' k (2 * k + 2))) := hH2
            have hkb3 := hkb1.trans hkb2 (fun k _ h => h)
            clear hH2
            go_wp2_with fail
            go_roundw
            case rel =>
              refine ⟨2 * k + 2, swp l' k (2 * k + 2), by rw [swp_length]; exact hl'.out, by omega, by first | rfl | go_num | (congr 1; omega), HH2, ?_, hkb3⟩
              have := hdn.out
              rw [downL, if_neg (by omega), Hkid.out, if_pos Hlt.out] at this
              exact this
            case measure => simp [intOf]; omega
          · have hd : decide (l'.getD (2 * k + 2) 0 < l'.getD k 0) = false := decide_eq_false hlt
            have Hlt : Hid (¬ l'.getD (2 * k + 2) 0 < l'.getD k 0) := hlt
            have HH1 : Hid (HP w1 lo hb v l') := hH1
            rw [hd]
            clear hlt hd hH1
            go_wp2_with fail
            go_ret
            have := hdn.out
            rw [downL, if_neg (by omega), Hkid.out, if_neg Hlt.out] at this
            exact ⟨⟨_, rfl⟩, this ▸ HH1.out, hkb1⟩
        · have Hkid : Hid (kid l' n k = 2 * k + 1) := if_neg (fun h => hl0 h.2)
          have hd : decide (l'.getD (2 * k + 2) 0 < l'.getD (2 * k + 1) 0) = false := decide_eq_false hl0
          rw [hd]
          clear hl0 hd
          go_wp2_with fail
          refine (less105' lo v l' (2 * k + 1) k w0 hH0.out.own (by rw [hl'.out]; omega) (by rw [hl'.out]; omega) (by omega) (by omega)).mono ?_
          rintro e w1 ⟨rfl, hb1⟩
          have hH1 := hH0.out.keep (KB.of (fun _ => False) hb1) (fun _ _ h => h) (fun h => h)
          have hkb1 := hkb0.below hb1
          have hm2 := mSwap hb v w1 hH1.cell
          by_cases hlt : l'.getD (2 * k + 1) 0 < l'.getD k 0
          · have hd : decide (l'.getD (2 * k + 1) 0 < l'.getD k 0) = true := decide_eq_true hlt
            have Hlt : Hid (l'.getD (2 * k + 1) 0 < l'.getD k 0) := hlt
            have HH1 : Hid (HP w1 lo hb v l') := hH1
            rw [hd]
            clear hlt hd hH1
            go_wp2_with fail
            refine (swap108' lo hb v l' k (2 * k + 1) w1 HH1.out (by rw [hl'.out]; omega) (by rw [hl'.out]; omega) (by omega) (by omega)).mono ?_
            rintro e w2 ⟨rfl, hH2, hkb2⟩
            have HH2 : Hid (HP w2 lo hb v (swp l' k (2 * k + 1))) := hH2
            have hkb3 := hkb1.trans hkb2 (fun k _ h => h)
            clear hH2
            go_wp2_with fail
            go_roundw
            case rel =>
              refine ⟨2 * k + 1, swp l' k (2 * k + 1), by rw [swp_length]; exact hl'.out, by omega, by first | rfl | go_num | (congr 1; omega), HH2, ?_, hkb3⟩
              have := hdn.out
              rw [downL, if_neg (by omega), Hkid.out, if_pos Hlt.out] at this
              exact this
            case measure => simp [intOf]; omega
          · have hd : decide (l'.getD (2 * k + 1) 0 < l'.getD k 0) = false := decide_eq_false hlt
            have Hlt : Hid (¬ l'.getD (2 * k + 1) 0 < l'.getD k 0) := hlt
            have HH1 : Hid (HP w1 lo hb v l') := hH1
            rw [hd]
            clear hlt hd hH1
            go_wp2_with fail
            go_ret
            have := hdn.out
            rw [downL, if_neg (by omega), Hkid.out, if_neg Hlt.out] at this
            exact ⟨⟨_, rfl⟩, this ▸ HH1.out, hkb1⟩
      · have hd3 : decide (2 * (k : Int) + 1 + 1 < (n : Int)) = false := decide_eq_false (by omega)
        have Hkid : Hid (kid l' n k = 2 * k + 1) := if_neg (by omega)
        go_wp2_with fail
        refine (less105' lo v l' (2 * k + 1) k wr hH.out.own (by rw [hl'.out]; omega) (by rw [hl'.out]; omega) (by omega) (by omega)).mono ?_
        rintro e w1 ⟨rfl, hb1⟩
        have hH1 := hH.out.keep (KB.of (fun _ => False) hb1) (fun _ _ h => h) (fun h => h)
        have hkb1 := hkb.below hb1
        have hm2 := mSwap hb v w1 hH1.cell
        by_cases hlt : l'.getD (2 * k + 1) 0 < l'.getD k 0
        · have hd : decide (l'.getD (2 * k + 1) 0 < l'.getD k 0) = true := decide_eq_true hlt
          have Hlt : Hid (l'.getD (2 * k + 1) 0 < l'.getD k 0) := hlt
          have HH1 : Hid (HP w1 lo hb v l') := hH1
          rw [hd]
          clear hlt hd hH1
          go_wp2_with fail
          refine (swap108' lo hb v l' k (2 * k + 1) w1 HH1.out (by rw [hl'.out]; omega) (by rw [hl'.out]; omega) (by omega) (by omega)).mono ?_
          rintro e w2 ⟨rfl, hH2, hkb2⟩
          have HH2 : Hid (HP w2 lo hb v (swp l' k (2 * k + 1))) := hH2
          have hkb3 := hkb1.trans hkb2 (fun k _ h => h)
          clear hH2
          go_wp2_with fail
          go_roundw
          case rel =>
            refine ⟨2 * k + 1, swp l' k (2 * k + 1), by rw [swp_length]; exact hl'.out, by omega, by first | rfl | go_num | (congr 1; omega), HH2, ?_, hkb3⟩
            have := hdn.out
            rw [downL, if_neg (by omega), Hkid.out, if_pos Hlt.out] at this
            exact this
          case measure => simp [intOf]; omega
        · have hd : decide (l'.getD (2 * k + 1) 0 < l'.getD k 0) = false := decide_eq_false hlt
          have Hlt : Hid (¬ l'.getD (2 * k + 1) 0 < l'.getD k 0) := hlt
          have HH1 : Hid (HP w1 lo hb v l') := hH1
          rw [hd]
          clear hlt hd hH1
          go_wp2_with fail
          go_ret
          have := hdn.out
          rw [downL, if_neg (by omega), Hkid.out, if_neg Hlt.out] at this
          exact ⟨⟨_, rfl⟩, this ▸ HH1.out, hkb1⟩

end Go.Proofs.Qxb6605609a
