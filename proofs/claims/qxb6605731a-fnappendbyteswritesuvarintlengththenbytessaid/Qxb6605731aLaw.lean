/-
  THE WALK OF FnAppendBytesWritesUvarintLengthThenBytes.
-/
import Derived.Test.Qxb6605731aApp
import Derived.BigQuiet
import Derived.Laws.ShiftsVarLaws
namespace Go.Proofs.Qxb6605731a
open Go.RowKit

def CloneRes (w' : World) (n : Nat) (xs : Nat → Int) (e : Ending) : Prop := ∃ a c, e = .returned (.slice a n c) ∧ Fresh w' (.slice a n c) n xs ∧ SlAt w' a n (fun j => .int .u8 (xs j))

theorem clone8' (a : Option Addr) (n c : Nat) (xs : Nat → Int) (w : World) (hs : SlAt w a n fun j => .int .u8 (xs j)) (hn : n ≤ 1048576) :
    Calls Try.prog 8 #[.slice a n c] w fun e w' => CloneRes w' n xs e ∧ Kept w.heap.size w w' := by
  refine (clone8 a n c xs w hs hn).mono ?_
  rintro e w' ⟨h, hb⟩
  refine ⟨?_, Kept.of hb⟩
  have key : ∀ v, e = .returned v → Fresh w' v n xs → CloneRes w' n xs e := fun v he hf => by
    obtain ⟨a, c, rfl, hsl⟩ := hf.slAt hn
    exact ⟨a, c, he, hf, hsl⟩
  rcases h with ⟨_, rfl, rfl⟩ | ⟨rfl, hr⟩
  · exact key _ rfl (Or.inl ⟨rfl, rfl⟩)
  · exact key _ rfl (Or.inr ⟨_, rfl, hr⟩)

/-- What was handed back, by index. -/
theorem got_at (B P : Nat) (xs ys : Nat → Int) : ∃ (N : Nat) (G : Nat → Int), N = B + (hdr P).length + P ∧ (nums B xs ++ (hdr P ++ nums P ys)).length = N ∧ (∀ j, (nums B xs ++ (hdr P ++ nums P ys)).getD j 0 = G j) ∧
    (∀ i, i < B → G i = xs i) ∧ (∀ i, i < (hdr P).length → G (B + i) = (hdr P).getD i 0) ∧ (∀ j, j < P → G (B + (hdr P).length + j) = ys j) := by
  refine ⟨_, fun j => (nums B xs ++ (hdr P ++ nums P ys)).getD j 0, rfl, by simp [nums_length, Nat.add_assoc], fun _ => rfl, fun i hi => ?_, fun i hi => ?_, fun j hj => ?_⟩
  · dsimp only
    rw [List.getD_eq_getElem?_getD, List.getElem?_append_left (by rw [nums_length]; exact hi), ← List.getD_eq_getElem?_getD, nums_get _ _ _ hi]
  · dsimp only
    rw [List.getD_eq_getElem?_getD, List.getElem?_append_right (by rw [nums_length]; omega), nums_length, List.getElem?_append_left (by omega), ← List.getD_eq_getElem?_getD]
    congr 1
    omega
  · dsimp only
    rw [List.getD_eq_getElem?_getD, List.getElem?_append_right (by rw [nums_length]; omega), nums_length, List.getElem?_append_right (by omega), ← List.getD_eq_getElem?_getD]
    rw [show B + (hdr P).length + j - B - (hdr P).length = j by omega]
    exact nums_get _ _ _ hj

/-- An index that is a sum, as the walk writes it. -/
theorem SlAt.elemZ {w : World} {a : Option Addr} {n : Nat} {f : Nat → Value} (h : SlAt w a n f) {k : Nat} (hk : k < n) (c : Nat) (z : Int) (hz : z = k) :
    ∃ b off, b < w.heap.size ∧ (∀ w : World, (Instr.indexAt 26 (.slice a n c) (.int .i64 z)).run Try.prog w = .ok (.pointer (some ⟨b, off, none⟩)) w) ∧ w.cell? ⟨b, off, none⟩ = some (f k) := by
  subst hz
  exact h.elem hk c

set_option maxRecDepth 100000 in
set_option maxHeartbeats 1000000 in
theorem law5_core (a0 a1 : Option Addr) (n0 c0 n1 c1 : Nat) (xs ys : Nat → Int) (w : World) (h0 : SlAt w a0 n0 fun j => .int .u8 (xs j)) (h1 : SlAt w a1 n1 fun j => .int .u8 (ys j)) (hn : n0 + n1 ≤ 1048576) :
    Calls Try.prog 5 #[.slice a0 n0 c0, .slice a1 n1 c1] w fun e w' => e = .returned (.bool true) ∧ Kept w.heap.size w w' := by
  have t1 : decide ((1048576 : Int) < (n0 : Int)) = false := by simp; omega
  have t2 : decide ((1048576 : Int) < (n1 : Int)) = false := by simp; omega
  have t3 : decide ((1048576 : Int) < (n0 : Int) + (n1 : Int)) = false := by simp; omega
  have hn0 : n0 ≤ 1048576 := by omega
  have hn1 : n1 ≤ 1048576 := by omega
  go_enter Try.func5, Try.ntmps5
  go_wp2_with fail
  refine (bytes10 a0 a1 n0 c0 n1 c1 _ h0.small h1.small).mono ?_
  rintro e w' ⟨⟨b, rfl⟩, rfl⟩
  cases b with
  | false =>
    go_wp2
    go_ret
    exact ⟨rfl, Kept.refl _ _⟩
  | true =>
  go_wp2_with fail
  refine (clone8' a0 n0 c0 xs _ h0 hn0).mono ?_
  rintro e w1 ⟨⟨ba, bc, rfl, hfb, hsb⟩, hk1⟩
  have h1' := h1.kept hk1
  clear h0 h1
  go_wp2_with fail
  refine (clone8' a1 n1 c1 ys _ h1' hn1).mono ?_
  rintro e w2 ⟨⟨pa, pc, rfl, hfp, hsp⟩, hk2⟩
  have hfb2 := hfb.kept hk2
  have hsb2 := hsb.kept hk2
  clear hfb hsb h1'
  obtain ⟨N, G, hN, e1, e2, hG1, hG2, hG3⟩ := got_at n0 n1 xs ys
  have hH := hdrOk n1
  have hk3 := hdr_length hn1
  have h9 := append9 (.slice ba n0 bc) (.slice pa n1 pc) n0 n1 xs ys w2 hfb2 hfp hn0 hn1
  generalize nums n0 xs ++ (hdr n1 ++ nums n1 ys) = l at h9 e1 e2
  generalize hd : hdr n1 = hd at hN hG2 hG3 hH hk3
  clear hd
  obtain ⟨k, hk⟩ : ∃ k, k = hd.length := ⟨_, rfl⟩
  rw [← hk] at hN hG2 hG3 hk3
  go_wp2_with fail
  refine h9.mono ?_
  rintro e w3 ⟨⟨g, cap, rfl, hg'⟩, hk3'⟩
  rw [e1]
  rw [e1] at hg'
  have hg : SlAt w3 (some ⟨g, 0, none⟩) N (fun j => .int .u8 (G j)) := by simpa only [e2] using hg'
  clear hg' h9 e1 e2 l
  have hsb3 := hsb2.kept hk3'
  have hsp3 := hsp.kept hk3'
  have hK3 := (hk1.then hk2).then hk3'
  clear hfb2 hsb2 hfp hsp
  have HG1 : Hid (∀ i, i < n0 → G i = xs i) := hG1
  have HG2 : Hid (∀ i, i < k → G (n0 + i) = hd.getD i 0) := hG2
  have HG3 : Hid (∀ j, j < n1 → G (n0 + k + j) = ys j) := hG3
  have HH : Hid (HdrOk n1 hd) := hH
  have hkp : 1 ≤ k := by rw [hk]; exact hH.pos
  have Hk : Hid (k = hd.length) := hk
  clear hG1 hG2 hG3 hH hk
  have hkk : (N : Int) - (n0 : Int) - (n1 : Int) = (k : Int) := by omega
  have hk1' : decide ((k : Int) < 1) = false := by simp; omega
  have hk10 : decide ((10 : Int) < (k : Int)) = false := by simp; omega
  have hk10e : ((k : Int) == 10) = false := by rw [beq_eq_false_iff_ne]; omega
  have HN : Hid (N = n0 + k + n1) := hN
  have hNle : N ≤ 2097152 := by omega
  have hNge : n0 + n1 ≤ N := by omega
  clear hN
  go_wp2_with fail
  clear hkk hk1' hk10
  go_loopw [7] (fun v wr => ∃ i : Nat, i ≤ n0 ∧ v = .int .i64 i ∧ Below w3.heap.size w3 wr) (fun v _ => n0 - (intOf v).toNat)
  case atStart => exact ⟨0, Nat.zero_le _, rfl, Below.refl _ _⟩
  case round =>
    obtain ⟨i, hi, rfl, hbl⟩ := hrel
    by_cases hlt : i < n0
    · obtain ⟨b1, o1, _, hix1, hc1⟩ := (hg.kept (Kept.of hbl)).elem (k := i) (by have := HN.out; omega) cap
      obtain ⟨b2, o2, _, hix2, hc2⟩ := (hsb3.kept (Kept.of hbl)).elem (k := i) hlt bc
      rw [HG1.out i hlt] at hc1
      generalize xs i = z at hc1 hc2
      go_wp2_with fail
      go_quiet (fail)
      go_wp2_with fail
      go_roundw
      case rel => exact ⟨i + 1, by omega, by go_num, below_drewN hbl _⟩
      case measure => simp [intOf]; omega
    · have hg4 := hg.kept (Kept.of hbl)
      have hsp4 := hsp3.kept (Kept.of hbl)
      have hK4 := hK3.trans ((Kept.of hbl).mono hK3.size)
      clear hg hsb3 hsp3 HG1
      go_wp2_with fail
      go_loopw [9] (fun v wx => ∃ j : Nat, j ≤ n1 ∧ v = .int .i64 j ∧ Below wr.heap.size wr wx) (fun v _ => n1 - (intOf v).toNat)
      case atStart => exact ⟨0, Nat.zero_le _, rfl, Below.refl _ _⟩
      case round =>
        rename_i wr0
        obtain ⟨j, hj, rfl, hbl2⟩ := hrel
        by_cases hlt2 : j < n1
        · obtain ⟨b1, o1, _, hix1, hc1⟩ := (hg4.kept (Kept.of hbl2)).elemZ (k := n0 + k + j) (by have := HN.out; omega) cap ((n0 : Int) + (k : Int) + (j : Int)) (by omega)
          obtain ⟨b2, o2, _, hix2, hc2⟩ := (hsp4.kept (Kept.of hbl2)).elem (k := j) hlt2 pc
          rw [HG3.out j hlt2] at hc1
          generalize ys j = z at hc1 hc2
          go_wp2_with fail
          go_quiet (fail)
          go_wp2_with fail
          go_roundw
          case rel => exact ⟨j + 1, by omega, by go_num, below_drewN hbl2 _⟩
          case measure => simp [intOf]; omega
        · have hg5 := hg4.kept (Kept.of hbl2)
          have hK5 := hK4.trans ((Kept.of hbl2).mono hK4.size)
          clear hg4 hsp4 HG3
          go_wp2_with fail
          go_loop [11] (fun v => ∃ q : Nat, q + 1 ≤ k ∧ v = .int .i64 q) (fun v => k - (intOf v).toNat)
          case atStart => exact ⟨0, by omega, rfl⟩
          case round =>
            obtain ⟨q, hq, rfl⟩ := hrel
            by_cases hlt3 : q + 1 < k
            · obtain ⟨b1, o1, _, hix1, hc1⟩ := hg5.elemZ (k := n0 + q) (by have := HN.out; omega) cap ((n0 : Int) + (q : Int)) (by omega)
              rw [HG2.out q (by omega)] at hc1
              have hbig := HH.out.more q (by have := Hk.out; omega)
              generalize hd.getD q 0 = z at hc1 hbig
              have hd1 : decide (z < 128) = false := by simp; omega
              have hq1 : decide ((q : Int) < (k : Int) - 1) = true := by simp; omega
              go_wp2_with fail
              go_round
              case rel => exact ⟨q + 1, by omega, by go_num⟩
              case measure => simp [intOf]; omega
            · have hq1 : decide ((q : Int) < (k : Int) - 1) = false := by simp; omega
              obtain ⟨b1, o1, _, hix1, hc1⟩ := hg5.elemZ (k := n0 + (k - 1)) (by have := HN.out; omega) cap ((n0 : Int) + (k : Int) - 1) (by omega)
              rw [HG2.out (k - 1) (by omega)] at hc1
              have hlast := HH.out.last
              have hlead := HH.out.lead
              have hbyte := HH.out.byte (k - 1)
              rw [← Hk.out] at hlast hlead
              obtain ⟨z, hz⟩ : ∃ z, z = hd.getD (k - 1) 0 := ⟨_, rfl⟩
              rw [← hz] at hc1 hlast hlead hbyte
              have hd1 : decide ((128 : Int) ≤ z) = false := by simp; omega
              have Hspell : Hid (val7 hd = n1) := HH.out.spells
              have Hlead : Hid (1 < k → z ≠ 0) := hlead
              clear hlead hz
              rcases Nat.lt_or_ge 1 k with hkc | hkc
              case' inl =>
                have hz0 : (z == 0) = false := by rw [beq_eq_false_iff_ne]; exact Hlead.out hkc
                have hkd : decide ((1 : Int) < (k : Int)) = true := by simp; omega
              case' inr =>
                have hkd : decide ((1 : Int) < (k : Int)) = false := by simp; omega
              all_goals
                go_wp2_with fail
                clear hkd hd1 hc1 hix1 hq1 hlast hbyte
                go_loop [13, 14] (fun v vi => ∃ (t : Nat) (zi V : Int), t ≤ k ∧ vi = .int .i64 zi ∧ v = .int .u64 V ∧ Hid (zi = (t : Int) - 1) ∧ Hid (V = val7 (hd.drop t))) (fun _ vi => (intOf vi + 1).toNat)
                case atStart => exact ⟨k, _, _, Nat.le_refl _, rfl, rfl, rfl, show _ = _ by rw [Hk.out, val7_end]⟩
                case round =>
                  obtain ⟨t, zi, V, htk, rfl, rfl, Hzi, HV⟩ := hrel
                  have hzi := Hzi.out
                  by_cases ht0 : t = 0
                  · subst ht0
                    have hge : decide ((0 : Int) ≤ zi) = false := by simp; omega
                    have hV : V = n1 := by rw [HV.out, List.drop_zero]; exact Hspell.out
                    subst hV
                    clear hzi
                    go_wp2_with fail
                    go_ret
                    exact ⟨rfl, hK5⟩
                  · have hge : decide ((0 : Int) ≤ zi) = true := by simp; omega
                    obtain ⟨b1, o1, _, hix1, hc1⟩ := hg5.elemZ (k := n0 + (t - 1)) (by have := HN.out; omega) cap ((n0 : Int) + zi) (by omega)
                    rw [HG2.out (t - 1) (by omega)] at hc1
                    have hby := HH.out.byte (t - 1)
                    have hstep := val7_drop hd (t - 1) (by have := Hk.out; omega)
                    rw [show t - 1 + 1 = t by omega, ← HV.out] at hstep
                    have hV0 : 0 ≤ V := by rw [HV.out]; exact val7_nonneg _
                    have hVle := val7_drop_le hd (t - 1)
                    rw [Hspell.out, hstep] at hVle
                    generalize hd.getD (t - 1) 0 = y at hc1 hby hstep hVle
                    have hand := u8_and127 y hby.1 hby.2
                    have hor := or7 V (y % 128) hV0 (by omega) (by omega) (by omega)
                    have Hstep : Hid (val7 (hd.drop (t - 1)) = y % 128 + 128 * V) := hstep
                    have hzb : zi < 4 := by omega
                    have hzp : 0 ≤ zi := by omega
                    have hVb : V < 1048577 := by omega
                    clear hstep hzi
                    go_wp2_with fail
                    refine ⟨⟨t - 1, zi - 1, V * 128 + y % 128, by omega, rfl, rfl, ?_, ?_⟩, by simp [intOf]; omega⟩
                    · show zi - 1 = ((t - 1 : Nat) : Int) - 1
                      have := Hzi.out
                      omega
                    · show V * 128 + y % 128 = val7 (hd.drop (t - 1))
                      rw [Hstep.out]
                      omega

set_option maxHeartbeats 400000 in
theorem law5 (a0 a1 : Option Addr) (n0 c0 n1 c1 : Nat) (xs ys : Nat → Int) (w : World) (h0 : SlAt w a0 n0 fun j => .int .u8 (xs j)) (h1 : SlAt w a1 n1 fun j => .int .u8 (ys j)) :
    Calls Try.prog 5 #[.slice a0 n0 c0, .slice a1 n1 c1] w fun e w' => e = .returned (.bool true) ∧ Kept w.heap.size w w' := by
  by_cases hall : n0 + n1 ≤ 1048576
  · exact law5_core a0 a1 n0 c0 n1 c1 xs ys w h0 h1 hall
  have hs0 := h0.small
  have hs1 := h1.small
  go_enter Try.func5, Try.ntmps5
  go_wp2_with fail
  refine (bytes10 a0 a1 n0 c0 n1 c1 _ h0.small h1.small).mono ?_
  rintro e w' ⟨⟨b, rfl⟩, rfl⟩
  cases b with
  | false =>
    go_wp2
    go_ret
    exact ⟨rfl, Kept.refl _ _⟩
  | true =>
  by_cases t1 : (1048576 : Int) < (n0 : Int)
  · go_wp2
    go_ret
    exact ⟨rfl, Kept.refl _ _⟩
  by_cases t2 : (1048576 : Int) < (n1 : Int)
  · go_wp2
    go_ret
    exact ⟨rfl, Kept.refl _ _⟩
  have t3 : (1048576 : Int) < (n0 : Int) + (n1 : Int) := by omega
  go_wp2
  go_ret
  exact ⟨rfl, Kept.refl _ _⟩

end Go.Proofs.Qxb6605731a
