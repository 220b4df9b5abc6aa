/-
  FnMembersFirstExact: regions 0 to 11.
-/
import Derived.Test.Qxb6605609aLe
namespace Go.Proofs.Qxb6605609a
open Go.RowKit
variable {w : World} {ss : Nat → ByteArray} {la : Nat → Option Addr} {ln lc : Nat → Nat} {ms : Nat → Nat → ByteArray} {Post : Ending → World → Prop}

set_option maxRecDepth 1000000 in
set_option maxHeartbeats 4000000 in
theorem exact0 (a a1 : Option Addr) (n0 n1 c c1 : Nat) (hs : SlAt w a n0 fun j => .string (ss j)) (hL : Lists w a1 n1 la ln lc ms) (hb : ∀ j, (ss j).size ≤ maxLen) (hmb : ∀ k j, (ms k j).size ≤ maxLen) (hT : ∀ w', Below w.heap.size w w' → Post (.returned (.bool true)) w') (hnext : E12 w ss ln ms Post) :
    Calls Try.prog 5 #[.slice a n0 c, .slice a1 n1 c1] w Post := by
  have HT : Hid (∀ w', Below w.heap.size w w' → Post (.returned (.bool true)) w') := hT
  have HN : Hid (E12 w ss ln ms Post) := hnext
  have h23 := bytes17 a a1 n0 c n1 c1 ss la ln lc ms w hs hL hb hmb
  have h8 := strBytes8 a n0 c ss w hs hb
  have h9 := listsBytes9 a1 n1 c1 la ln lc ms w hL hmb
  have hn0 := hs.small
  have hn1 := hL.outer.small
  clear hT hnext hmb
  go_enter Try.func5, Try.ntmps5
  go_wp2_with fail
  refine h23.mono ?_
  rintro e w' ⟨⟨b, rfl⟩, rfl⟩
  cases b with
  | false =>
    go_wp2_with fail
    exact HT.out _ (Below.refl _ _)
  | true =>
    go_wp2_with fail
    refine h8.mono ?_
    rintro e w1 ⟨⟨z, rfl, hz0, hz1, _⟩, rfl⟩
    go_wp2_with fail
    refine h9.mono ?_
    rintro e w1 ⟨⟨z2, rfl, hy0, hy1, hy2⟩, rfl⟩
    have Hy2 : Hid (z2 ≤ 2097152 → ∀ k, k < n1 → 16 * (ln k : Int) ≤ z2) := hy2
    clear hy2 h23 h8 h9
    by_cases hbig : (1048576 : Int) < z + z2
    · go_wp2_with fail
      exact HT.out _ (Below.refl _ _)
    · by_cases hn : (4096 : Int) < (n0 : Int)
      · go_wp2_with fail
        exact HT.out _ (Below.refl _ _)
      · by_cases he : n1 = n0
        · subst he
          have hln : Hid (∀ k, k < n1 → ln k ≤ 131072) := fun k hk => by
            have := Hy2.out (by omega) k hk
            omega
          have hd : decide ((4096 : Int) < (n1 : Int)) = false := by simp; omega
          have hd2 : ((n1 : Int) != (n1 : Int)) = false := by simp
          clear Hy2
          go_wp2_with fail
          go_loopw [5] (fun v wx => ∃ k : Nat, 1 ≤ k ∧ (k ≤ n1 ∨ k = 1) ∧ v = .int .i64 k ∧ Hid (∀ q, 1 ≤ q → q < k → (ss (q - 1)).data.toList < (ss q).data.toList) ∧ Hid (Below w1.heap.size w1 wx)) (fun v _ => n1 - (intOf v).toNat)
          case atStart => exact ⟨1, Nat.le_refl _, Or.inr rfl, rfl, fun q h1 h2 => by omega, Below.refl _ _⟩
          case round =>
            obtain ⟨k, hk1, hk2, rfl, Hasc, Hbw⟩ := hrel
            by_cases hlt : k < n1
            · obtain ⟨b1, o1, hb1, hix1, hc1'⟩ := hs.elem22 (show k - 1 < n1 by omega) c
              obtain ⟨b2, o2, hb2, hix2, hc2'⟩ := hs.elem22 hlt c
              have hc1 : wr.cell? ⟨b1, o1, none⟩ = some (.string (ss (k - 1))) := (Hbw.out.cell (p := ⟨b1, o1, none⟩) hb1).trans hc1'
              have hc2 : wr.cell? ⟨b2, o2, none⟩ = some (.string (ss k)) := (Hbw.out.cell (p := ⟨b2, o2, none⟩) hb2).trans hc2'
              have ek : ((k - 1 : Nat) : Int) = (k : Int) - 1 := by omega
              rw [ek] at hix1
              obtain ⟨s1, es1⟩ : ∃ s1, s1 = ss (k - 1) := ⟨_, rfl⟩
              obtain ⟨s2, es2⟩ : ∃ s2, s2 = ss k := ⟨_, rfl⟩
              rw [← es1] at hc1
              rw [← es2] at hc2
              have Es : Hid (s1 = ss (k - 1) ∧ s2 = ss k) := ⟨es1, es2⟩
              clear es1 es2 hc1' hc2' ek
              have Hbq : Hid (∀ q, Below w1.heap.size w1 (wr.drewN q)) := fun q => below_drewN Hbw.out q
              by_cases hlss : Op.bytesLess s1.toList s2.toList = true
              · have Hlt2 : Hid ((ss (k - 1)).data.toList < (ss k).data.toList) := by
                  have h0 := hlss
                  rw [ByteArray.toList_eq, ByteArray.toList_eq, bytesLess_eq, Es.out.1, Es.out.2] at h0
                  exact (of_decide_eq_true h0 : (ss (k - 1)).data.toList < (ss k).data.toList)
                go_wp2_with fail
                go_quiet (fail)
                go_wp2_with fail
                go_roundw
                case rel =>
                  refine ⟨k + 1, by omega, Or.inl (by omega), by go_num, fun q h1 h2 => ?_, Hbq.out _⟩
                  by_cases e : q = k
                  · rw [e]; exact Hlt2.out
                  · exact Hasc.out q h1 (by omega)
                case measure => simp [intOf]; omega
              · have hls0 : Op.bytesLess s1.toList s2.toList = false := by simpa using hlss
                clear hlss
                go_wp2_with fail
                go_quiet (fail)
                go_wp2_with fail
                exact HT.out _ (Hbq.out _)
            · have HAsc : Hid (Asc ss n1) := fun q h1 h2 => Hasc.out q h1 (by omega)
              have Hs : Hid (SlAt wr a n1 (fun j => .string (ss j)) ∧ Lists wr a1 n1 la ln lc ms) := ⟨hs.below Hbw.out, hL.below Hbw.out⟩
              clear Hasc
              go_upto_region 12 with fail
              exact HN.out wr a a1 n1 c c1 la lc Hbw.out Hs.out.1 Hs.out.2 (by omega) hln.out HAsc.out _ _ _ _ _ _ _ _ _ _ _ _ _ _ _ _ _ _ _ _ _ _ _ _ _ _ _ _ _ _ _ _ _ _ _ _ _ _ _ _ _ _ _ _ _ _ _ _ _ _ _ _ _ _ _ _ _ _ _ _ _ _ _ _ _ _ _ _ _ _ _ _ _ _ _ _ _ _ _ _ _ _ _ _ _ _ _ _ _ _ _ _ _ _ _ _ _ _ _ _ _ _ _ _ _ _ _ _ _ _ _ _ _ _ _ _ _ _ _ _ _ _ _ _ _ _ _ _ _ _ _ _ _ _ _ _ _ _ _ _ _ _ _ _ _ _ _ _ _ (by assumption)
        · have hd : decide ((4096 : Int) < (n0 : Int)) = false := by simp; omega
          have hd2 : ((n1 : Int) != (n0 : Int)) = true := by simp; omega
          have hd3 : ((n1 : Int) == (n0 : Int)) = false := by simp; omega
          go_wp2_with fail
          exact HT.out _ (Below.refl _ _)


end Go.Proofs.Qxb6605609a
