/-
  zzSameList of two lists of the same strings: nothing but the clock moves.
-/
import Derived.Test.Qxb6605609aClone
namespace Go.Proofs.Qxb6605609a
open Go.RowKit

set_option maxHeartbeats 400000 in
theorem same13q (a1 a2 : Option Addr) (n c1 c2 : Nat) (ss : Nat → ByteArray) (w : World) (h1 : SlAt w a1 n fun j => .string (ss j)) (h2 : SlAt w a2 n fun j => .string (ss j)) :
    Calls Try.prog 13 #[.slice a1 n c1, .slice a2 n c2] w fun e w' => e = .returned (.bool true) ∧ ∃ m, w' = w.drewN m := by
  have hn0 := h1.small
  go_enter Try.func13, Try.ntmps13
  go_wp2_with fail
  go_loopw [5] (fun v wr => ∃ t : Nat, t ≤ n ∧ v = .int .i64 t ∧ Hid (∃ m, wr = w.drewN m)) (fun v _ => n - (intOf v).toNat)
  case atStart => exact ⟨0, Nat.zero_le _, rfl, ⟨0, rfl⟩⟩
  case round =>
    obtain ⟨t, ht, rfl, Hm⟩ := hrel
    have Hbl : Hid (Below w.heap.size w wr) := by
      obtain ⟨m, e⟩ := Hm.out
      rw [e]
      exact below_drewN (Below.refl _ _) m
    have Hm2 : Hid (∀ q, ∃ m, wr.drewN q = w.drewN m) := fun q => by
      obtain ⟨m, e⟩ := Hm.out
      exact ⟨_, by rw [e, World.drewN_drewN]⟩
    by_cases hlt : t < n
    · obtain ⟨b1, o1, _, hix1, hc1⟩ := (h1.below Hbl.out).elem22 hlt c1
      obtain ⟨b2, o2, _, hix2, hc2⟩ := (h2.below Hbl.out).elem22 hlt c2
      generalize ss t = s at hc1 hc2
      go_wp2_with fail
      go_quiet (fail)
      go_wp2_with fail
      go_roundw
      case rel => exact ⟨t + 1, by omega, by go_num, Hm2.out _⟩
      case measure => simp [intOf]; omega
    · go_wp2
      go_ret
      exact ⟨rfl, Hm.out⟩

end Go.Proofs.Qxb6605609a
