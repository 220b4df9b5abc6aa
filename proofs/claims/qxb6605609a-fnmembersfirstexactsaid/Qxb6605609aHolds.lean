/-
  holds: whether a list of strings has a name among it.
-/
import Derived.Test.Qxb6605609aIn
namespace Go.Proofs.Qxb6605609a
open Go.RowKit

theorem toList_same {a b : ByteArray} (h : a = b) : (a.toList == b.toList) = true := by subst h; exact beq_self_eq_true _
theorem toList_other {a b : ByteArray} (h : a ≠ b) : (a.toList == b.toList) = false := by
  rw [beq_eq_false_iff_ne, ByteArray.toList_eq, ByteArray.toList_eq]
  intro e
  apply h
  cases a; cases b
  simpa using e

/-- A bool is returned that says p. -/
def Says (p : Prop) (e : Ending) : Prop := ∃ b : Bool, e = .returned (.bool b) ∧ (b = true ↔ p)

set_option maxHeartbeats 400000 in
theorem holds32 (a : Option Addr) (n c : Nat) (ss : Nat → ByteArray) (key : ByteArray) (w : World) (hs : SlAt w a n fun j => .string (ss j)) :
    Calls Try.prog 32 #[.slice a n c, .string key] w fun e w' => Says (∃ j, j < n ∧ ss j = key) e ∧ w' = w := by
  have hn0 := hs.small
  go_enter Try.func32, Try.ntmps32
  go_wp2_with fail
  go_loop [9] (fun vi => ∃ (k : Nat), k ≤ n ∧ vi = .int .i64 k ∧ Hid (∀ j, j < k → ss j ≠ key)) (fun vi => n - (intOf vi).toNat)
  case atStart => exact ⟨0, Nat.zero_le _, rfl, fun j hj => by omega⟩
  case round =>
    obtain ⟨k, hk, rfl, hne⟩ := hrel
    by_cases hlt : k < n
    · obtain ⟨b1, o1, _, hix1, hc1⟩ := hs.elem22 hlt c
      by_cases he : ss k = key
      · have hq : Hid (∃ j, j < n ∧ ss j = key) := ⟨k, hlt, he⟩
        have hb := toList_same he
        clear he
        go_wp2_with fail
        go_ret
        exact ⟨⟨true, rfl, fun _ => hq.out, fun _ => rfl⟩, rfl⟩
      · have hb := toList_other he
        have He : Hid (ss k ≠ key) := he
        clear he
        go_wp2_with fail
        go_round
        case rel =>
          refine ⟨k + 1, by omega, by go_num, fun q hq => ?_⟩
          by_cases e : q = k
          · rw [e]; exact He.out
          · exact hne.out q (by omega)
        case measure => simp [intOf]; omega
    · go_wp2_with fail
      go_ret
      exact ⟨⟨false, rfl, fun h => by (cases h), fun ⟨j, hj, e⟩ => absurd e (hne.out j (by omega))⟩, rfl⟩

end Go.Proofs.Qxb6605609a
