/-
  THE WALK OF FnRolloutProofOfPairedHostsShareUpperPath, every input: where a guard says no it returns true at once.
-/
import Derived.Test.Qxb6614063aLaw7
namespace Go.Proofs.Qxb6614063a
open Go.RowKit

set_option maxRecDepth 100000 in
set_option maxHeartbeats 2000000 in
theorem law7 (ch id : ByteArray) (kk : Int) (ma sa ha ca xa la0 : Option Addr) (mn mc sn sc n hc c cc x xc m lc0 : Nat) (mb sb : Nat → Int) (ss cs : Nat → ByteArray) (xs : Nat → Int) (la : Nat → Option Addr) (ln lc : Nat → Nat) (bs : Nat → Nat → Nat → Int) (w : World)
    (hma : SlAt w ma mn fun j => .int .u8 (mb j)) (hsa : SlAt w sa sn fun j => .int .u8 (sb j)) (hmn : mn < 140737488355328) (hsn : sn < 140737488355328)
    (hss : SlAt w ha n fun j => .string (ss j)) (hcs : SlAt w ca c fun j => .string (cs j)) (hxs : SlAt w xa x fun j => .int .i64 (xs j)) (hL : LevAt w la0 m la ln lc bs) (hsb : ∀ j, (ss j).size ≤ maxLen) (hcb : ∀ j, (cs j).size ≤ maxLen) :
    Calls Try.prog 7 #[.string ch, .string id, .slice ma mn mc, .slice sa sn sc, .slice ha n hc, .slice ca c cc, .slice xa x xc, .slice la0 m lc0, .int .i64 kk] w fun e w' => e = .returned (.bool true) ∧ Below w.heap.size w w' := by
  by_cases hall : n ≤ 4096 ∧ m ≤ 64 ∧ c = n ∧ x = n ∧ 0 ≤ kk ∧ kk < n
  · obtain ⟨h1, h2, rfl, rfl, h3, h4⟩ := hall
    obtain ⟨k, rfl⟩ := Int.eq_ofNat_of_zero_le h3
    exact law7_core ch id k ma sa ha ca xa la0 mn mc sn sc x hc cc xc m lc0 mb sb ss cs xs la ln lc bs w hma hsa hmn hsn hss hcs hxs hL hsb hcb h1 h2 (by omega)
  have Hall : Hid (¬ (n ≤ 4096 ∧ m ≤ 64 ∧ c = n ∧ x = n ∧ 0 ≤ kk ∧ kk < n)) := hall
  clear hall
  have hmk1 := makeBytes mn hmn
  have hmk2 := makeBytes sn hsn
  have hnil := fun (w : World) (a : Option Addr) (n c : Nat) => run_neq_slice_nil_any (P := Try.prog) w 40 5 a n c 0 0 Try.underlying40
  go_enter Try.func7, Try.ntmps7
  go_wp2_with fail
  refine (bytes17 ch id kk ma sa ha ca xa la0 mn mc sn sc n hc c cc x xc m lc0 ss cs la ln lc bs _ hss hcs hL hsb hcb).mono ?_
  rintro e w' ⟨⟨b, rfl⟩, rfl⟩
  cases b with
  | false =>
    go_wp2
    go_ret
    exact ⟨rfl, Below.refl _ _⟩
  | true =>
  go_wp2_with fail
  refine (rolloutBytes18 ch id ⟨#[]⟩ ma sa ha ca xa la0 mn mc sn sc n hc c cc x xc m lc0 ss cs la ln lc bs _ hss hcs hL).mono ?_
  rintro e w' ⟨⟨t, rfl⟩, rfl⟩
  by_cases ht : 1048576 < t
  · go_wp2
    go_ret
    exact ⟨rfl, Below.refl _ _⟩
  by_cases h1 : (4096 : Int) < (n : Int)
  · go_wp2
    go_ret
    exact ⟨rfl, Below.refl _ _⟩
  by_cases h2 : (64 : Int) < (m : Int)
  · go_wp2
    go_ret
    exact ⟨rfl, Below.refl _ _⟩
  obtain ⟨w2, hcp, hB2⟩ := copyBytes ma mn mc mb _ hma
  obtain ⟨w3, hcp3, hB3'⟩ := copyBytes sa sn sc sb _ (hsa.below hB2)
  obtain ⟨w4, hcp4, hB4⟩ := copyBytes sa sn sc sb _ hsa
  have hB3 := hB2.trans (hB3'.mono hB2.size)
  have hB0 := Below.refl w'.heap.size w'
  clear hB3'
  by_cases h3 : c = n
  case neg =>
    have h3' : ((c : Int) != (n : Int)) = true := by rw [bne_iff_ne]; omega
    clear h3
    cases ma <;> cases sa
    case' none.none => have hBW := hB0
    case' none.some => have hBW := hB4
    case' some.none => have hBW := hB2
    case' some.some => have hBW := hB3
    all_goals
      go_wp2
      go_ret
      exact ⟨rfl, hBW⟩
  have h3' : ((c : Int) != (n : Int)) = false := by simp [h3]
  by_cases h4 : x = n
  case neg =>
    have h4' : ((x : Int) != (n : Int)) = true := by rw [bne_iff_ne]; omega
    clear h3 h4
    cases ma <;> cases sa
    case' none.none => have hBW := hB0
    case' none.some => have hBW := hB4
    case' some.none => have hBW := hB2
    case' some.some => have hBW := hB3
    all_goals
      go_wp2
      go_ret
      exact ⟨rfl, hBW⟩
  have h4' : ((x : Int) != (n : Int)) = false := by simp [h4]
  by_cases h5 : kk < 0
  case pos =>
    have h5' : decide (kk < 0) = true := by simp [h5]
    clear h3 h4 h5
    cases ma <;> cases sa
    case' none.none => have hBW := hB0
    case' none.some => have hBW := hB4
    case' some.none => have hBW := hB2
    case' some.some => have hBW := hB3
    all_goals
      go_wp2
      go_ret
      exact ⟨rfl, hBW⟩
  have h5' : decide (kk < 0) = false := by simp; omega
  have h6' : decide ((n : Int) ≤ kk) = true := by
    have := Hall.out
    simp
    omega
  clear h3 h4 h5
  cases ma <;> cases sa
  case' none.none => have hBW := hB0
  case' none.some => have hBW := hB4
  case' some.none => have hBW := hB2
  case' some.some => have hBW := hB3
  all_goals
    go_wp2
    go_ret
    exact ⟨rfl, hBW⟩

end Go.Proofs.Qxb6614063a
