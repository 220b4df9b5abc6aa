/-
  THE WALKS OF minutes, zzB1WindowOf, zzB1Distinct.
-/
import Derived.Test.Qxb6614063aFreshLeaves
namespace Go.Proofs.Qxb6614063a
open Go.RowKit

/-- What a call that reckons a window returns. -/
def WinRes (xs : Nat → Int) (lo hi : Nat) (e : Ending) : Prop := ∃ z, e = .returned (.int .i64 z) ∧ IsWin xs lo hi z

theorem minutes31 (x : Int) (w : World) (h0 : 0 ≤ x) : Calls Try.prog 31 #[.int .i64 x] w fun e w' => e = .returned (.int .i64 (minsOf x)) ∧ w' = w := by
  by_cases h : 153722867 < x
  · rw [minsOf_high h]
    go_enter Try.func31, Try.ntmps31
    go_wp2
    go_ret
    exact ⟨rfl, rfl⟩
  · rw [minsOf_low h]
    go_enter Try.func31, Try.ntmps31
    go_wp2
    go_ret
    exact ⟨rfl, rfl⟩

set_option maxHeartbeats 400000 in
set_option maxRecDepth 100000 in
theorem windowOf15 (a : Option Addr) (n c : Nat) (xs : Nat → Int) (w : World) (hn : SlAt w a n fun j => .int .i64 (xs j)) (h0 : ∀ j, j < n → 0 ≤ xs j) :
    Calls Try.prog 15 #[.slice a n c] w fun e w' => WinRes xs 0 n e ∧ w' = w := by
  have hn0 := hn.small
  by_cases h1 : n = 0
  · subst h1
    go_enter Try.func15, Try.ntmps15
    go_wp2
    go_ret
    exact ⟨⟨_, rfl, isWin_none xs⟩, rfl⟩
  · obtain ⟨b, off, _, hix0', hc0⟩ := hn.elem30 (k := 0) (by omega) c
    have hix0 : ∀ w : World, (Instr.indexAt 30 (.slice a n c) (.int .i64 0)).run Try.prog w = .ok (.pointer (some ⟨b, off, none⟩)) w := hix0'
    clear hix0'
    have hx0 := h0 0 (by omega)
    have hne : ((n : Int) == 0) = false := beq_eq_false_iff_ne.2 (by omega)
    go_enter Try.func15, Try.ntmps15
    go_wp2
    go_loop [3, 4] (fun t i => (∃ l : Int, t = .int .i64 l ∧ 0 ≤ l) ∧ ∃ k : Nat, 1 ≤ k ∧ k ≤ n ∧ i = .int .i64 k ∧ (∀ j, j < k → intOf t ≤ xs j) ∧ ∃ j, j < k ∧ intOf t = xs j) (fun _ i => n - (intOf i).toNat)
    case atStart =>
      refine ⟨⟨_, rfl, hx0⟩, 1, Nat.le_refl _, by omega, rfl, ?_, 0, by omega, rfl⟩
      intro j hj
      obtain rfl : j = 0 := by omega
      exact Int.le_refl _
    case round =>
      obtain ⟨⟨l, rfl, hl0⟩, k, hk1, hk, rfl, hle, hex⟩ := hrel
      have Hle : Hid (∀ j, j < k → l ≤ xs j) := hle
      have Hex : Hid (∃ j, j < k ∧ l = xs j) := hex
      clear hle hex
      by_cases hlt : k < n
      · obtain ⟨b', off', _, hix, hc⟩ := hn.elem30 hlt c
        have hxk := h0 k hlt
        by_cases hs : xs k < l
        · go_wp2
          go_round
          case rel =>
            refine ⟨⟨_, rfl, hxk⟩, k + 1, by omega, by omega, by go_num, ?_, k, by omega, rfl⟩
            intro j hj
            by_cases e : j = k
            · subst e; exact Int.le_refl _
            · have := Hle.out j (by omega); show xs k ≤ xs j; omega
          case measure => simp [intOf]; omega
        · go_wp2
          go_round
          case rel =>
            refine ⟨⟨_, rfl, hl0⟩, k + 1, by omega, by omega, by go_num, ?_, ?_⟩
            · intro j hj
              by_cases e : j = k
              · subst e; show l ≤ xs j; omega
              · exact Hle.out j (by omega)
            · obtain ⟨j, hj, e⟩ := Hex.out
              exact ⟨j, by omega, e⟩
          case measure => simp [intOf]; omega
      · have hkn : k = n := by omega
        have hW : Hid (IsWin xs 0 n (minsOf l)) := isWin_of_least h0 (fun j hj => Hle.out j (by omega)) (by obtain ⟨j, hj, e⟩ := Hex.out; exact ⟨j, by omega, e⟩)
        clear hkn
        by_cases hm : 153722867 < l
        · go_wp2
          go_ret
          exact ⟨⟨_, rfl, by rw [← minsOf_high hm]; exact hW.out⟩, rfl⟩
        · go_wp2
          go_ret
          exact ⟨⟨_, rfl, by rw [← minsOf_low (by omega)]; exact hW.out⟩, rfl⟩

/-- What 'zzB1Distinct' answers. -/
def DistRes (ss : Nat → ByteArray) (n : Nat) (e : Ending) : Prop := ∃ b, e = .returned (.bool b) ∧ (b = true → ∀ i j, i < j → j < n → ss i ≠ ss j)

set_option maxHeartbeats 400000 in
theorem distinct12 (a : Option Addr) (n c : Nat) (ss : Nat → ByteArray) (w : World) (hn : SlAt w a n fun j => .string (ss j)) :
    Calls Try.prog 12 #[.slice a n c] w fun e w' => DistRes ss n e ∧ Below w.heap.size w w' := by
  have hn0 := hn.small
  go_enter Try.func12, Try.ntmps12
  go_wp2
  go_loopw [2, 3, 4] (fun r i _ wr => r = .bool false ∧ Below w.heap.size w wr ∧ ∃ k : Nat, k ≤ n ∧ i = .int .i64 k ∧ ∀ p q, p < k → p < q → q < n → ss p ≠ ss q) (fun _ i _ _ => n - (intOf i).toNat)
  case atStart => exact ⟨rfl, Below.refl _ _, 0, Nat.zero_le _, rfl, fun p q h => absurd h (Nat.not_lt_zero _)⟩
  case round =>
    obtain ⟨rfl, hbl, k, hk, rfl, hd⟩ := hrel
    have Hd : Hid (∀ p q, p < k → p < q → q < n → ss p ≠ ss q) := hd
    clear hd
    by_cases hlt : k < n
    · obtain ⟨b1, off1, hb1, hix1, hc1'⟩ := hn.elem29 hlt c
      go_wp2
      go_loopw [2, 4] (fun r i wr => r = .bool false ∧ Below w.heap.size w wr ∧ ∃ q : Nat, k < q ∧ q ≤ n ∧ i = .int .i64 q ∧ ∀ p, k < p → p < q → ss k ≠ ss p) (fun _ i _ => n - (intOf i).toNat)
      case atStart => exact ⟨rfl, hbl, k + 1, by omega, by omega, by go_num, fun p h1 h2 => by omega⟩
      case round =>
        obtain ⟨rfl, hbl2, q, hq0, hq, rfl, hd2⟩ := hrel
        have Hd2 : Hid (∀ p, k < p → p < q → ss k ≠ ss p) := hd2
        clear hd2
        by_cases hlq : q < n
        · obtain ⟨b2, off2, hb2, hix2, hc2'⟩ := hn.elem29 hlq c
          have hc1 : wr.cell? ⟨b1, off1, none⟩ = some (.string (ss k)) := (hbl2.cell (p := ⟨b1, off1, none⟩) hb1).trans hc1'
          have hc2 : wr.cell? ⟨b2, off2, none⟩ = some (.string (ss q)) := (hbl2.cell (p := ⟨b2, off2, none⟩) hb2).trans hc2'
          go_wp2
          go_quiet (fail)
          go_wp2
          · go_ret
            exact ⟨⟨false, rfl, fun h => by cases h⟩, below_drewN hbl2 _⟩
          · have hne : ss k ≠ ss q := fun e => by
              have hb : ((ss k).toList == (ss q).toList) = false := by assumption
              rw [e] at hb
              simp at hb
            go_roundw
            case rel =>
              refine ⟨rfl, below_drewN hbl2 _, q + 1, by omega, by omega, by go_num, fun p h1 h2 => ?_⟩
              by_cases e : p = q
              · subst e; exact hne
              · exact Hd2.out p h1 (by omega)
            case measure => simp [intOf]; omega
        · have hqn : ∀ p, k < p → p < n → ss k ≠ ss p := fun p h1 h2 => Hd2.out p h1 (by omega)
          have Hqn : Hid (∀ p, k < p → p < n → ss k ≠ ss p) := hqn
          clear hqn
          go_wp2
          go_roundw
          case rel =>
            refine ⟨rfl, hbl2, k + 1, by omega, by go_num, fun p q h1 h2 h3 => ?_⟩
            by_cases e : p = k
            · subst e; exact Hqn.out q h2 h3
            · exact Hd.out p q (by omega) h2 h3
          case measure => simp [intOf]; omega
    · go_wp2
      go_ret
      exact ⟨⟨true, rfl, fun _ i j h1 h2 => Hd.out i j (by omega) h1 h2⟩, hbl⟩
end Go.Proofs.Qxb6614063a
