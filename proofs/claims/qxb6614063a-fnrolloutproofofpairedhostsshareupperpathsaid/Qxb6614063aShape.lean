/-
  THE SHAPE OF THE INPUT OF THE ROLLOUT LAWS: the levels of the tree as they came in; zzB1StrictlyAscending, zzB1TreeShaped, zzB1Entries.
-/
import Derived.Test.Qxb6614063aSearch
import Derived.Deep.QuietTactic
import Derived.BigQuiet
import Derived.WalkSmall
import Derived.RegionTactic
import Derived.BigRegion
namespace Go.Proofs.Qxb6614063a
open Go.RowKit

/-- The levels: n slices, slice k of ln k digests of 32 bytes. -/
structure LevAt (w : World) (a : Option Addr) (n : Nat) (la : Nat → Option Addr) (ln lc : Nat → Nat) (bs : Nat → Nat → Nat → Int) : Prop where
  outer : SlAt w a n fun k => .slice (la k) (ln k) (lc k)
  small : ∀ k, ln k < 4611686018427387904
  bytes : ∀ k s i, 0 ≤ bs k s i ∧ bs k s i < 256
  inner : ∀ k, k < n → 0 < ln k → ∃ b off, la k = some ⟨b, off, none⟩ ∧ b < w.heap.size ∧ ∀ s i, s < ln k → i < 32 → w.cell? ⟨b, off + s * 32 + i, none⟩ = some (.int .u8 (bs k s i))

theorem LevAt.below {w w' : World} {a : Option Addr} {n : Nat} {la : Nat → Option Addr} {ln lc : Nat → Nat} {bs : Nat → Nat → Nat → Int} (h : LevAt w a n la ln lc bs) (hb : Below w.heap.size w w') : LevAt w' a n la ln lc bs := by
  refine ⟨h.outer.below hb, h.small, h.bytes, fun k hk hl => ?_⟩
  obtain ⟨b, off, e, hlt, hc⟩ := h.inner k hk hl
  exact ⟨b, off, e, Nat.lt_of_lt_of_le hlt hb.size, fun s i hs hi => (hb.cell (p := ⟨b, off + s * 32 + i, none⟩) hlt).trans (hc s i hs hi)⟩

theorem SlAt.elem41 {w : World} {a : Option Addr} {n : Nat} {f : Nat → Value} (h : SlAt w a n f) {k : Nat} (hk : k < n) (c : Nat) :
    ∃ b off, b < w.heap.size ∧ (∀ w : World, (Instr.indexAt 41 (.slice a n c) (.int .i64 k)).run Try.prog w = .ok (.pointer (some ⟨b, off, none⟩)) w) ∧ w.cell? ⟨b, off, none⟩ = some (f k) := by
  obtain ⟨b, off, rfl, hlt, hc⟩ := h.spot (by omega)
  refine ⟨b, off + k, hlt, fun w => ?_, hc k hk⟩
  have h1 : (k : Int) < (n : Int) := by omega
  have h2 : (0 : Int) ≤ (k : Int) := by omega
  go_simp

/-- What zzB1StrictlyAscending answers. -/
def AscRes (ss : Nat → ByteArray) (n : Nat) (e : Ending) : Prop := ∃ b, e = .returned (.bool b) ∧ (b = true → Asc ss n)

set_option maxHeartbeats 400000 in
theorem ascending19 (a : Option Addr) (n c : Nat) (ss : Nat → ByteArray) (w : World) (hn : SlAt w a n fun j => .string (ss j)) :
    Calls Try.prog 19 #[.slice a n c] w fun e w' => AscRes ss n e ∧ Below w.heap.size w w' := by
  have hn0 := hn.small
  go_enter Try.func19, Try.ntmps19
  go_wp2
  go_loopw [2, 3] (fun r i wr => r = .bool false ∧ Below w.heap.size w wr ∧ ∃ k : Nat, (1 ≤ k) ∧ (k ≤ n ∨ k = 1) ∧ i = .int .i64 k ∧ ∀ p, p + 1 < k → Op.bytesLess (ss p).toList (ss (p + 1)).toList = true) (fun _ i _ => n - (intOf i).toNat)
  case atStart => exact ⟨rfl, Below.refl _ _, 1, Nat.le_refl _, Or.inr rfl, rfl, fun p h => by omega⟩
  case round =>
    obtain ⟨rfl, hbl, k, hk1, hk, rfl, hd⟩ := hrel
    have Hd : Hid (∀ p, p + 1 < k → Op.bytesLess (ss p).toList (ss (p + 1)).toList = true) := hd
    clear hd
    by_cases hlt : k < n
    · obtain ⟨b1, o1, hb1, hix1', hc1'⟩ := hn.elem29 (k := k - 1) (by omega) c
      obtain ⟨b2, o2, hb2, hix2, hc2'⟩ := hn.elem29 (k := k) hlt c
      have hc1 : wr.cell? ⟨b1, o1, none⟩ = some (.string (ss (k - 1))) := (hbl.cell (p := ⟨b1, o1, none⟩) hb1).trans hc1'
      have hc2 : wr.cell? ⟨b2, o2, none⟩ = some (.string (ss k)) := (hbl.cell (p := ⟨b2, o2, none⟩) hb2).trans hc2'
      have hix1 : ∀ w : World, (Instr.indexAt 29 (.slice a n c) (.int .i64 ((k : Int) - 1))).run Try.prog w = .ok (.pointer (some ⟨b1, o1, none⟩)) w := by
        rw [show ((k : Int) - 1) = ((k - 1 : Nat) : Int) by omega]; exact hix1'
      clear hix1'
      go_wp2
      go_quiet (fail)
      go_wp2
      · go_ret
        exact ⟨⟨false, rfl, fun h => by cases h⟩, below_drewN hbl _⟩
      · have hb0 : (!Op.bytesLess (ss (k - 1)).toList (ss k).toList) = false := by assumption
        have hb : Op.bytesLess (ss (k - 1)).toList (ss k).toList = true := by simpa using hb0
        clear hb0
        go_roundw
        case rel =>
          refine ⟨rfl, below_drewN hbl _, k + 1, by omega, by omega, by go_num, fun p hp => ?_⟩
          by_cases e : p + 1 = k
          · subst e; exact hb
          · exact Hd.out p (by omega)
        case measure => simp [intOf]; omega
    · go_wp2
      go_ret
      exact ⟨⟨true, rfl, fun _ p hp => Hd.out p (by omega)⟩, hbl⟩

/-- The shape of a host tree over n leaves. -/
structure TreeOk (n m : Nat) (ln : Nat → Nat) : Prop where
  n1 : 1 ≤ n
  m1 : 1 ≤ m
  leaves : ln 0 = n
  halves : ∀ k, k + 1 < m → 2 ≤ ln k ∧ ln (k + 1) = (ln k + 1) / 2
  root : ln (m - 1) = 1

def TreeRes (n m : Nat) (ln : Nat → Nat) (e : Ending) : Prop := ∃ b, e = .returned (.bool b) ∧ (b = true → TreeOk n m ln)

set_option maxHeartbeats 400000 in
theorem treeShaped20 (a : Option Addr) (n m c : Nat) (la : Nat → Option Addr) (ln lc : Nat → Nat) (bs : Nat → Nat → Nat → Int) (w : World) (hn : n ≤ 4096) (hL : LevAt w a m la ln lc bs) :
    Calls Try.prog 20 #[.int .i64 n, .slice a m c] w fun e w' => TreeRes n m ln e ∧ Below w.heap.size w w' := by
  have hm0 := hL.outer.small
  have HS : Hid (∀ k, ln k < 4611686018427387904) := hL.small
  by_cases h1 : (n : Int) < 1
  · go_enter Try.func20, Try.ntmps20
    go_wp2
    go_ret
    exact ⟨⟨false, rfl, fun h => by cases h⟩, Below.refl _ _⟩
  by_cases h2 : (m : Int) < 1
  · go_enter Try.func20, Try.ntmps20
    go_wp2
    go_ret
    exact ⟨⟨false, rfl, fun h => by cases h⟩, Below.refl _ _⟩
  obtain ⟨b0, o0, hb0, hix0', hc0⟩ := hL.outer.elem41 (k := 0) (by omega) c
  have hix0 : ∀ w : World, (Instr.indexAt 41 (.slice a m c) (.int .i64 0)).run Try.prog w = .ok (.pointer (some ⟨b0, o0, none⟩)) w := hix0'
  clear hix0'
  have hs0 := HS.out 0
  have hd1 : decide ((n : Int) < 1) = false := by simp; omega
  have hd2 : decide ((m : Int) < 1) = false := by simp; omega
  by_cases h3 : ln 0 = n
  · have hd3 : ((ln 0 : Int) != (n : Int)) = false := by simp [h3]
    have H3 : Hid (ln 0 = n) := h3
    clear h3
    go_enter Try.func20, Try.ntmps20
    go_wp2
    go_loopw [4, 6] (fun r i wr => r = .bool false ∧ Below w.heap.size w wr ∧ ∃ k : Nat, k + 1 ≤ m ∧ i = .int .i64 k ∧ ∀ p, p < k → 2 ≤ ln p ∧ ln (p + 1) = (ln p + 1) / 2) (fun _ i _ => m - (intOf i).toNat)
    case atStart => exact ⟨rfl, Below.refl _ _, 0, by omega, rfl, fun p h => absurd h (Nat.not_lt_zero _)⟩
    case round =>
      obtain ⟨rfl, hbl, k, hk, rfl, hd⟩ := hrel
      have Hd : Hid (∀ p, p < k → 2 ≤ ln p ∧ ln (p + 1) = (ln p + 1) / 2) := hd
      clear hd
      obtain ⟨b1, o1, hb1, hix1, hc1'⟩ := hL.outer.elem41 (k := k) (by omega) c
      have hc1 : wr.cell? ⟨b1, o1, none⟩ = some (.slice (la k) (ln k) (lc k)) := (hbl.cell (p := ⟨b1, o1, none⟩) hb1).trans hc1'
      have hs1 := HS.out k
      by_cases hlt : k + 1 < m
      · obtain ⟨b2, o2, hb2, hix2', hc2'⟩ := hL.outer.elem41 (k := k + 1) (by omega) c
        have hc2 : wr.cell? ⟨b2, o2, none⟩ = some (.slice (la (k + 1)) (ln (k + 1)) (lc (k + 1))) := (hbl.cell (p := ⟨b2, o2, none⟩) hb2).trans hc2'
        have hix2 : ∀ w : World, (Instr.indexAt 41 (.slice a m c) (.int .i64 ((k : Int) + 1))).run Try.prog w = .ok (.pointer (some ⟨b2, o2, none⟩)) w := hix2'
        clear hix2'
        have hs2 := HS.out (k + 1)
        by_cases h5 : (ln k : Int) < 2
        · go_wp2
          go_quiet (fail)
          go_wp2
          go_ret
          exact ⟨⟨false, rfl, fun h => by cases h⟩, below_drewN hbl _⟩
        · have hd5 : decide ((ln k : Int) < 2) = false := by simp; omega
          go_wp2
          go_quiet (fail)
          go_wp2
          · go_ret
            exact ⟨⟨false, rfl, fun h => by cases h⟩, below_drewN hbl _⟩
          · have hq : ((ln (k + 1) : Int) != ((ln k : Int) + 1) / 2) = false := by assumption
            have hq2 : (ln (k + 1) : Int) = ((ln k : Int) + 1) / 2 := by simpa using hq
            go_roundw
            case rel =>
              refine ⟨rfl, below_drewN hbl _, k + 1, by omega, by go_num, fun p hp => ?_⟩
              by_cases e : p = k
              · subst e; exact ⟨by omega, by omega⟩
              · exact Hd.out p (by omega)
            case measure => simp [intOf]; omega
      · have hixm : ∀ w : World, (Instr.indexAt 41 (.slice a m c) (.int .i64 ((m : Int) - 1))).run Try.prog w = .ok (.pointer (some ⟨b1, o1, none⟩)) w := by
          rw [show ((m : Int) - 1) = (k : Int) by omega]; exact hix1
        clear hix1 hix0
        by_cases h6 : ln k = 1
        · have hd6 : ((ln k : Int) == 1) = true := beq_iff_eq.2 (by omega)
          have H6 : Hid (ln k = 1) := h6
          clear h6
          go_wp2
          go_ret
          refine ⟨⟨true, rfl, fun _ => ⟨by omega, by omega, H3.out, fun p hp => Hd.out p (by omega), ?_⟩⟩, hbl⟩
          rw [show m - 1 = k by omega]
          exact H6.out
        · have hd6 : ((ln k : Int) == 1) = false := beq_eq_false_iff_ne.2 (by omega)
          clear h6
          go_wp2
          go_ret
          exact ⟨⟨false, rfl, fun h => by cases h⟩, hbl⟩
  · have hd3 : ((ln 0 : Int) != (n : Int)) = true := by rw [bne_iff_ne]; omega
    clear h3
    go_enter Try.func20, Try.ntmps20
    go_wp2
    go_ret
    exact ⟨⟨false, rfl, fun h => by cases h⟩, Below.refl _ _⟩

end Go.Proofs.Qxb6614063a
