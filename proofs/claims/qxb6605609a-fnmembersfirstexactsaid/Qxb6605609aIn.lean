/-
  WHAT THE WALKS ARE TOLD OF SLICES THAT CAME IN; WHAT A STRETCH OF THE WALK LEAVES AS IT WAS ('KB').
-/
import Derived.Test.Qxb6605609aRows
import Derived.WalkKit
import Derived.WalkSpells
import Derived.WalkLawsBesides
import Derived.Deep.OwnRows
import Derived.BigQuiet
import Derived.OwnWalk
namespace Go.Proofs.Qxb6605609a
open Go.RowKit

/-- All but the old blocks of M is as it was. -/
structure KB (M : Nat → Prop) (w w' : World) : Prop where
  os : w'.os = w.os
  tape : w'.tape = w.tape
  output : w'.output = w.output
  size : w.heap.size ≤ w'.heap.size
  block : ∀ k, k < w.heap.size → ¬ M k → w'.heap[k]? = w.heap[k]?

theorem KB.refl (M : Nat → Prop) (w : World) : KB M w w := ⟨rfl, rfl, rfl, Nat.le_refl _, fun _ _ _ => rfl⟩
theorem KB.mono {M M' : Nat → Prop} {w w' : World} (h : KB M w w') (hM : ∀ k, k < w.heap.size → M k → M' k) : KB M' w w' := ⟨h.os, h.tape, h.output, h.size, fun k hk hn => h.block k hk fun hm => hn (hM k hk hm)⟩
theorem KB.trans {M M' : Nat → Prop} {a b c : World} (h : KB M a b) (g : KB M' b c) (hM : ∀ k, k < a.heap.size → M' k → M k) : KB M a c :=
  ⟨g.os.trans h.os, g.tape.trans h.tape, g.output.trans h.output, Nat.le_trans h.size g.size, fun k hk hn => (g.block k (Nat.lt_of_lt_of_le hk h.size) fun hm => hn (hM k hk hm)).trans (h.block k hk hn)⟩
theorem KB.below {M : Nat → Prop} {a b c : World} (h : KB M a b) (g : Below b.heap.size b c) : KB M a c :=
  ⟨g.os.trans h.os, g.tape.trans h.tape, g.output.trans h.output, Nat.le_trans h.size g.size, fun k hk hn => (g.block k (Nat.lt_of_lt_of_le hk h.size)).trans (h.block k hk hn)⟩
theorem KB.of (M : Nat → Prop) {w w' : World} (g : Below w.heap.size w w') : KB M w w' := (KB.refl M w).below g
theorem KB.toBelow {M : Nat → Prop} {w w' : World} (h : KB M w w') {B : Nat} (hB : B ≤ w.heap.size) (hM : ∀ k, k < B → ¬ M k) : Below B w w' := ⟨h.os, h.tape, h.output, h.size, fun k hk => h.block k (Nat.lt_of_lt_of_le hk hB) (hM k hk)⟩
theorem KB.drew {M : Nat → Prop} {a w : World} (h : KB M a w) : KB M a w.drew := ⟨h.os, h.tape, h.output, h.size, h.block⟩
theorem KB.alloc {M : Nat → Prop} {a w : World} (h : KB M a w) (o : Obj) : KB M a (w.alloc o) :=
  ⟨h.os, h.tape, h.output, by have := h.size; simp; omega, fun k hk hn => (Below.heap_alloc w o k (Nat.lt_of_lt_of_le hk h.size)).trans (h.block k hk hn)⟩
theorem KB.setCell {M : Nat → Prop} {a w : World} (h : KB M a w) {p : Addr} (hp : p.block < a.heap.size → M p.block) (u : Value) : KB M a (w.setCell p u) :=
  ⟨h.os, h.tape, h.output, by have := h.size; simpa using this, fun k hk hn => (Below.heap_setCell w p u k (fun e => hn (by rw [e]; exact hp (by rw [← e]; exact hk)))).trans (h.block k hk hn)⟩
theorem KB.grown {M : Nat → Prop} {a w w' : World} {row : Option Nat} (h : KB M a w) (hg : w.grownBy w' row) (hr : ∀ k, row = some k → k < a.heap.size → M k) : KB M a w' :=
  ⟨hg.os.trans h.os, hg.tape.trans h.tape, hg.output.trans h.output, Nat.le_trans h.size hg.size, fun k hk hn => (hg.block k (Nat.lt_of_lt_of_le hk h.size) (fun e => hn (hr k e.symm hk))).trans (h.block k hk hn)⟩
theorem KB.cell {M : Nat → Prop} {w w' : World} (h : KB M w w') {p : Addr} (hp : p.block < w.heap.size) (hn : ¬ M p.block) : w'.cell? p = w.cell? p := World.cell?_of_block (h.block p.block hp hn)

/-- A slice of one-cell elements of length n at address a, element j the value f j. -/
structure SlAt (w : World) (a : Option Addr) (n : Nat) (f : Nat → Value) : Prop where
  small : n < 4611686018427387904
  spot : 0 < n → ∃ b off, a = some ⟨b, off, none⟩ ∧ b < w.heap.size ∧ ∀ j, j < n → w.cell? ⟨b, off + j, none⟩ = some (f j)

theorem SlAt.below {w w' : World} {a : Option Addr} {n : Nat} {f : Nat → Value} (h : SlAt w a n f) (hb : Below w.heap.size w w') : SlAt w' a n f := by
  refine ⟨h.small, fun hn => ?_⟩
  obtain ⟨b, off, rfl, hlt, hc⟩ := h.spot hn
  exact ⟨b, off, rfl, Nat.lt_of_lt_of_le hlt hb.size, fun j hj => (hb.cell (p := ⟨b, off + j, none⟩) hlt).trans (hc j hj)⟩

theorem SlAt.spotAt {w : World} {a : Option Addr} {n : Nat} {f : Nat → Value} (h : SlAt w a n f) {k : Nat} (hk : k < n) : ∃ b off, a = some ⟨b, off, none⟩ ∧ b < w.heap.size ∧ w.cell? ⟨b, off + k, none⟩ = some (f k) := by
  obtain ⟨b, off, e, hlt, hc⟩ := h.spot (by omega)
  exact ⟨b, off, e, hlt, hc k hk⟩

/-- What the walk wants of element k: its address, and the cell there. -/
theorem SlAt.elem22 {w : World} {a : Option Addr} {n : Nat} {f : Nat → Value} (h : SlAt w a n f) {k : Nat} (hk : k < n) (c : Nat) :
    ∃ b off, b < w.heap.size ∧ (∀ w : World, (Instr.indexAt 22 (.slice a n c) (.int .i64 k)).run Try.prog w = .ok (.pointer (some ⟨b, off, none⟩)) w) ∧ w.cell? ⟨b, off, none⟩ = some (f k) := by
  obtain ⟨b, off, rfl, hlt, hc⟩ := h.spotAt hk
  refine ⟨b, off + k, hlt, fun w => ?_, hc⟩
  have h1 : (k : Int) < (n : Int) := by omega
  have h2 : (0 : Int) ≤ (k : Int) := by omega
  go_simp
theorem SlAt.elem23 {w : World} {a : Option Addr} {n : Nat} {f : Nat → Value} (h : SlAt w a n f) {k : Nat} (hk : k < n) (c : Nat) :
    ∃ b off, b < w.heap.size ∧ (∀ w : World, (Instr.indexAt 23 (.slice a n c) (.int .i64 k)).run Try.prog w = .ok (.pointer (some ⟨b, off, none⟩)) w) ∧ w.cell? ⟨b, off, none⟩ = some (f k) := by
  obtain ⟨b, off, rfl, hlt, hc⟩ := h.spotAt hk
  refine ⟨b, off + k, hlt, fun w => ?_, hc⟩
  have h1 : (k : Int) < (n : Int) := by omega
  have h2 : (0 : Int) ≤ (k : Int) := by omega
  go_simp
theorem SlAt.elem40 {w : World} {a : Option Addr} {n : Nat} {f : Nat → Value} (h : SlAt w a n f) {k : Nat} (hk : k < n) (c : Nat) :
    ∃ b off, b < w.heap.size ∧ (∀ w : World, (Instr.indexAt 40 (.slice a n c) (.int .i64 k)).run Try.prog w = .ok (.pointer (some ⟨b, off, none⟩)) w) ∧ w.cell? ⟨b, off, none⟩ = some (f k) := by
  obtain ⟨b, off, rfl, hlt, hc⟩ := h.spotAt hk
  refine ⟨b, off + k, hlt, fun w => ?_, hc⟩
  have h1 : (k : Int) < (n : Int) := by omega
  have h2 : (0 : Int) ≤ (k : Int) := by omega
  go_simp
theorem SlAt.elem43 {w : World} {a : Option Addr} {n : Nat} {f : Nat → Value} (h : SlAt w a n f) {k : Nat} (hk : k < n) (c : Nat) :
    ∃ b off, b < w.heap.size ∧ (∀ w : World, (Instr.indexAt 43 (.slice a n c) (.int .i64 k)).run Try.prog w = .ok (.pointer (some ⟨b, off, none⟩)) w) ∧ w.cell? ⟨b, off, none⟩ = some (f k) := by
  obtain ⟨b, off, rfl, hlt, hc⟩ := h.spotAt hk
  refine ⟨b, off + k, hlt, fun w => ?_, hc⟩
  have h1 : (k : Int) < (n : Int) := by omega
  have h2 : (0 : Int) ≤ (k : Int) := by omega
  go_simp

/-- A list of lists of strings. -/
structure Lists (w : World) (a : Option Addr) (n : Nat) (la : Nat → Option Addr) (ln lc : Nat → Nat) (ms : Nat → Nat → ByteArray) : Prop where
  outer : SlAt w a n fun k => .slice (la k) (ln k) (lc k)
  inner : ∀ k, k < n → SlAt w (la k) (ln k) fun j => .string (ms k j)

theorem Lists.below {w w' : World} {a : Option Addr} {n : Nat} {la : Nat → Option Addr} {ln lc : Nat → Nat} {ms : Nat → Nat → ByteArray} (h : Lists w a n la ln lc ms) (hb : Below w.heap.size w w') : Lists w' a n la ln lc ms :=
  ⟨h.outer.below hb, fun k hk => (h.inner k hk).below hb⟩

/-- The call has returned some bool, some integer that is not small below zero nor great. -/
def AnyBool (e : Ending) : Prop := ∃ b, e = .returned (.bool b)
/-- p holds of n where the count is small. -/
def AnyCount (B : Int) (p : Int → Prop) (e : Ending) : Prop := ∃ z : Int, e = .returned (.int .i64 z) ∧ 0 ≤ z ∧ z ≤ B ∧ (z ≤ 2097152 → p z)

set_option maxHeartbeats 400000 in
theorem strBytes8 (a : Option Addr) (n c : Nat) (ss : Nat → ByteArray) (w : World) (hs : SlAt w a n fun j => .string (ss j)) (hb : ∀ j, (ss j).size ≤ maxLen) :
    Calls Try.prog 8 #[.slice a n c] w fun e w' => AnyCount 4194400 (fun z => 16 * (n : Int) ≤ z) e ∧ w' = w := by
  unfold maxLen at hb
  have hn0 := hs.small
  go_enter Try.func8, Try.ntmps8
  go_wp2_with fail
  go_loop [3, 4, 5] (fun v vi _ => ∃ (k : Nat) (t : Int), k ≤ n ∧ vi = .int .i64 k ∧ v = .int .i64 t ∧ 0 ≤ t ∧ t ≤ 2097152 ∧ 16 * (k : Int) ≤ t) (fun _ vi _ => n - (intOf vi).toNat)
  case atStart => exact ⟨0, 0, Nat.zero_le _, rfl, rfl, by omega, by omega, by omega⟩
  case round =>
    obtain ⟨k, t, hk, rfl, rfl, ht0, ht1, ht2⟩ := hrel
    by_cases hlt : k < n
    · obtain ⟨b1, o1, _, hix1, hc1⟩ := hs.elem22 hlt c
      have hsz := hb k
      by_cases h1 : (2097152 : Int) < ((ss k).size : Int)
      · go_wp2_with fail
        go_ret
        exact ⟨⟨_, rfl, by omega, by omega, fun h => absurd h (by omega)⟩, rfl⟩
      · by_cases h2 : (2097152 : Int) < t + (16 + ((ss k).size : Int))
        · go_wp2_with fail
          go_ret
          exact ⟨⟨_, rfl, by omega, by omega, fun h => absurd h (by omega)⟩, rfl⟩
        · go_wp2_with fail
          go_round
          case rel => exact ⟨k + 1, _, by omega, by go_num, rfl, by omega, by omega, by omega⟩
          case measure => simp [intOf]; omega
    · go_wp2_with fail
      go_ret
      exact ⟨⟨_, rfl, by omega, by omega, fun _ => by omega⟩, rfl⟩

set_option maxHeartbeats 400000 in
theorem listsBytes9 (a : Option Addr) (n c : Nat) (la : Nat → Option Addr) (ln lc : Nat → Nat) (ms : Nat → Nat → ByteArray) (w : World) (hs : Lists w a n la ln lc ms) (hb : ∀ k j, (ms k j).size ≤ maxLen) :
    Calls Try.prog 9 #[.slice a n c] w fun e w' => AnyCount 8388608 (fun z => ∀ k, k < n → 16 * (ln k : Int) ≤ z) e ∧ w' = w := by
  have hn0 := hs.outer.small
  go_enter Try.func9, Try.ntmps9
  go_wp2_with fail
  go_loop [3, 4] (fun v vi => ∃ (k : Nat) (t : Int), k ≤ n ∧ vi = .int .i64 k ∧ v = .int .i64 t ∧ 0 ≤ t ∧ t ≤ 2097152 ∧ Hid (∀ q, q < k → 16 * (ln q : Int) ≤ t)) (fun _ vi => n - (intOf vi).toNat)
  case atStart => exact ⟨0, 0, Nat.zero_le _, rfl, rfl, by omega, by omega, fun q hq => by omega⟩
  case round =>
    obtain ⟨k, t, hk, rfl, rfl, ht0, ht1, ht2⟩ := hrel
    by_cases hlt : k < n
    · obtain ⟨b1, o1, _, hix1, hc1⟩ := hs.outer.elem23 hlt c
      go_wp2_with fail
      refine (strBytes8 (la k) (ln k) (lc k) (ms k) _ (hs.inner k hlt) (hb k)).mono ?_
      rintro e w' ⟨⟨z, rfl, hz0, hz1, hz2⟩, rfl⟩
      have Hz2 : Hid (z ≤ 2097152 → 16 * (ln k : Int) ≤ z) := hz2
      clear hz2
      by_cases h2 : (2097152 : Int) < t + (24 + z)
      · go_wp2_with fail
        go_ret
        exact ⟨⟨_, rfl, by omega, by omega, fun h => absurd h (by omega)⟩, rfl⟩
      · go_wp2_with fail
        go_round
        case rel =>
          refine ⟨k + 1, _, by omega, by go_num, rfl, by omega, by omega, fun q hq => ?_⟩
          by_cases e : q = k
          · have := Hz2.out (by omega)
            rw [e]
            omega
          · have := ht2.out q (by omega)
            omega
        case measure => simp [intOf]; omega
    · go_wp2_with fail
      go_ret
      exact ⟨⟨_, rfl, by omega, by omega, fun _ q hq => ht2.out q (by omega)⟩, rfl⟩

end Go.Proofs.Qxb6605609a
