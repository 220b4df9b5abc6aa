/-
  WHAT THE WALKS ARE TOLD OF A SLICE OF STRINGS, OF INTEGERS THAT CAME IN: its length, and, where it is not empty, its place and its cells. Whatever lies below the heap's size stays: 'below'.
-/
import Derived.Test.Qxb6614063aRows
import Derived.WalkKit
import Derived.WalkSpells
import Derived.WalkLawsBesides
namespace Go.Proofs.Qxb6614063a
open Go.RowKit

/-- A slice of one-cell elements of length n at address a, element j the value f j. -/
structure SlAt (w : World) (a : Option Addr) (n : Nat) (f : Nat → Value) : Prop where
  small : n < 4611686018427387904
  spot : 0 < n → ∃ b off, a = some ⟨b, off, none⟩ ∧ b < w.heap.size ∧ ∀ j, j < n → w.cell? ⟨b, off + j, none⟩ = some (f j)

theorem SlAt.below {w w' : World} {a : Option Addr} {n : Nat} {f : Nat → Value} (h : SlAt w a n f) (hb : Below w.heap.size w w') : SlAt w' a n f := by
  refine ⟨h.small, fun hn => ?_⟩
  obtain ⟨b, off, rfl, hlt, hc⟩ := h.spot hn
  exact ⟨b, off, rfl, Nat.lt_of_lt_of_le hlt hb.size, fun j hj => (hb.cell (p := ⟨b, off + j, none⟩) hlt).trans (hc j hj)⟩

theorem SlAt.take {w : World} {a : Option Addr} {n m : Nat} {f : Nat → Value} (h : SlAt w a n f) (hm : m ≤ n) : SlAt w a m f := by
  have := h.small
  refine ⟨by omega, fun hn => ?_⟩
  obtain ⟨b, off, rfl, hlt, hc⟩ := h.spot (by omega)
  exact ⟨b, off, rfl, hlt, fun j hj => hc j (by omega)⟩

/-- The call has returned some bool, some integer. -/
def AnyBool (e : Ending) : Prop := ∃ b, e = .returned (.bool b)
def AnyInt (e : Ending) : Prop := ∃ z, e = .returned (.int .i64 z)

theorem cells9 : Try.prog.cellsOf 9 = 1 := by kernel_rfl
theorem cells3 : Try.prog.cellsOf 3 = 1 := by kernel_rfl

/-- What the walk wants of element k: its address, and the cell there. -/
theorem SlAt.elem29 {w : World} {a : Option Addr} {n : Nat} {f : Nat → Value} (h : SlAt w a n f) {k : Nat} (hk : k < n) (c : Nat) :
    ∃ b off, b < w.heap.size ∧ (∀ w : World, (Instr.indexAt 29 (.slice a n c) (.int .i64 k)).run Try.prog w = .ok (.pointer (some ⟨b, off, none⟩)) w) ∧ w.cell? ⟨b, off, none⟩ = some (f k) := by
  obtain ⟨b, off, rfl, hlt, hc⟩ := h.spot (by omega)
  refine ⟨b, off + k, hlt, fun w => ?_, hc k hk⟩
  have h1 : (k : Int) < (n : Int) := by omega
  have h2 : (0 : Int) ≤ (k : Int) := by omega
  go_simp

theorem SlAt.elem30 {w : World} {a : Option Addr} {n : Nat} {f : Nat → Value} (h : SlAt w a n f) {k : Nat} (hk : k < n) (c : Nat) :
    ∃ b off, b < w.heap.size ∧ (∀ w : World, (Instr.indexAt 30 (.slice a n c) (.int .i64 k)).run Try.prog w = .ok (.pointer (some ⟨b, off, none⟩)) w) ∧ w.cell? ⟨b, off, none⟩ = some (f k) := by
  obtain ⟨b, off, rfl, hlt, hc⟩ := h.spot (by omega)
  refine ⟨b, off + k, hlt, fun w => ?_, hc k hk⟩
  have h1 : (k : Int) < (n : Int) := by omega
  have h2 : (0 : Int) ≤ (k : Int) := by omega
  go_simp

end Go.Proofs.Qxb6614063a
