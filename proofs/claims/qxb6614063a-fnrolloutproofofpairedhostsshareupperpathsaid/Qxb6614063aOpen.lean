/-
  FROM THE ROW's READING OF A SLICE OF STRINGS | OF INTEGERS TO WHAT THE WALKS ARE TOLD ('SlAt').
-/
import Derived.Test.Qxb6614063aIn
import Derived.ProofKit
import Derived.OpenShut
import Derived.ShutString
import Derived.ChangeOld
import Derived.Below
import Derived.SliceStrings
import Derived.SizedLaws
namespace Go.Proofs.Qxb6614063a
open Go.ChangeShapes Go.WideShapes Go.ChangeAt Go.RowKit

theorem own : ownKnob Try.prog.godebug = none := by kernel_rfl
theorem laidOut : laidOutB Try.prog = true := by kernel_rfl
theorem bytes9 : Try.prog.bytesOf 9 = 16 := by kernel_rfl
theorem bytes3 : Try.prog.bytesOf 3 = 8 := by kernel_rfl

theorem open29 {H : Type} {enc : TypeId × Value → H} {W : World} {a : Option Addr} {len cap : Nat} {d : DataW H} {p : List MemPlace} (h : DataW.Trod enc Try.prog W 0 (fun _ => true) true 29 (.slice a len cap) d p)
    (hsz : ∀ elems spare, d = .slice elems spare → (elems.length + spare.length) * Try.prog.bytesOf 9 ≤ reachBytes) :
    ∃ ss : Nat → ByteArray, SlAt W a len (fun j => .string (ss j)) ∧ (∀ j, (ss j).size ≤ maxLen) ∧ len ≤ cap ∧ cap < 4611686018427387904 := by
  have lt : ∀ x ∈ p, x.block < W.heap.size := by obtain ⟨m, hm⟩ := h; exact DataW.trod_lt m _ _ _ hm
  obtain ⟨fuel, hf⟩ := h
  rcases open_strings Try.underlying29 Try.underlying9 cells9 hf with ⟨hcs, _⟩ | ⟨x, l, c, zs, hcs, _, hl, hm, hz, hx, hcell, hwz⟩
  · simp [Value.cells] at hcs
    obtain ⟨rfl, rfl, rfl⟩ := hcs
    exact ⟨fun _ => ByteArray.empty, ⟨by omega, fun h => by omega⟩, fun _ => Nat.zero_le _, Nat.le_refl _, by omega⟩
  · simp [Value.cells] at hcs
    obtain ⟨rfl, rfl, rfl⟩ := hcs
    simp only [Prod.mk.injEq] at hx
    obtain ⟨rfl, rfl⟩ := hx
    simp only [if_true] at hz
    have hs := hsz _ _ rfl
    rw [bytes9] at hs
    have hr := reachBytes_lt
    simp [strs] at hs
    have hlz : min len zs.length = len := by omega
    refine ⟨fun j => zs.getD j ByteArray.empty, ⟨by omega, fun hn => ?_⟩, fun j => ?_, hl, by omega⟩
    · obtain ⟨b, off, spot⟩ := x
      have hspot : spot = none := by simpa [Addr.add] using World.cell?_spot (hcell 0 (by omega))
      subst hspot
      refine ⟨b, off, rfl, lt (.cell b off) (MemPlace.mem_row.2 ⟨0, by omega, by simp⟩), fun j hj => ?_⟩
      rw [← add_plain]
      exact hcell j (by omega)
    · dsimp only
      by_cases hj : j < zs.length
      · rw [List.getD_eq_getElem?_getD, List.getElem?_eq_getElem hj]
        exact hwz _ (List.getElem_mem hj)
      · rw [List.getD_eq_getElem?_getD, List.getElem?_eq_none (by omega)]
        decide

theorem open30 {H : Type} {enc : TypeId × Value → H} {W : World} {a : Option Addr} {len cap : Nat} {d : DataW H} {p : List MemPlace} (h : DataW.Trod enc Try.prog W 0 (fun _ => true) true 30 (.slice a len cap) d p)
    (hsz : ∀ elems spare, d = .slice elems spare → (elems.length + spare.length) * Try.prog.bytesOf 3 ≤ reachBytes) :
    ∃ xs : Nat → Int, SlAt W a len (fun j => .int .i64 (xs j)) ∧ (∀ j, -9223372036854775808 ≤ xs j ∧ xs j ≤ 9223372036854775807) ∧ len ≤ cap ∧ cap < 4611686018427387904 := by
  have lt : ∀ x ∈ p, x.block < W.heap.size := by obtain ⟨m, hm⟩ := h; exact DataW.trod_lt m _ _ _ hm
  obtain ⟨fuel, hf⟩ := h
  rcases open_ints Try.underlying30 Try.underlying3 cells3 hf with ⟨hcs, _⟩ | ⟨x, l, c, zs, hcs, _, hl, hm, hz, hx, hcell, hwz⟩
  · simp [Value.cells] at hcs
    obtain ⟨rfl, rfl, rfl⟩ := hcs
    exact ⟨fun _ => 0, ⟨by omega, fun h => by omega⟩, fun _ => ⟨by dsimp only; omega, by dsimp only; omega⟩, Nat.le_refl _, by omega⟩
  · simp [Value.cells] at hcs
    obtain ⟨rfl, rfl, rfl⟩ := hcs
    simp only [Prod.mk.injEq] at hx
    obtain ⟨rfl, rfl⟩ := hx
    simp only [if_true] at hz
    have hs := hsz _ _ rfl
    rw [bytes3] at hs
    have hr := reachBytes_lt
    simp [lits] at hs
    have hlz : min len zs.length = len := by omega
    refine ⟨fun j => zs.getD j 0, ⟨by omega, fun hn => ?_⟩, fun j => ?_, hl, by omega⟩
    · obtain ⟨b, off, spot⟩ := x
      have hspot : spot = none := by simpa [Addr.add] using World.cell?_spot (hcell 0 (by omega))
      subst hspot
      refine ⟨b, off, rfl, lt (.cell b off) (MemPlace.mem_row.2 ⟨0, by omega, by simp⟩), fun j hj => ?_⟩
      rw [← add_plain]
      exact hcell j (by omega)
    · dsimp only
      by_cases hj : j < zs.length
      · rw [List.getD_eq_getElem?_getD, List.getElem?_eq_getElem hj]
        have := hwz _ (List.getElem_mem hj)
        simp [Lit.wf, IntKind.min, IntKind.max, IntKind.signed, IntKind.bits] at this
        exact ⟨by simpa using this.1, by simpa using this.2⟩
      · rw [List.getD_eq_getElem?_getD, List.getElem?_eq_none (by omega)]
        exact ⟨by decide, by decide⟩

end Go.Proofs.Qxb6614063a
