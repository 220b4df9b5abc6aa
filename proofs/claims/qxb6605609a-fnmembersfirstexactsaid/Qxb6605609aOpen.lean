/-
  FROM THE ROW's READING OF A SLICE OF STRINGS, OF A SLICE OF SUCH, TO WHAT THE WALKS ARE TOLD.
-/
import Derived.Test.Qxb6605609aIn
import Derived.ProofKit
import Derived.OpenShut
import Derived.ShutString
import Derived.ChangeOld
import Derived.Below
import Derived.SliceStrings
import Derived.SizedLaws
import Derived.Deep.Slices
namespace Go.Proofs.Qxb6605609a
open Go.ChangeShapes Go.WideShapes Go.ChangeAt Go.RowKit

theorem own : ownKnob Try.prog.godebug = none := by kernel_rfl
theorem laidOut : laidOutB Try.prog = true := by kernel_rfl
theorem bytes9 : Try.prog.bytesOf 9 = 16 := by kernel_rfl
theorem bytes22 : Try.prog.bytesOf 22 = 24 := by kernel_rfl
theorem cells9' : Try.prog.cellsOf 9 = 1 := by kernel_rfl
theorem cells22 : Try.prog.cellsOf 22 = 1 := by kernel_rfl

/-- What is known of one list. -/
def ListIs (W : World) (V : Value) (y : Option Addr × Nat × Nat × (Nat → ByteArray)) : Prop :=
  V = .slice y.1 y.2.1 y.2.2.1 ∧ SlAt W y.1 y.2.1 (fun j => .string (y.2.2.2 j)) ∧ ∀ j, (y.2.2.2 j).size ≤ maxLen

theorem open22' {H : Type} {enc : TypeId × Value → H} {W : World} {V : Value} {d : DataW H} {p : List MemPlace} {fuel : Nat} (hf : DataW.trod enc Try.prog W 0 (fun _ => true) true fuel 22 [V] = some (d, p))
    (lt : ∀ x ∈ p, x.block < W.heap.size) (hsz : ∀ n ∈ d.weights Try.prog 22, n ≤ reachBytes) : ∃ y, ListIs W V y := by
  rcases open_strings Try.underlying22 Try.underlying9 cells9' hf with ⟨hcs, _⟩ | ⟨x, l, c, zs, hcs, hd, hl, hm, hz, hx, hcell, hwz⟩
  · simp only [List.cons.injEq, and_true] at hcs
    subst hcs
    exact ⟨(none, 0, 0, fun _ => ByteArray.empty), rfl, ⟨by decide, fun h => absurd h (by dsimp only; omega)⟩, fun _ => Nat.zero_le _⟩
  · simp only [List.cons.injEq, and_true] at hcs
    subst hcs
    simp only [Prod.mk.injEq] at hx
    obtain ⟨rfl, rfl⟩ := hx
    simp only [if_true] at hz
    have hw := hsz (((strs (H := H) (zs.take l)).length + (strs (H := H) (zs.drop l)).length) * Try.prog.bytesOf 9) (by simp [DataW.weights, Try.underlying22])
    rw [bytes9] at hw
    simp [strs] at hw
    have hr := reachBytes_lt
    refine ⟨(some x, l, c, fun j => zs.getD j ByteArray.empty), rfl, ⟨by dsimp only; omega, fun hn => ?_⟩, fun j => ?_⟩
    · dsimp only at hn ⊢
      obtain ⟨b, off, spot⟩ := x
      have hspot : spot = none := by simpa [Addr.add] using World.cell?_spot (hcell 0 (by omega))
      subst hspot
      refine ⟨b, off, rfl, lt (.cell b off) (MemPlace.mem_row.2 ⟨0, by omega, by simp⟩), fun j hj => ?_⟩
      rw [← add_plain]
      exact hcell j (by omega)
    · dsimp only
      by_cases hj : j < zs.length
      · rw [List.getD_eq_getElem?_getD, List.getElem?_eq_getElem hj]
        exact hwz _ (List.getElem_mem hj)
      · rw [List.getD_eq_getElem?_getD, List.getElem?_eq_none (by omega)]
        decide

theorem open22 {H : Type} {enc : TypeId × Value → H} {W : World} {a : Option Addr} {len cap : Nat} {d : DataW H} {p : List MemPlace} (h : DataW.Trod enc Try.prog W 0 (fun _ => true) true 22 (.slice a len cap) d p)
    (hsz : ∀ n ∈ d.weights Try.prog 22, n ≤ reachBytes) : ∃ ss : Nat → ByteArray, SlAt W a len (fun j => .string (ss j)) ∧ ∀ j, (ss j).size ≤ maxLen := by
  have lt : ∀ x ∈ p, x.block < W.heap.size := by obtain ⟨m, hm⟩ := h; exact DataW.trod_lt m _ _ _ hm
  obtain ⟨fuel, hf⟩ := h
  obtain ⟨y, e, h1, h2⟩ := open22' (by simpa [Value.cells] using hf) lt hsz
  injection e with e1 e2 e3
  subst e1 e2 e3
  exact ⟨_, h1, h2⟩

theorem weights_mem_all {H : Type} {P : Program} {e : TypeId} : ∀ {l : List (DataW H)} {d : DataW H}, d ∈ l → ∀ n ∈ d.weights P e, n ∈ DataW.weightsAll P e l
  | x :: r, d, h, n, hn => by
    simp only [DataW.weightsAll, List.mem_append]
    rcases List.mem_cons.1 h with rfl | h
    · exact Or.inl hn
    · exact Or.inr (weights_mem_all h n hn)
  | [], _, h, _, _ => by simp at h

theorem open23 {H : Type} {enc : TypeId × Value → H} {W : World} {a : Option Addr} {len cap : Nat} {d : DataW H} {p : List MemPlace} (h : DataW.Trod enc Try.prog W 0 (fun _ => true) true 23 (.slice a len cap) d p)
    (hsz : ∀ n ∈ d.weights Try.prog 23, n ≤ reachBytes) :
    ∃ la ln lc ms, Lists W a len la ln lc ms ∧ ∀ k j, (ms k j).size ≤ maxLen := by
  have lt : ∀ x ∈ p, x.block < W.heap.size := by obtain ⟨m, hm⟩ := h; exact DataW.trod_lt m _ _ _ hm
  obtain ⟨fuel, hf⟩ := h
  rcases Go.Deep.open_slice1 Try.underlying23 cells22 hf with ⟨hcs, _⟩ | ⟨x, l, c, m, n, V, D, Pl, hcs, _, hl, hm, hmm, hx, hel⟩
  · simp [Value.cells] at hcs
    obtain ⟨rfl, rfl, rfl⟩ := hcs
    exact ⟨fun _ => none, fun _ => 0, fun _ => 0, fun _ _ => ByteArray.empty, ⟨⟨by omega, fun h => by omega⟩, fun k hk => by omega⟩, fun _ _ => Nat.zero_le _⟩
  · simp [Value.cells] at hcs
    obtain ⟨rfl, rfl, rfl⟩ := hcs
    simp only [Prod.mk.injEq] at hx
    obtain ⟨rfl, rfl⟩ := hx
    simp only [if_true] at hmm
    subst hmm
    have hw := hsz ((((List.range len).map D).length + ((List.range (m - len)).map fun j => D (len + j)).length) * Try.prog.bytesOf 22) (by simp [DataW.weights, Try.underlying23])
    rw [bytes22] at hw
    simp only [List.length_map, List.length_range] at hw
    have hr := reachBytes_lt
    have each : ∀ k, k < len → ∃ y, ListIs W (V k) y := fun k hk => by
      refine open22' (hel k (by omega)).2 (fun z hz => lt z (List.mem_append_right _ (List.mem_flatMap.2 ⟨k, List.mem_range.2 (by omega), hz⟩))) (fun z hz => hsz z ?_)
      simp only [DataW.weights, Try.underlying23, List.mem_cons, List.mem_append]
      exact Or.inr (Or.inl (weights_mem_all (List.mem_map.2 ⟨k, List.mem_range.2 hk, rfl⟩) z hz))
    obtain ⟨y, hy⟩ := Go.Deep.choose_lt (α := Option Addr × Nat × Nat × (Nat → ByteArray)) each
    refine ⟨fun k => (y k).1, fun k => (y k).2.1, fun k => (y k).2.2.1, fun k j => if k < len then (y k).2.2.2 j else ByteArray.empty, ⟨⟨by omega, fun hn => ?_⟩, fun k hk => ?_⟩, fun k j => ?_⟩
    · obtain ⟨b, off, spot⟩ := x
      have hspot : spot = none := by simpa [Addr.add] using World.cell?_spot (hel 0 (by omega)).1
      subst hspot
      refine ⟨b, off, rfl, lt (.cell b off) (List.mem_append_left _ (MemPlace.mem_row.2 ⟨0, by omega, by simp⟩)), fun j hj => ?_⟩
      rw [← add_plain, (hel j (by omega)).1, (hy j hj).1]
    · have h1 := (hy k hk).2.1
      refine ⟨h1.small, fun hn => ?_⟩
      obtain ⟨b, off, e, hlt, hc⟩ := h1.spot hn
      exact ⟨b, off, e, hlt, fun j hj => by rw [hc j hj]; simp [hk]⟩
    · dsimp only
      split
      · next hk => exact (hy k hk).2.2 j
      · exact Nat.zero_le _

end Go.Proofs.Qxb6605609a
