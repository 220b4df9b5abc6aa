/-
  sort.Strings over a row of names that the call owns.
-/
import Derived.Test.Qxb6605609aShelf
import Derived.Test.Qxb6605609aCycM
import Derived.Sort.OwnSorted
namespace Go.Proofs.Qxb6605609a
open Go.RowKit Go.Sort

theorem strs_enc (nm : Nat → ByteArray) (l : List Nat) : (l.map fun x => (nm x).data.toList).map encStr = strs nm l := by
  rw [List.map_map, strs]
  apply List.map_congr_left
  intro x _
  simp [encStr]

theorem srt_length (l : List Nat) : (srt l).length = l.length := by simp [srt]
theorem srt_perm (l : List Nat) : (srt l).Perm l := List.mergeSort_perm _ _
theorem srt_mem {l : List Nat} {x : Nat} : x ∈ srt l ↔ x ∈ l := (srt_perm l).mem_iff
theorem srt_sorted (l : List Nat) : (srt l).Pairwise (· ≤ ·) := by
  have := List.pairwise_mergeSort (le := fun x y : Nat => decide (x ≤ y)) (fun a b c h1 h2 => by simp at h1 h2 ⊢; omega) (fun a b => by simp; omega) l
  exact this.imp fun h => by simpa using h

theorem sort33 {T : TC} (hm : ∀ i j, i < T.n → j < T.n → i ≤ j → (T.nm i).data.toList ≤ (T.nm j).data.toList) (hm' : ∀ i j, i < T.n → j < T.n → (T.nm i).data.toList ≤ (T.nm j).data.toList → i ≤ j) (w : World) (v : Value) (l : List Nat) (hr : Row w 9 v (strs T.nm l)) (h0 : 0 < l.length) (hlt : ∀ x ∈ l, x < T.n) (hlen : l.length < 4611686018427387904) :
    Calls Try.prog 33 #[v] w fun e w' => e = .returned (.tuple #[]) ∧ Row w' 9 v (strs T.nm (srt l)) ∧ KB (fun k => v.ownBlock = some k) w w' := by
  have hl0 : (strs T.nm l).length = l.length := by simp [strs]
  rcases hr.2 with ⟨_, h1⟩ | ⟨g, cap, cur, rfl, hg, hb, h1, h2, h3, h4⟩
  · omega
  · rw [hl0] at h1 h4 ⊢
    have hlt' := (Array.getElem?_eq_some_iff.1 hb).1
    obtain ⟨ss, hss⟩ : ∃ ss, ss = l.map fun x => (T.nm x).data.toList := ⟨_, rfl⟩
    have hsl : ss.length = l.length := by rw [hss]; simp
    have hH : Holds encStr w g 0 ss.toArray := holds_of_block hb (by rw [hsl, hss, strs_enc]; simpa using h4)
    have key : ss.mergeSort (fun x y => decide (x ≤ y)) = (srt l).map fun x => (T.nm x).data.toList := by
      rw [hss, srt, List.map_mergeSort]
      intro a ha b hb
      have h1 := hlt a ha
      have h2 := hlt b hb
      by_cases e : a ≤ b
      · simp [e, hm a b h1 h2 e]
      · have : ¬ (T.nm a).data.toList ≤ (T.nm b).data.toList := fun h => e (hm' a b h1 h2 h)
        simp only [e, this, decide_false]
    have hc := Try.sort_Strings g 0 cap ss w hH hlt' (by omega)
    rw [hsl] at hc
    refine hc.mono ?_
    rintro e w' ⟨rfl, n, os, rfl⟩
    rw [key]
    refine ⟨rfl, ?_, ?_⟩
    · have := ownsRow_sorted (n := n) (os := os) (ss := ss) (ts := (srt l).map fun x => (T.nm x).data.toList) (by simp [hss, srt_length]) (Nat.zero_le _) hb (by omega) h2 h3 (e := 9) (base := 0)
      rw [strs_enc, hsl] at this
      unfold Row
      have e : (strs T.nm (srt l)).length = l.length := by simp [strs, srt_length]
      rw [e]
      exact this
    · exact (KB.refl _ w).grown (grownBy_sorted _) (fun k e _ => by cases e; rfl)

end Go.Proofs.Qxb6605609a
