/-
  THE HEAP'S ORDER: what heap.up and heap.down keep; what heap.Pop takes off is the least. No Go in sight.
-/
import Derived.Test.Qxb6605609aMfHeap
namespace Go.Proofs.Qxb6605609a

theorem swp_at {l : List Nat} {i j : Nat} (hi : i < l.length) (hj : j < l.length) (k : Nat) : (swp l i j).getD k 0 = if k = j then l.getD i 0 else if k = i then l.getD j 0 else l.getD k 0 := by
  unfold swp
  simp only [List.getD_eq_getElem?_getD, List.getElem?_set, List.length_set]
  by_cases e1 : k = j
  · subst e1
    simp [hj]
  · rw [if_neg (fun h => e1 h.symm), if_neg e1]
    by_cases e2 : k = i
    · subst e2
      simp [hi]
    · rw [if_neg (fun h => e2 h.symm), if_neg e2]

/-- Each is at least its parent. -/
def Hpd (l : List Nat) : Prop := ∀ i, 0 < i → i < l.length → l.getD ((i - 1) / 2) 0 ≤ l.getD i 0

/-- .. but for j, which may be less than its parent. -/
def UpI (l : List Nat) (j : Nat) : Prop := (∀ i, 0 < i → i < l.length → i ≠ j → l.getD ((i - 1) / 2) 0 ≤ l.getD i 0) ∧ ∀ i, 0 < i → i < l.length → (i - 1) / 2 = j → 0 < j → l.getD ((j - 1) / 2) 0 ≤ l.getD i 0

theorem upL_ord (l : List Nat) (j : Nat) (hj : j < l.length) (h : UpI l j) : Hpd (upL l j) := by
  rw [upL]
  split
  · rename_i hc
    intro i h0 hi
    by_cases e : i = j
    · subst e
      rcases hc with hc | hc <;> omega
    · exact h.1 i h0 hi e
  · rename_i hc
    have h0 : j ≠ 0 := fun e => hc (Or.inl e)
    have hlt : l.getD j 0 < l.getD ((j - 1) / 2) 0 := Classical.byContradiction fun e => hc (Or.inr e)
    have hp : (j - 1) / 2 < l.length := by omega
    refine upL_ord _ _ (by rw [swp_length]; exact hp) ⟨fun i hi0 hi hne => ?_, fun i hi0 hi he hp0 => ?_⟩
    · rw [swp_length] at hi
      rw [swp_at hp hj, swp_at hp hj]
      by_cases e1 : i = j
      · subst e1
        rw [if_pos rfl, if_neg (by omega), if_pos rfl]
        omega
      · rw [if_neg e1, if_neg hne]
        by_cases e2 : (i - 1) / 2 = j
        · rw [if_pos e2]
          exact h.2 i hi0 hi e2 (by omega)
        · rw [if_neg e2]
          by_cases e3 : (i - 1) / 2 = (j - 1) / 2
          · rw [if_pos e3]
            have := h.1 i hi0 hi e1
            rw [e3] at this
            omega
          · rw [if_neg e3]
            exact h.1 i hi0 hi e1
    · rw [swp_length] at hi
      rw [swp_at hp hj, swp_at hp hj]
      have g := h.1 ((j - 1) / 2) hp0 hp (by omega)
      rw [if_neg (by omega), if_neg (by omega)]
      by_cases e1 : i = j
      · rw [if_pos e1]
        exact g
      · rw [if_neg e1, if_neg (by omega)]
        have := h.1 i hi0 hi e1
        rw [he] at this
        omega
termination_by j
decreasing_by omega

theorem up_push {l : List Nat} {x : Nat} (h : Hpd l) : Hpd (upL (l ++ [x]) l.length) := by
  have hg : ∀ i, i < l.length → (l ++ [x]).getD i 0 = l.getD i 0 := fun i hi => by simp [List.getD_eq_getElem?_getD, List.getElem?_append_left hi]
  refine upL_ord _ _ (by simp) ⟨fun i h0 hi hne => ?_, fun i h0 hi he _ => ?_⟩
  · simp at hi
    have hi2 : i < l.length := by omega
    rw [hg i hi2, hg _ (by omega)]
    exact h i h0 hi2
  · simp at hi
    omega

/-- The first n are ordered but for i's children. -/
def DnI (l : List Nat) (n i : Nat) : Prop := (∀ k, 0 < k → k < n → (k - 1) / 2 ≠ i → l.getD ((k - 1) / 2) 0 ≤ l.getD k 0) ∧ ∀ k, 0 < k → k < n → (k - 1) / 2 = i → 0 < i → l.getD ((i - 1) / 2) 0 ≤ l.getD k 0

theorem downL_ord (l : List Nat) (n i : Nat) (hn : n ≤ l.length) (hi : i < l.length) (hin : i < n ∨ n ≤ 2 * i + 1) (h : DnI l n i) : (∀ k, 0 < k → k < n → (downL l n i).getD ((k - 1) / 2) 0 ≤ (downL l n i).getD k 0) ∧ ∀ k, n ≤ k → (downL l n i).getD k 0 = l.getD k 0 := by
  rw [downL]
  split
  · rename_i h1
    exact ⟨fun k h0 hk => h.1 k h0 hk (by omega), fun _ _ => rfl⟩
  · rename_i h1
    have hk1 := kid_lt (l := l) h1
    have hk2 := kid_gt l n i
    have hkv : kid l n i = 2 * i + 1 ∨ kid l n i = 2 * i + 2 := by unfold kid; split <;> omega
    have hmin : ∀ k, 0 < k → k < n → (k - 1) / 2 = i → l.getD (kid l n i) 0 ≤ l.getD k 0 := fun k h0 hk he => by
      have hk3 : k = 2 * i + 1 ∨ k = 2 * i + 2 := by omega
      unfold kid
      split
      · rename_i hc
        rcases hk3 with e | e
        · rw [e]; omega
        · rw [e]; exact Nat.le_refl _
      · rename_i hc
        rcases hk3 with e | e
        · rw [e]; exact Nat.le_refl _
        · rw [e]
          have : ¬ l.getD (2 * i + 2) 0 < l.getD (2 * i + 1) 0 := fun h => hc ⟨by omega, h⟩
          omega
    split
    · rename_i h2
      obtain ⟨c, hc⟩ : ∃ c, c = kid l n i := ⟨_, rfl⟩
      rw [← hc] at hk1 hk2 hkv hmin h2 ⊢
      have hcl : c < l.length := by omega
      have ih := downL_ord (swp l i c) n c (by rw [swp_length]; exact hn) (by rw [swp_length]; exact hcl) (Or.inl hk1) ⟨fun k h0 hk hne => ?_, fun k h0 hk he _ => ?_⟩
      · refine ⟨ih.1, fun k hk => ?_⟩
        rw [ih.2 k hk, swp_at hi hcl, if_neg (by omega), if_neg (by omega)]
      · rw [swp_at hi hcl, swp_at hi hcl]
        rw [if_neg hne]
        by_cases e1 : k = c
        · subst e1
          rw [if_pos rfl, if_pos (by omega)]
          omega
        · rw [if_neg e1]
          by_cases e2 : (k - 1) / 2 = i
          · rw [if_pos e2]
            have := hmin k h0 hk e2
            rw [if_neg (by omega)]
            exact this
          · rw [if_neg e2]
            by_cases e3 : k = i
            · rw [if_pos e3]
              subst e3
              exact h.2 c (by omega) hk1 (by omega) h0
            · rw [if_neg e3]
              exact h.1 k h0 hk e2
      · rw [swp_at hi hcl, swp_at hi hcl]
        rw [if_neg (by omega), if_pos (by omega), if_neg (by omega), if_neg (by omega)]
        have := h.1 k h0 hk (by omega)
        rw [he] at this
        exact this
    · rename_i h2
      refine ⟨fun k h0 hk => ?_, fun _ _ => rfl⟩
      by_cases e : (k - 1) / 2 = i
      · have := hmin k h0 hk e
        rw [e]
        omega
      · exact h.1 k h0 hk e
termination_by n - i
decreasing_by have := kid_gt l n i; omega

theorem Hpd.min {l : List Nat} (h : Hpd l) : ∀ i, i < l.length → l.getD 0 0 ≤ l.getD i 0 := by
  intro i
  induction i using Nat.strongRecOn with
  | _ i ih =>
    intro hi
    by_cases e : i = 0
    · subst e; exact Nat.le_refl _
    · have h1 := ih ((i - 1) / 2) (by omega) (by omega)
      have h2 := h i (by omega) hi
      omega

/-- The heap's order is kept; what is popped is the least. -/
theorem HeapLaw.least : HeapLaw Hpd (fun a b => a ≤ b) := by
  refine ⟨fun i h0 hi => by simp at hi, fun l x h => up_push h, fun l n l' x h hl hd => ?_⟩
  have h0l : 0 < l.length := by omega
  have hnl : n < l.length := by omega
  have hs : ∀ k, (swp l 0 n).getD k 0 = if k = n then l.getD 0 0 else if k = 0 then l.getD n 0 else l.getD k 0 := swp_at h0l hnl
  have hdn := downL_ord (swp l 0 n) n 0 (by rw [swp_length]; omega) (by rw [swp_length]; omega) (by omega) ⟨fun k hk0 hk hne => by
    rw [hs, hs, if_neg (by omega), if_neg hne, if_neg (by omega), if_neg (by omega)]
    exact h k hk0 (by omega), fun k _ _ _ h00 => absurd h00 (by omega)⟩
  have hll : l'.length = n := by
    have h1 : (downL (swp l 0 n) n 0).length = n + 1 := by rw [downL_length, swp_length, hl]
    rw [hd] at h1
    simp at h1
    exact h1
  have hg : ∀ k, k < n → (downL (swp l 0 n) n 0).getD k 0 = l'.getD k 0 := fun k hk => by
    rw [hd]
    simp [List.getD_eq_getElem?_getD, List.getElem?_append_left (show k < l'.length by omega)]
  have hx : x = l.getD 0 0 := by
    have h1 := hdn.2 n (Nat.le_refl _)
    rw [hs, if_pos rfl, hd] at h1
    rw [← h1, ← hll]
    simp [List.getD_eq_getElem?_getD]
  refine ⟨fun i hi0 hi => ?_, fun y hy => ?_⟩
  · rw [hll] at hi
    rw [← hg i hi, ← hg _ (by omega)]
    exact hdn.1 i hi0 hi
  · obtain ⟨k, hk, e⟩ := List.getElem_of_mem hy
    have := h.min k hk
    rw [hx]
    rw [List.getD_eq_getElem?_getD (l := l) (i := k), List.getElem?_eq_getElem hk, Option.getD_some, e] at this
    exact this

end Go.Proofs.Qxb6605609a
