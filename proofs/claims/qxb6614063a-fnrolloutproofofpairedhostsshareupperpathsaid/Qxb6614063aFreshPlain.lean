/-
  THE PLAIN LAW OF THE FRESHNESS WINDOWS: no Go in sight. 'minsOf x': x minutes in nanoseconds, saturated. 'IsWin xs lo hi z': z is the least of the longest duration and of the windows lo .. hi-1.
-/
namespace Go.Proofs.Qxb6614063a

def minsOf (x : Int) : Int := if 153722867 < x then 9223372036854775807 else x * 60000000000

theorem minsOf_mono {x y : Int} (h0 : 0 ≤ x) (h : x ≤ y) : minsOf x ≤ minsOf y := by
  unfold minsOf
  split <;> split <;> omega
theorem minsOf_le (x : Int) (_h : 0 ≤ x) : minsOf x ≤ 9223372036854775807 := by
  unfold minsOf
  split <;> omega
theorem minsOf_nonneg (x : Int) (h : 0 ≤ x) : 0 ≤ minsOf x := by
  unfold minsOf
  split <;> omega
theorem minsOf_high {x : Int} (h : 153722867 < x) : minsOf x = 9223372036854775807 := by
  unfold minsOf
  rw [if_pos h]
theorem minsOf_low {x : Int} (h : ¬ 153722867 < x) : minsOf x = x * 60000000000 := by
  unfold minsOf
  rw [if_neg h]

/-- z is the least of the longest duration and of the windows lo .. hi - 1. -/
def IsWin (xs : Nat → Int) (lo hi : Nat) (z : Int) : Prop :=
  z ≤ 9223372036854775807 ∧ (∀ j, lo ≤ j → j < hi → z ≤ minsOf (xs j)) ∧ (z = 9223372036854775807 ∨ ∃ j, lo ≤ j ∧ j < hi ∧ z = minsOf (xs j))

theorem IsWin.unique {xs : Nat → Int} {lo hi : Nat} {y z : Int} (h : IsWin xs lo hi y) (k : IsWin xs lo hi z) : y = z := by
  obtain ⟨h1, h2, h3⟩ := h
  obtain ⟨k1, k2, k3⟩ := k
  have a : y ≤ z := by
    rcases k3 with rfl | ⟨j, j1, j2, rfl⟩
    · exact h1
    · exact h2 j j1 j2
  have b : z ≤ y := by
    rcases h3 with rfl | ⟨j, j1, j2, rfl⟩
    · exact k1
    · exact k2 j j1 j2
  omega

theorem IsWin.join {xs : Nat → Int} {lo mid hi : Nat} {x y z : Int} (hm : lo ≤ mid) (hh : mid ≤ hi) (hx : IsWin xs lo mid x) (hy : IsWin xs mid hi y) (hz : IsWin xs lo hi z) : z = if y < x then y else x := by
  refine hz.unique ⟨?_, ?_, ?_⟩
  · have := hx.1; have := hy.1
    split <;> omega
  · intro j j1 j2
    by_cases h : j < mid
    · have := hx.2.1 j j1 h
      split <;> omega
    · have := hy.2.1 j (by omega) j2
      split <;> omega
  · split
    · rcases hy.2.2 with h | ⟨j, j1, j2, h⟩
      · exact Or.inl h
      · exact Or.inr ⟨j, by omega, j2, h⟩
    · rcases hx.2.2 with h | ⟨j, j1, j2, h⟩
      · exact Or.inl h
      · exact Or.inr ⟨j, j1, by omega, h⟩

/-- One window raised never lowers the whole; one lowered never raises it. -/
theorem IsWin.mono {xs ys : Nat → Int} {lo hi : Nat} {x y : Int} (h0 : ∀ j, lo ≤ j → j < hi → 0 ≤ xs j) (h : ∀ j, lo ≤ j → j < hi → xs j ≤ ys j) (hx : IsWin xs lo hi x) (hy : IsWin ys lo hi y) : x ≤ y := by
  rcases hy.2.2 with e | ⟨j, j1, j2, e⟩
  · rw [e]; exact hx.1
  · rw [e]
    exact Int.le_trans (hx.2.1 j j1 j2) (minsOf_mono (h0 j j1 j2) (h j j1 j2))

/-- The least window's minutes. -/
theorem isWin_of_least {xs : Nat → Int} {n : Nat} {l : Int} (h0 : ∀ j, j < n → 0 ≤ xs j) (hl : ∀ j, j < n → l ≤ xs j) (he : ∃ j, j < n ∧ l = xs j) : IsWin xs 0 n (minsOf l) := by
  obtain ⟨j, hj, rfl⟩ := he
  exact ⟨minsOf_le _ (h0 j hj), fun i _ hi => minsOf_mono (h0 j hj) (hl i hi), Or.inr ⟨j, Nat.zero_le _, hj, rfl⟩⟩
theorem isWin_none (xs : Nat → Int) : IsWin xs 0 0 9223372036854775807 := ⟨Int.le_refl _, fun _ _ h => absurd h (Nat.not_lt_zero _), Or.inl rfl⟩

end Go.Proofs.Qxb6614063a
