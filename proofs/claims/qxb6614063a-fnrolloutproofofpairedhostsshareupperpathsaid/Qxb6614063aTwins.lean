/-
  THE PATHS OF THE TWO HOSTS OF ONE LEAF PAIR: each opens with the other's leaf, the rest is one. No Go in sight.
-/
import Derived.Test.Qxb6614063aPath
namespace Go.Proofs.Qxb6614063a

theorem sib_sib (a : Nat) : sib (sib a) = a := by
  unfold sib
  split <;> split <;> omega

theorem sib_half (a : Nat) : sib a / 2 = a / 2 := by
  unfold sib
  split <;> omega

theorem sib_pow (a t : Nat) : sib a / 2 ^ (t + 1) = a / 2 ^ (t + 1) := by
  rw [Nat.pow_succ, Nat.mul_comm, ← Nat.div_div_eq_div_mul, ← Nat.div_div_eq_div_mul, sib_half]

theorem paths_twin (ln : Nat → Nat) (bs : Nat → Nat → Nat → Int) (k : Nat) (hk : k < ln 0) (hs : sib k < ln 0) : ∀ t, ∃ T, pathTo ln bs k (t + 1) = hexStr (bs 0 (sib k)) :: T ∧ pathTo ln bs (sib k) (t + 1) = hexStr (bs 0 k) :: T
  | 0 => ⟨[], by simp [pathTo, hs], by simp [pathTo, sib_sib, hk]⟩
  | t + 1 => by
    obtain ⟨T, h1, h2⟩ := paths_twin ln bs k hk hs t
    refine ⟨T ++ (if sib (k / 2 ^ (t + 1)) < ln (t + 1) then [hexStr (bs (t + 1) (sib (k / 2 ^ (t + 1))))] else []), ?_, ?_⟩
    · rw [pathTo, h1, List.cons_append]
    · rw [pathTo, h2, sib_pow, List.cons_append]

theorem tree_two {n m : Nat} {ln : Nat → Nat} (h : TreeOk n m ln) (hn : 2 ≤ n) : ∃ t, m - 1 = t + 1 := by
  by_cases e : m = 1
  · have := h.root
    subst e
    rw [h.leaves] at this
    omega
  · have := h.m1
    exact ⟨m - 2, by omega⟩

end Go.Proofs.Qxb6614063a
