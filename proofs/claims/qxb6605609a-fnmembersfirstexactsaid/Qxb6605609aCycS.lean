/-
  THE WALK'S STATES OVER MEMORY.
-/
import Derived.Test.Qxb6605609aCycM
namespace Go.Proofs.Qxb6605609a
open Go.RowKit

def numG (s : TSt) (i : Nat) : Option Value := (s.num i).map fun t : Nat => Value.int .i64 (t : Int)
def lowG (s : TSt) (i : Nat) : Option Value := (s.num i).map fun _ => Value.int .i64 ((s.low i : Nat) : Int)
def onG (s : TSt) (i : Nat) : Option Value := (s.num i).map fun _ => Value.bool (decide (i ∈ s.stack))

/-- How many of the first m have been visited. -/
def cntV (num : Nat → Option Nat) : Nat → Nat
  | 0 => 0
  | m + 1 => cntV num m + (if (num m).isSome then 1 else 0)
theorem cntV_le (num : Nat → Option Nat) : ∀ m, cntV num m ≤ m
  | 0 => Nat.le_refl _
  | m + 1 => by
    have := cntV_le num m
    unfold cntV
    split <;> omega
theorem cntV_lt (num : Nat → Option Nat) {k : Nat} (hk : num k = none) : ∀ m, k < m → cntV num m < m
  | 0, h => by omega
  | m + 1, h => by
    unfold cntV
    by_cases e : m = k
    · subst e
      have := cntV_le num m
      rw [hk]
      simp
      omega
    · have := cntV_lt num hk m (by omega)
      split <;> omega
theorem cntV_enter (s : TSt) {k : Nat} (hk : s.num k = none) : ∀ m, cntV (s.enter k).num m = cntV s.num m + if k < m then 1 else 0
  | 0 => by simp [cntV]
  | m + 1 => by
    unfold cntV
    rw [cntV_enter s hk m]
    by_cases e : m = k
    · subst e
      simp [hk, TSt.enter]
    · have h1 : (s.enter k).num m = s.num m := by simp [TSt.enter, e]
      rw [h1]
      by_cases h2 : k < m
      · simp [h2, show k < m + 1 by omega]; omega
      · simp [h2, show ¬ k < m + 1 by omega]

theorem numG_enter (s : TSt) (k : Nat) : upd (numG s) k (some (.int .i64 ((s.cnt : Nat) : Int))) = numG (s.enter k) := by
  funext i
  by_cases e : i = k
  · subst e; rw [upd_same]; simp [numG, TSt.enter]
  · rw [upd_other _ _ e]; simp [numG, TSt.enter, e]
theorem lowG_enter (s : TSt) (k : Nat) : upd (lowG s) k (some (.int .i64 ((s.cnt : Nat) : Int))) = lowG (s.enter k) := by
  funext i
  by_cases e : i = k
  · subst e; rw [upd_same]; simp [lowG, TSt.enter]
  · rw [upd_other _ _ e]; simp [lowG, TSt.enter, e]
theorem onG_enter (s : TSt) (k : Nat) : upd (onG s) k (some (.bool true)) = onG (s.enter k) := by
  funext i
  by_cases e : i = k
  · subst e; rw [upd_same]; simp [onG, TSt.enter]
  · rw [upd_other _ _ e]; simp [onG, TSt.enter, e]
theorem lowG_lowTo {s : TSt} {k j : Nat} (hk : s.num k = some j) (v : Nat) : upd (lowG s) k (some (.int .i64 ((min (s.low k) v : Nat) : Int))) = lowG (s.lowTo k v) := by
  funext i
  by_cases e : i = k
  · subst e; rw [upd_same]; simp [lowG, TSt.lowTo, hk]
  · rw [upd_other _ _ e]; simp [lowG, TSt.lowTo, e]
theorem onG_pop {s : TSt} {x j : Nat} {r : List Nat} (hx : s.num x = some j) (hs : s.stack = x :: r) (hn : x ∉ r) : upd (onG s) x (some (.bool false)) = onG { s with stack := r } := by
  funext i
  by_cases e : i = x
  · subst e; rw [upd_same]; simp [onG, hx, hn]
  · rw [upd_other _ _ e]; simp [onG, hs, e]

/-- The walk's state s lies in memory. -/
def TW (T : TC) (w : World) (s : TSt) : Prop :=
  ∃ sv cv es, TX T w s.cnt s.cnt s.cnt (numG s) (lowG s) (onG s) s.stack s.cycles sv cv es ∧ (∀ x ∈ s.stack, x < T.n) ∧ s.cnt = cntV s.num T.n ∧ (∀ c ∈ s.cycles, ∀ x ∈ c, x < T.n) ∧ s.cycles.length + s.stack.length ≤ s.cnt

theorem TW.cnt_le {T : TC} {w : World} {s : TSt} (h : TW T w s) : s.cnt ≤ T.n := by
  obtain ⟨_, _, _, _, _, h1, _⟩ := h
  have := cntV_le s.num T.n
  omega
theorem TW.cnt_lt {T : TC} {w : World} {s : TSt} (h : TW T w s) {k : Nat} (hk : k < T.n) (hn : s.num k = none) : s.cnt < T.n := by
  obtain ⟨_, _, _, _, _, h1, _⟩ := h
  have := cntV_lt s.num hn T.n hk
  omega

theorem Kids.snoc {adj : Nat → List Nat} {k c : Nat} {s s1 s2 : TSt} {l : List Nat} (h : Kids adj k s l s1) (h2 : Kids adj k s1 [c] s2) : Kids adj k s (l ++ [c]) s2 := by
  induction h with
  | nil => exact h2
  | stk a b _ ih => exact .stk a b (ih h2)
  | old a b _ ih => exact .old a b (ih h2)
  | new a b _ _ ih => exact .new a b (ih h2)

theorem upTo_at {k : Nat} {a r : List Nat} (h : k ∉ a) : upTo k (a ++ k :: r) = a ++ [k] ∧ below k (a ++ k :: r) = r := by
  induction a with
  | nil => simp [upTo, below]
  | cons x a ih =>
    have hx : x ≠ k := fun e => h (by rw [e]; exact List.mem_cons_self ..)
    obtain ⟨h1, h2⟩ := ih (fun hm => h (List.mem_cons_of_mem _ hm))
    rw [List.cons_append, upTo, below, if_neg hx, if_neg hx, h1, h2]
    exact ⟨rfl, rfl⟩

end Go.Proofs.Qxb6605609a
