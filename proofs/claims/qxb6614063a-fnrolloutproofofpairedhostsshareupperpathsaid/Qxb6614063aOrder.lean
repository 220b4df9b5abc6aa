/-
  THE ORDER OF STRINGS BY THEIR BYTES: no Go in sight. 'bytesLess' (what '<' on strings gives) and 'compareBytes' (what strings.Compare gives) are one order.
-/
import Derived.Lib.Bytealg
import Derived.Laws.Strings
namespace Go.Proofs.Qxb6614063a
open Go

theorem less_irrefl : ∀ x : List UInt8, Op.bytesLess x x = false
  | [] => rfl
  | a :: x => by simp [Op.bytesLess, less_irrefl x]

theorem less_trans : ∀ {x y z : List UInt8}, Op.bytesLess x y = true → Op.bytesLess y z = true → Op.bytesLess x z = true
  | _, [], _, h, _ => by simp [Op.bytesLess] at h
  | _, _ :: _, [], _, h => by simp [Op.bytesLess] at h
  | [], _ :: _, _ :: _, _, _ => rfl
  | a :: x, b :: y, c :: z, h1, h2 => by
    simp only [Op.bytesLess, Bool.or_eq_true, decide_eq_true_eq, Bool.and_eq_true, beq_iff_eq] at h1 h2 ⊢
    rcases h1 with h1 | ⟨rfl, h1⟩
    · rcases h2 with h2 | ⟨rfl, h2⟩
      · exact Or.inl (UInt8.lt_trans h1 h2)
      · exact Or.inl h1
    · rcases h2 with h2 | ⟨rfl, h2⟩
      · exact Or.inl h2
      · exact Or.inr ⟨rfl, less_trans h1 h2⟩

theorem cmp_neg : ∀ x y : List UInt8, Lib.compareBytes x y < 0 ↔ Op.bytesLess x y = true
  | [], [] => by simp [Lib.compareBytes, Op.bytesLess]
  | [], _ :: _ => by simp [Lib.compareBytes, Op.bytesLess]
  | _ :: _, [] => by simp [Lib.compareBytes, Op.bytesLess]
  | a :: x, b :: y => by
    have ih := cmp_neg x y
    unfold Lib.compareBytes Op.bytesLess
    by_cases h1 : a < b
    · simp [h1]
    · by_cases h2 : b < a
      · have : a ≠ b := fun e => by subst e; exact absurd h2 (UInt8.lt_irrefl _)
        simp [h1, h2, this]
      · have : a = b := UInt8.le_antisymm (UInt8.not_lt.1 h2) (UInt8.not_lt.1 h1)
        subst this
        simp [h1, ih]

theorem cmp_zero : ∀ x y : List UInt8, Lib.compareBytes x y = 0 ↔ x = y
  | [], [] => by simp [Lib.compareBytes]
  | [], _ :: _ => by simp [Lib.compareBytes]
  | _ :: _, [] => by simp [Lib.compareBytes]
  | a :: x, b :: y => by
    have ih := cmp_zero x y
    unfold Lib.compareBytes
    by_cases h1 : a < b
    · have : a ≠ b := fun e => by subst e; exact absurd h1 (UInt8.lt_irrefl _)
      simp [h1, this]
    · by_cases h2 : b < a
      · have : a ≠ b := fun e => by subst e; exact absurd h2 (UInt8.lt_irrefl _)
        simp [h1, h2, this]
      · have : a = b := UInt8.le_antisymm (UInt8.not_lt.1 h2) (UInt8.not_lt.1 h1)
        subst this
        simp [h1, ih]

/-- The strings ss 0, ss 1, .. up to n stand in strictly ascending order. -/
def Asc (ss : Nat → ByteArray) (n : Nat) : Prop := ∀ i, i + 1 < n → Op.bytesLess (ss i).toList (ss (i + 1)).toList = true

theorem Asc.lt {ss : Nat → ByteArray} {n : Nat} (h : Asc ss n) : ∀ {i j : Nat}, i < j → j < n → Op.bytesLess (ss i).toList (ss j).toList = true := by
  intro i j hij
  induction j with
  | zero => omega
  | succ j ih =>
    intro hj
    by_cases e : i = j
    · subst e; exact h i hj
    · exact less_trans (ih (by omega) (by omega)) (h j hj)

theorem Asc.ne {ss : Nat → ByteArray} {n : Nat} (h : Asc ss n) {i j : Nat} (hi : i < n) (hj : j < n) (e : ss i = ss j) : i = j := by
  rcases Nat.lt_trichotomy i j with h1 | h1 | h1
  · have := h.lt h1 hj
    rw [e, less_irrefl] at this
    cases this
  · exact h1
  · have := h.lt h1 hi
    rw [e, less_irrefl] at this
    cases this

end Go.Proofs.Qxb6614063a
