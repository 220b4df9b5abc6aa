/-
  HOW LONG A DEPTH-FIRST SEARCH CAN GO ON. No Go in sight.
-/
import Derived.Test.Qxb6605609aKos2
namespace Go.Proofs.Qxb6605609a

/-- The sum of f over what of l is not in vis. -/
def usum (f : Nat → Nat) (vis : List Nat) : List Nat → Nat
  | [] => 0
  | x :: r => (if x ∈ vis then 0 else f x) + usum f vis r

theorem usum_congr {f : Nat → Nat} {vis vis' : List Nat} (h : ∀ x, x ∈ vis ↔ x ∈ vis') : ∀ l, usum f vis l = usum f vis' l
  | [] => rfl
  | x :: r => by
    simp only [usum]
    rw [usum_congr h r]
    simp only [h x]

theorem usum_same {f : Nat → Nat} {vis vis' : List Nat} : ∀ {l : List Nat}, (∀ x ∈ l, x ∈ vis ↔ x ∈ vis') → usum f vis l = usum f vis' l
  | [], _ => rfl
  | x :: r, h => by
    simp only [usum]
    rw [usum_same (fun y hy => h y (List.mem_cons_of_mem _ hy))]
    simp only [h x (List.mem_cons_self ..)]

theorem usum_new {f : Nat → Nat} {vis vis' : List Nat} {z : Nat} (hz : z ∉ vis) (hv : ∀ x, x ∈ vis' ↔ x = z ∨ x ∈ vis) : ∀ {l : List Nat}, l.Nodup → z ∈ l → usum f vis l = usum f vis' l + f z
  | x :: r, hnd, hm => by
    rw [List.nodup_cons] at hnd
    simp only [usum]
    by_cases e : x = z
    · subst e
      have h1 : x ∈ vis' := (hv x).2 (Or.inl rfl)
      rw [if_neg hz, if_pos h1]
      have : usum f vis r = usum f vis' r := usum_same fun y hy => by
        rw [hv y]
        constructor
        · exact Or.inr
        · rintro (h | h)
          · subst h; exact absurd hy hnd.1
          · exact h
      omega
    · have hr : z ∈ r := by
        rcases List.mem_cons.1 hm with h | h
        · exact absurd h.symm e
        · exact h
      have ih := usum_new (f := f) hz hv hnd.2 hr
      have hx : x ∈ vis ↔ x ∈ vis' := by
        rw [hv x]
        simp [e]
      rw [ih]
      simp only [hx]
      omega

/-- The measure. -/
def mu (adj : Nat → List Nat) (n : Nat) (order : List Nat) (st : List (Nat × Nat)) : Nat :=
  (st.map fun p => (adj p.1).length - p.2 + 1).sum + usum (fun x => (adj x).length + 2) (order ++ st.map (·.1)) (List.range n)

theorem mu_skip (adj : Nat → List Nat) (n : Nat) (order : List Nat) (v e : Nat) (st : List (Nat × Nat)) (he : e < (adj v).length) : mu adj n order ((v, e + 1) :: st) < mu adj n order ((v, e) :: st) := by
  unfold mu
  simp only [List.map_cons, List.sum_cons]
  omega

theorem mu_push (adj : Nat → List Nat) (n : Nat) (order : List Nat) (v e z : Nat) (st : List (Nat × Nat)) (he : e < (adj v).length) (hz : z < n) (hn : z ∉ order ++ ((v, e) :: st).map (·.1)) : mu adj n order ((z, 0) :: (v, e + 1) :: st) < mu adj n order ((v, e) :: st) := by
  unfold mu
  have hu := usum_new (f := fun x => (adj x).length + 2) (vis' := order ++ ((z, 0) :: (v, e + 1) :: st).map (·.1)) hn (fun x => by
    simp only [List.map_cons, List.mem_append, List.mem_cons]
    constructor
    · rintro (h | h | h)
      · exact Or.inr (Or.inl h)
      · exact Or.inl h
      · exact Or.inr (Or.inr h)
    · rintro (h | h | h)
      · exact Or.inr (Or.inl h)
      · exact Or.inl h
      · exact Or.inr (Or.inr h)) (l := List.range n) List.nodup_range (List.mem_range.2 hz)
  rw [hu]
  simp only [List.map_cons, List.sum_cons]
  omega

theorem mu_pop (adj : Nat → List Nat) (n : Nat) (order : List Nat) (v e : Nat) (st : List (Nat × Nat)) : mu adj n (order ++ [v]) st < mu adj n order ((v, e) :: st) := by
  unfold mu
  have hu := usum_congr (f := fun x => (adj x).length + 2) (vis := order ++ [v] ++ st.map (·.1)) (vis' := order ++ ((v, e) :: st).map (·.1)) (fun x => by simp) (List.range n)
  rw [hu]
  simp only [List.map_cons, List.sum_cons]
  omega

end Go.Proofs.Qxb6605609a
