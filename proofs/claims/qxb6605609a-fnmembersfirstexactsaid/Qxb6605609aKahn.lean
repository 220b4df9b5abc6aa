/-
  PARTS TOLD ONE AFTER THE OTHER, each when all that it waits for are told: nothing is left over where the waiting has no cycle. No Go in sight.
-/
import Derived.Test.Qxb6605609aKos
namespace Go.Proofs.Qxb6605609a

/-- How many of l are not in D. -/
def missing (D l : List Nat) : Nat := (l.filter fun q => decide (q ∉ D)).length

theorem missing_zero {D l : List Nat} : missing D l = 0 ↔ ∀ q ∈ l, q ∈ D := by
  unfold missing
  rw [List.length_eq_zero_iff, List.filter_eq_nil_iff]
  simp

theorem missing_snoc_not {D l : List Nat} {p : Nat} (h : p ∉ l) : missing (D ++ [p]) l = missing D l := by
  unfold missing
  congr 1
  apply List.filter_congr
  intro q hq
  have : q ≠ p := fun e => h (e ▸ hq)
  simp [this]

theorem missing_snoc {D l : List Nat} {p : Nat} (hnd : l.Nodup) (h : p ∈ l) (hD : p ∉ D) : missing D l = missing (D ++ [p]) l + 1 := by
  induction l with
  | nil => cases h
  | cons a r ih =>
    rw [List.nodup_cons] at hnd
    by_cases e : a = p
    · subst e
      have h1 : missing D (a :: r) = missing D r + 1 := by simp [missing, hD]
      have h2 : missing (D ++ [a]) (a :: r) = missing (D ++ [a]) r := by simp [missing]
      rw [h1, h2, missing_snoc_not hnd.1]
    · have hr : p ∈ r := by
        rcases List.mem_cons.1 h with h | h
        · exact absurd h.symm e
        · exact h
      have := ih hnd.2 hr
      by_cases ha : a ∈ D
      · have h1 : missing D (a :: r) = missing D r := by simp [missing, ha]
        have h2 : missing (D ++ [p]) (a :: r) = missing (D ++ [p]) r := by simp [missing, ha]
        rw [h1, h2, this]
      · have h1 : missing D (a :: r) = missing D r + 1 := by simp [missing, ha]
        have h2 : missing (D ++ [p]) (a :: r) = missing (D ++ [p]) r + 1 := by simp [missing, ha, e]
        rw [h1, h2, this]

/-- D: the parts told, in order; H: those ready; w: for how many each waits; of the holders of the part told last, those in 'todo' are still to be looked at. -/
structure Kahn (m : Nat) (wl : Nat → List Nat) (D H todo : List Nat) (w : Nat → Int) : Prop where
  nd : (D ++ H).Nodup
  lt : ∀ p ∈ D ++ H, p < m
  cnt : ∀ p, p < m → w p = missing D (wl p) + (if p ∈ todo then 1 else 0)
  ready : ∀ p, p < m → ((p ∈ D ∨ p ∈ H) ↔ (∀ q ∈ wl p, q ∈ D) ∧ p ∉ todo)
  ord : ∀ D1 p D2, D = D1 ++ p :: D2 → ∀ q ∈ wl p, q ∈ D1
  tnd : todo.Nodup
  tlt : ∀ p ∈ todo, p < m

theorem Kahn.start {m : Nat} {wl : Nat → List Nat} {H : List Nat} {w : Nat → Int} (hnd : H.Nodup) (hH : ∀ p, p ∈ H ↔ p < m ∧ wl p = []) (hw : ∀ p, p < m → w p = (wl p).length) : Kahn m wl [] H [] w := by
  refine ⟨by simpa using hnd, fun p hp => ((hH p).1 (by simpa using hp)).1, fun p hp => ?_, fun p hp => ?_, fun D1 p D2 h => by simp at h, List.nodup_nil, by simp⟩
  · rw [hw p hp]
    have : missing [] (wl p) = (wl p).length := by
      unfold missing
      rw [List.filter_eq_self.2 (by simp)]
    simp [this]
  · simp only [List.not_mem_nil, false_or, not_false_eq_true, and_true]
    rw [hH p]
    constructor
    · rintro ⟨_, e⟩ q hq
      rw [e] at hq
      cases hq
    · intro h
      exact ⟨hp, List.eq_nil_iff_forall_not_mem.2 fun q hq => (h q hq)⟩

/-- The next is told. -/
theorem Kahn.pop {m : Nat} {wl holders : Nat → List Nat} {D H H' : List Nat} {w : Nat → Int} {p : Nat} (h : Kahn m wl D H [] w) (hp : H.Perm (p :: H')) (hwl : ∀ q, q < m → (wl q).Nodup) (hh : ∀ q, q ∈ holders p ↔ q < m ∧ p ∈ wl q) (hhn : (holders p).Nodup) :
    Kahn m wl (D ++ [p]) H' (holders p) w := by
  have hpH : p ∈ H := hp.mem_iff.2 (List.mem_cons_self ..)
  have hpm : p < m := h.lt p (List.mem_append_right _ hpH)
  have hnd := h.nd
  rw [List.nodup_append] at hnd
  have hpD : p ∉ D := fun hm => hnd.2.2 p hm p hpH rfl
  have hnp : (p :: H').Nodup := hp.nodup_iff.1 hnd.2.1
  rw [List.nodup_cons] at hnp
  have hpp : ∀ q ∈ wl p, q ∈ D := ((h.ready p hpm).1 (Or.inr hpH)).1
  have hself : p ∉ wl p := fun hm => hpD (hpp p hm)
  refine ⟨?_, ?_, fun q hq => ?_, fun q hq => ?_, ?_, hhn, fun q hq => ((hh q).1 hq).1⟩
  · rw [List.nodup_append, List.nodup_append]
    refine ⟨⟨hnd.1, by simp, fun a ha b hb => by simp at hb; subst hb; rintro rfl; exact hpD ha⟩, hnp.2, fun a ha b hb => ?_⟩
    rcases List.mem_append.1 ha with ha | ha
    · exact hnd.2.2 a ha b (hp.mem_iff.2 (List.mem_cons_of_mem _ hb))
    · simp at ha
      subst ha
      rintro rfl
      exact hnp.1 hb
  · intro q hq
    rcases List.mem_append.1 hq with hq | hq
    · rcases List.mem_append.1 hq with hq | hq
      · exact h.lt q (List.mem_append_left _ hq)
      · simp at hq; subst hq; exact hpm
    · exact h.lt q (List.mem_append_right _ (hp.mem_iff.2 (List.mem_cons_of_mem _ hq)))
  · have hc := h.cnt q hq
    simp only [List.not_mem_nil, if_false, Int.add_zero] at hc
    rw [hc]
    by_cases e : q ∈ holders p
    · rw [if_pos e, missing_snoc (hwl q hq) ((hh q).1 e).2 hpD]
      omega
    · rw [if_neg e, missing_snoc_not (fun hm => e ((hh q).2 ⟨hq, hm⟩))]
      omega
  · have hr := h.ready q hq
    simp only [List.not_mem_nil, not_false_eq_true, and_true] at hr
    constructor
    · intro hm
      by_cases e : q = p
      · subst e
        exact ⟨fun x hx => List.mem_append_left _ (hpp x hx), fun ht => hself ((hh q).1 ht).2⟩
      · have hm' : q ∈ D ∨ q ∈ H := by
          rcases hm with hm | hm
          · rcases List.mem_append.1 hm with hm | hm
            · exact Or.inl hm
            · simp at hm; exact absurd hm e
          · exact Or.inr (hp.mem_iff.2 (List.mem_cons_of_mem _ hm))
        have := hr.1 hm'
        exact ⟨fun x hx => List.mem_append_left _ (this x hx), fun ht => hpD (this p ((hh q).1 ht).2)⟩
    · rintro ⟨h1, h2⟩
      have hpq : p ∉ wl q := fun hm => h2 ((hh q).2 ⟨hq, hm⟩)
      have : ∀ x ∈ wl q, x ∈ D := fun x hx => by
        rcases List.mem_append.1 (h1 x hx) with hm | hm
        · exact hm
        · simp at hm; subst hm; exact absurd hx hpq
      rcases hr.2 this with hm | hm
      · exact Or.inl (List.mem_append_left _ hm)
      · rcases List.mem_cons.1 (hp.mem_iff.1 hm) with e | hm
        · exact Or.inl (List.mem_append_right _ (by simp [e]))
        · exact Or.inr hm
  · intro D1 q D2 e x hx
    rcases List.eq_nil_or_concat D2 with rfl | ⟨D2', z, rfl⟩
    · have e' : D1 ++ [q] = D ++ [p] := e.symm
      have := List.append_inj' e' rfl
      obtain ⟨rfl, h2⟩ := this
      cases h2
      exact hpp x hx
    · have e' : (D1 ++ q :: D2') ++ [z] = D ++ [p] := by rw [← e.symm]; simp
      obtain ⟨h1, _⟩ := List.append_inj' e' rfl
      exact h.ord D1 q D2' h1.symm x hx

/-- A holder waits for one less; where it waits for none now, it is ready. -/
theorem Kahn.hold {m : Nat} {wl : Nat → List Nat} {D H todo : List Nat} {w : Nat → Int} {q : Nat} (h : Kahn m wl D H (q :: todo) w) :
    (w q - 1 = 0 → Kahn m wl D (H ++ [q]) todo (fun x => if x = q then w q - 1 else w x)) ∧ (w q - 1 ≠ 0 → Kahn m wl D H todo (fun x => if x = q then w q - 1 else w x)) := by
  have hqm : q < m := h.tlt q (List.mem_cons_self ..)
  have htn := h.tnd
  rw [List.nodup_cons] at htn
  have hq := h.cnt q hqm
  rw [if_pos (List.mem_cons_self ..)] at hq
  have hqn : ¬ (q ∈ D ∨ q ∈ H) := fun hm => ((h.ready q hqm).1 hm).2 (List.mem_cons_self ..)
  have hcnt : ∀ p, p < m → (if p = q then w q - 1 else w p) = missing D (wl p) + (if p ∈ todo then 1 else 0) := fun p hp => by
    by_cases e : p = q
    · subst e
      rw [if_pos rfl, if_neg htn.1]
      omega
    · have := h.cnt p hp
      rw [if_neg e, this]
      simp [e]
  have hmz : w q - 1 = 0 ↔ ∀ x ∈ wl q, x ∈ D := by
    rw [← missing_zero]
    omega
  constructor
  · intro hz
    refine ⟨?_, ?_, hcnt, fun p hp => ?_, h.ord, htn.2, fun p hp => h.tlt p (List.mem_cons_of_mem _ hp)⟩
    · rw [← List.append_assoc, List.nodup_append]
      exact ⟨h.nd, by simp, fun a ha b hb => by simp at hb; subst hb; rintro rfl; exact hqn (List.mem_append.1 ha)⟩
    · intro p hp
      rw [← List.append_assoc] at hp
      rcases List.mem_append.1 hp with hp | hp
      · exact h.lt p hp
      · simp at hp; subst hp; exact hqm
    · by_cases e : p = q
      · subst e
        exact ⟨fun _ => ⟨hmz.1 hz, htn.1⟩, fun _ => Or.inr (List.mem_append_right _ (by simp))⟩
      · have := h.ready p hp
        simp only [List.mem_cons, e, false_or] at this
        rw [← this]
        simp [e]
  · intro hz
    refine ⟨h.nd, h.lt, hcnt, fun p hp => ?_, h.ord, htn.2, fun p hp => h.tlt p (List.mem_cons_of_mem _ hp)⟩
    by_cases e : p = q
    · subst e
      exact ⟨fun hm => absurd hm hqn, fun hm => absurd (hmz.2 hm.1) hz⟩
    · have := h.ready p hp
      simp only [List.mem_cons, e, false_or] at this
      exact this

/-- Nothing is left over. -/
theorem Kahn.all {m : Nat} {wl : Nat → List Nat} {D : List Nat} {w : Nat → Int} (h : Kahn m wl D [] [] w) (hwl : ∀ p, p < m → ∀ q ∈ wl p, q < m) (rank : Nat → Nat) (hr : ∀ p, p < m → ∀ q ∈ wl p, rank q < rank p) : ∀ p, p < m → p ∈ D := by
  have key : ∀ r p, rank p ≤ r → p < m → p ∈ D := by
    intro r
    induction r with
    | zero =>
      intro p hp hpm
      rcases (h.ready p hpm).2 ⟨fun q hq => by have := hr p hpm q hq; omega, by simp⟩ with hm | hm
      · exact hm
      · cases hm
    | succ r ih =>
      intro p hp hpm
      rcases (h.ready p hpm).2 ⟨fun q hq => ih q (by have := hr p hpm q hq; omega) (hwl p hpm q hq), by simp⟩ with hm | hm
      · exact hm
      · cases hm
  exact fun p hp => key (rank p) p (Nat.le_refl _) hp

end Go.Proofs.Qxb6605609a
