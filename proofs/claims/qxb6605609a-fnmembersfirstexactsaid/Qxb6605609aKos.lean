/-
  REACHING IN A GRAPH OF LISTS; THE ORDER IN WHICH A DEPTH-FIRST SEARCH FINISHES. No Go in sight.
-/
import Derived.KernelRfl
namespace Go.Proofs.Qxb6605609a

/-- b can be reached from a. -/
inductive Reach (adj : Nat → List Nat) : Nat → Nat → Prop
  | refl (a : Nat) : Reach adj a a
  | step {a b c : Nat} : b ∈ adj a → Reach adj b c → Reach adj a c

theorem Reach.one {adj : Nat → List Nat} {a b : Nat} (h : b ∈ adj a) : Reach adj a b := .step h (.refl b)
theorem Reach.trans {adj : Nat → List Nat} {a b c : Nat} (h : Reach adj a b) (k : Reach adj b c) : Reach adj a c := by
  induction h with
  | refl => exact k
  | step e _ ih => exact .step e (ih k)

/-- Each reaches the other. -/
def Scc (adj : Nat → List Nat) (a b : Nat) : Prop := Reach adj a b ∧ Reach adj b a
theorem Scc.refl (adj : Nat → List Nat) (a : Nat) : Scc adj a a := ⟨.refl a, .refl a⟩
theorem Scc.symm {adj : Nat → List Nat} {a b : Nat} (h : Scc adj a b) : Scc adj b a := ⟨h.2, h.1⟩
theorem Scc.trans {adj : Nat → List Nat} {a b c : Nat} (h : Scc adj a b) (k : Scc adj b c) : Scc adj a c := ⟨h.1.trans k.1, k.2.trans h.2⟩

/-- A set that no edge leaves. -/
theorem reach_closed {adj : Nat → List Nat} {p : Nat → Prop} (hc : ∀ a, p a → ∀ b ∈ adj a, p b) {a b : Nat} (h : Reach adj a b) : p a → p b := by
  induction h with
  | refl => exact id
  | step e _ ih => exact fun ha => ih (hc _ ha _ e)

/-- A path of m edges inside U. -/
inductive PathIn (adj : Nat → List Nat) (U : Nat → Prop) : Nat → Nat → Nat → Prop
  | nil {a : Nat} : U a → PathIn adj U 0 a a
  | cons {m a b c : Nat} : U a → b ∈ adj a → PathIn adj U m b c → PathIn adj U (m + 1) a c

theorem PathIn.head {adj : Nat → List Nat} {U : Nat → Prop} {m a c : Nat} (h : PathIn adj U m a c) : U a := by cases h <;> assumption
theorem PathIn.reach {adj : Nat → List Nat} {U : Nat → Prop} {m a c : Nat} (h : PathIn adj U m a c) : Reach adj a c := by
  induction h with
  | nil => exact .refl _
  | cons _ e _ ih => exact .step e ih
theorem PathIn.mono {adj : Nat → List Nat} {U V : Nat → Prop} (hUV : ∀ x, U x → V x) {m a c : Nat} (h : PathIn adj U m a c) : PathIn adj V m a c := by
  induction h with
  | nil h => exact .nil (hUV _ h)
  | cons h e _ ih => exact .cons (hUV _ h) e ih

/-- Where a path leaves a set: the last node inside, with the rest of the path. -/
theorem PathIn.leaves {adj : Nat → List Nat} {U V : Nat → Prop} {m a c : Nat} (h : PathIn adj U m a c) (ha : V a) (hc : ¬ V c) : ∃ p q m', V p ∧ ¬ V q ∧ q ∈ adj p ∧ (p = a ∨ m' + 1 < m) ∧ m' + 1 ≤ m ∧ PathIn adj U (m' + 1) p c := by
  classical
  induction h with
  | nil => exact absurd ha hc
  | @cons m a b c hu e hp ih =>
    by_cases hb : V b
    · obtain ⟨p, q, m', h1, h2, h3, _, h4, h5⟩ := ih hb hc
      exact ⟨p, q, m', h1, h2, h3, Or.inr (by omega), by omega, h5⟩
    · exact ⟨a, b, m, ha, hb, e, Or.inl rfl, Nat.le_refl _, .cons hu e hp⟩

/-- What is known of the nodes in the order in which they were finished: S: what lay on the stack below order[i]. -/
def FinOk (adj : Nat → List Nat) (order : List Nat) : Prop :=
  ∀ i r, order[i]? = some r → ∃ S : List Nat, (∀ s ∈ S, Reach adj s r) ∧ (∀ y ∈ order.take (i + 1), ∀ z ∈ adj y, z ∈ order.take (i + 1) ∨ z ∈ S) ∧ ∀ s ∈ S, s ∉ order.take (i + 1)

/-- Whoever comes to order[k] through nodes not finished later can be reached from it. -/
theorem fin_back {adj : Nat → List Nat} {order : List Nat} (hnd : order.Nodup) (hf : FinOk adj order) {k r : Nat} (hr : order[k]? = some r) :
    ∀ (m a : Nat), PathIn adj (· ∈ order.take (k + 1)) m a r → Reach adj r a := by
  intro m
  induction m using Nat.strongRecOn with
  | ind m ih =>
    intro a hp
    have ha := hp.head
    obtain ⟨i, hi⟩ := List.getElem?_of_mem ha
    have hik : i < k + 1 := by
      have := (List.getElem?_eq_some_iff.1 hi).1
      simp at this
      omega
    rw [List.getElem?_take_of_lt hik] at hi
    by_cases hie : i = k
    · subst hie
      rw [hr] at hi
      cases hi
      exact .refl _
    obtain ⟨S, hS1, hS2, hS3⟩ := hf i a hi
    by_cases hrS : r ∈ S
    · exact hS1 r hrS
    have hrt : r ∉ order.take (i + 1) := by
      intro hm
      obtain ⟨j, hj⟩ := List.getElem?_of_mem hm
      have hj2 : j < i + 1 := by
        have := (List.getElem?_eq_some_iff.1 hj).1
        simp at this
        omega
      rw [List.getElem?_take_of_lt hj2] at hj
      have := (List.getElem?_inj (List.getElem?_eq_some_iff.1 hj).1 hnd (j := k)).1 (hj.trans hr.symm)
      omega
    have hat : a ∈ order.take (i + 1) := by
      refine List.mem_of_getElem? (i := i) ?_
      rw [List.getElem?_take_of_lt (by omega)]
      exact hi
    obtain ⟨p, q, m', h1, h2, h3, h4, _, h5⟩ := hp.leaves (V := fun x => x ∈ order.take (i + 1) ∨ x ∈ S) (Or.inl hat) (fun h => h.elim hrt hrS)
    have hpS : p ∈ S := by
      rcases h1 with h1 | h1
      · exact absurd (hS2 p h1 q h3) h2
      · exact h1
    rcases h4 with rfl | h4
    · exact absurd hat (hS3 p hpS)
    · exact (ih (m' + 1) h4 p h5).trans (hS1 p hpS)

/-- The first search: what is finished, in order; the stack, its top first, with each node's next edge. -/
structure Dfs (adj : Nat → List Nat) (n : Nat) (order : List Nat) (st : List (Nat × Nat)) : Prop where
  nd : (order ++ st.map (·.1)).Nodup
  lt : ∀ x ∈ order ++ st.map (·.1), x < n
  chain : st.Pairwise fun x y => Reach adj y.1 x.1
  edges : ∀ v e, (v, e) ∈ st → e ≤ (adj v).length ∧ ∀ i z, i < e → (adj v)[i]? = some z → z ∈ order ++ st.map (·.1)
  closed : ∀ a ∈ order, ∀ b ∈ adj a, b ∈ order ++ st.map (·.1)
  fin : FinOk adj order

theorem Dfs.start (adj : Nat → List Nat) (n : Nat) : Dfs adj n [] [] :=
  ⟨by simp, by simp, .nil, by simp, by simp, fun i r h => by simp at h⟩

theorem Dfs.root {adj : Nat → List Nat} {n : Nat} {order : List Nat} (h : Dfs adj n order []) {s : Nat} (hs : s < n) (hn : s ∉ order) : Dfs adj n order [(s, 0)] := by
  have hnd := h.nd
  have hlt := h.lt
  have hcl := h.closed
  simp only [List.map_nil, List.append_nil] at hnd hlt hcl
  refine ⟨?_, ?_, ?_, ?_, ?_, h.fin⟩
  · simp only [List.map_cons, List.map_nil, List.nodup_append, List.nodup_cons, List.not_mem_nil, not_false_eq_true, List.nodup_nil, and_true, true_and]
    exact ⟨hnd, fun a ha b hb => by simp at hb; rintro rfl; subst hb; exact hn ha⟩
  · intro x hx
    simp at hx
    rcases hx with hx | rfl
    · exact hlt x hx
    · exact hs
  · simp
  · intro v e he
    simp at he
    obtain ⟨rfl, rfl⟩ := he
    exact ⟨Nat.zero_le _, fun i z hi => by omega⟩
  · intro a ha b hb
    exact List.mem_append_left _ (hcl a ha b hb)

theorem Dfs.skip {adj : Nat → List Nat} {n : Nat} {order : List Nat} {v e z : Nat} {st : List (Nat × Nat)} (h : Dfs adj n order ((v, e) :: st)) (hz : (adj v)[e]? = some z) (hv : z ∈ order ++ ((v, e) :: st).map (·.1)) : Dfs adj n order ((v, e + 1) :: st) := by
  have hl := (List.getElem?_eq_some_iff.1 hz).1
  refine ⟨h.nd, h.lt, ?_, ?_, h.closed, h.fin⟩
  · have := h.chain
    rw [List.pairwise_cons] at this ⊢
    exact this
  · intro v' e' he
    rcases List.mem_cons.1 he with he | he
    · cases he
      refine ⟨hl, fun i z' hi hz' => ?_⟩
      by_cases hie : i = e
      · subst hie
        rw [hz] at hz'
        cases hz'
        exact hv
      · exact (h.edges v e (List.mem_cons_self ..)).2 i z' (by omega) hz'
    · exact h.edges v' e' (List.mem_cons_of_mem _ he)

theorem Dfs.push {adj : Nat → List Nat} {n : Nat} {order : List Nat} {v e z : Nat} {st : List (Nat × Nat)} (h : Dfs adj n order ((v, e) :: st)) (hz : (adj v)[e]? = some z) (hv : z ∉ order ++ ((v, e) :: st).map (·.1)) (hn : z < n) : Dfs adj n order ((z, 0) :: (v, e + 1) :: st) := by
  have hl := (List.getElem?_eq_some_iff.1 hz).1
  have hzm : z ∈ adj v := List.mem_of_getElem? hz
  have hsub : ∀ x, x ∈ order ++ ((v, e) :: st).map (·.1) → x ∈ order ++ ((z, 0) :: (v, e + 1) :: st).map (·.1) := fun x hx => by
    simp at hx ⊢
    rcases hx with hx | hx | hx
    · exact Or.inl hx
    · exact Or.inr (Or.inr (Or.inl hx))
    · exact Or.inr (Or.inr (Or.inr hx))
  refine ⟨?_, ?_, ?_, ?_, fun a ha b hb => hsub b (h.closed a ha b hb), h.fin⟩
  · have hnd := h.nd
    simp only [List.map_cons, List.nodup_append] at hnd hv ⊢
    obtain ⟨h1, h2, h3⟩ := hnd
    refine ⟨h1, List.nodup_cons.2 ⟨fun hm => hv (List.mem_append_right _ hm), h2⟩, fun a ha b hb => ?_⟩
    rcases List.mem_cons.1 hb with rfl | hb
    · rintro rfl
      exact hv (List.mem_append_left _ ha)
    · exact h3 a ha b hb
  · intro x hx
    simp only [List.map_cons, List.mem_append, List.mem_cons] at hx
    rcases hx with hx | rfl | hx
    · exact h.lt x (List.mem_append_left _ hx)
    · exact hn
    · exact h.lt x (List.mem_append_right _ (by simpa using hx))
  · have hc := h.chain
    rw [List.pairwise_cons] at hc ⊢
    refine ⟨fun y hy => ?_, ?_⟩
    · rcases List.mem_cons.1 hy with rfl | hy
      · exact .one hzm
      · exact (hc.1 y hy).trans (.one hzm)
    · rw [List.pairwise_cons]
      exact hc
  · intro v' e' he
    rcases List.mem_cons.1 he with he | he
    · cases he
      exact ⟨Nat.zero_le _, fun i z hi => by omega⟩
    rcases List.mem_cons.1 he with he | he
    · cases he
      refine ⟨hl, fun i z' hi hz' => ?_⟩
      by_cases hie : i = e
      · subst hie
        rw [hz] at hz'
        cases hz'
        simp
      · exact hsub _ ((h.edges v e (List.mem_cons_self ..)).2 i z' (by omega) hz')
    · obtain ⟨h1, h2⟩ := h.edges v' e' (List.mem_cons_of_mem _ he)
      exact ⟨h1, fun i z' hi hz' => hsub _ (h2 i z' hi hz')⟩

theorem Dfs.pop {adj : Nat → List Nat} {n : Nat} {order : List Nat} {v e : Nat} {st : List (Nat × Nat)} (h : Dfs adj n order ((v, e) :: st)) (he : (adj v).length ≤ e) : Dfs adj n (order ++ [v]) st := by
  have hvis : ∀ x, x ∈ order ++ ((v, e) :: st).map (·.1) ↔ x ∈ (order ++ [v]) ++ st.map (·.1) := fun x => by simp
  obtain ⟨he1, he2⟩ := h.edges v e (List.mem_cons_self ..)
  have hvcl : ∀ b ∈ adj v, b ∈ (order ++ [v]) ++ st.map (·.1) := fun b hb => by
    obtain ⟨i, hi⟩ := List.getElem?_of_mem hb
    exact (hvis b).1 (he2 i b (by have := (List.getElem?_eq_some_iff.1 hi).1; omega) hi)
  have hcl : ∀ a ∈ order ++ [v], ∀ b ∈ adj a, b ∈ (order ++ [v]) ++ st.map (·.1) := fun a ha b hb => by
    rcases List.mem_append.1 ha with ha | ha
    · exact (hvis b).1 (h.closed a ha b hb)
    · simp at ha
      subst ha
      exact hvcl b hb
  have hc := h.chain
  rw [List.pairwise_cons] at hc
  have hnd : ((order ++ [v]) ++ st.map (·.1)).Nodup := by
    have := h.nd
    simpa using this
  refine ⟨hnd, fun x hx => h.lt x ((hvis x).2 hx), hc.2, fun v' e' hm => ?_, hcl, ?_⟩
  · obtain ⟨h1, h2⟩ := h.edges v' e' (List.mem_cons_of_mem _ hm)
    exact ⟨h1, fun i z hi hz => (hvis z).1 (h2 i z hi hz)⟩
  · intro i r hr
    by_cases hi : i < order.length
    · rw [List.getElem?_append_left hi] at hr
      obtain ⟨S, h1, h2, h3⟩ := h.fin i r hr
      have ht : (order ++ [v]).take (i + 1) = order.take (i + 1) := List.take_append_of_le_length (by omega)
      rw [ht]
      exact ⟨S, h1, h2, h3⟩
    · have hil : i = order.length := by
        have := (List.getElem?_eq_some_iff.1 hr).1
        simp at this
        omega
      subst hil
      simp at hr
      subst hr
      have ht : (order ++ [v]).take (order.length + 1) = order ++ [v] := by
        apply List.take_of_length_le
        simp
      rw [ht]
      refine ⟨st.map (·.1), fun s hs => ?_, fun y hy z hz => ?_, fun s hs hm => ?_⟩
      · obtain ⟨y, hy, rfl⟩ := List.mem_map.1 hs
        exact hc.1 y hy
      · exact List.mem_append.1 (hcl y hy z hz)
      · rw [List.nodup_append] at hnd
        exact hnd.2.2 s hm s hs rfl

end Go.Proofs.Qxb6605609a
