/-
  THE SECOND PASS: what comes back to a root through nodes without a component is the root's component. No Go in sight.
-/
import Derived.Test.Qxb6605609aKos
namespace Go.Proofs.Qxb6605609a

/-- m is the least of x's component. -/
def LeastOf (adj : Nat → List Nat) (n x m : Nat) : Prop := m < n ∧ Scc adj x m ∧ ∀ y, y < n → Scc adj x y → m ≤ y

/-- The components of the nodes that stand in the order from k on are known. -/
structure Comps (adj : Nat → List Nat) (n : Nat) (order : List Nat) (k : Nat) (comp : Nat → Int) : Prop where
  val : ∀ x, x < n → comp x = -1 ∨ ∃ m : Nat, comp x = m ∧ LeastOf adj n x m
  sat : ∀ x y, x < n → y < n → Scc adj x y → comp x ≠ -1 → comp y ≠ -1
  done : ∀ j r, k ≤ j → order[j]? = some r → comp r ≠ -1

/-- What the search from r has found, the first t of it looked at. -/
structure Back (adj radj : Nat → List Nat) (n : Nat) (comp : Nat → Int) (r : Nat) (got : List Nat) (t : Nat) : Prop where
  root : got[0]? = some r
  nd : got.Nodup
  sub : ∀ w ∈ got, w < n ∧ comp w = -1 ∧ ∃ m, PathIn adj (fun x => x < n ∧ comp x = -1) m w r
  seen : ∀ i v, i < t → got[i]? = some v → ∀ w ∈ radj v, comp w = -1 → w ∈ got

theorem Comps.start (adj : Nat → List Nat) (n : Nat) (order : List Nat) : Comps adj n order order.length (fun _ => -1) :=
  ⟨fun _ _ => Or.inl rfl, fun _ _ _ _ _ h => absurd rfl h, fun j r hj hr => by have := (List.getElem?_eq_some_iff.1 hr).1; omega⟩

theorem Back.start {adj radj : Nat → List Nat} {n : Nat} {comp : Nat → Int} {r : Nat} (hr : r < n) (hc : comp r = -1) : Back adj radj n comp r [r] 0 :=
  ⟨rfl, by simp, fun w hw => by simp at hw; subst hw; exact ⟨hr, hc, 0, .nil ⟨hr, hc⟩⟩, fun i v hi => by omega⟩

/-- One more found. -/
theorem Back.found {adj radj : Nat → List Nat} {n : Nat} {comp : Nat → Int} {r : Nat} {got : List Nat} {t v w : Nat} (h : Back adj radj n comp r got t) (hv : got[t]? = some v) (hw : v ∈ adj w) (hn : w < n) (hc : comp w = -1) (hg : w ∉ got) : Back adj radj n comp r (got ++ [w]) t := by
  have ht := (List.getElem?_eq_some_iff.1 hv).1
  refine ⟨?_, ?_, ?_, ?_⟩
  · rw [List.getElem?_append_left (by omega)]; exact h.root
  · rw [List.nodup_append]
    exact ⟨h.nd, by simp, fun a ha b hb => by simp at hb; subst hb; rintro rfl; exact hg ha⟩
  · intro x hx
    rcases List.mem_append.1 hx with hx | hx
    · exact h.sub x hx
    · simp at hx
      subst hx
      obtain ⟨_, _, m, hp⟩ := h.sub v (List.mem_of_getElem? hv)
      exact ⟨hn, hc, m + 1, .cons ⟨hn, hc⟩ hw hp⟩
  · intro i v' hi hv' x hx hcx
    rw [List.getElem?_append_left (by omega)] at hv'
    exact List.mem_append_left _ (h.seen i v' hi hv' x hx hcx)

/-- The next looked at. -/
theorem Back.next {adj radj : Nat → List Nat} {n : Nat} {comp : Nat → Int} {r : Nat} {got : List Nat} {t v : Nat} (h : Back adj radj n comp r got t) (hv : got[t]? = some v) (hall : ∀ w ∈ radj v, comp w = -1 → w ∈ got) : Back adj radj n comp r got (t + 1) := by
  refine ⟨h.root, h.nd, h.sub, fun i v' hi hv' => ?_⟩
  by_cases e : i = t
  · subst e
    rw [hv] at hv'
    cases hv'
    exact hall
  · exact h.seen i v' (by omega) hv'

/-- What was found is the root's component. -/
theorem Back.all {adj radj : Nat → List Nat} {n : Nat} {comp : Nat → Int} {r k : Nat} {order got : List Nat} (h : Back adj radj n comp r got got.length) (hC : Comps adj n order (k + 1) comp) (hnd : order.Nodup) (hf : FinOk adj order) (hr : order[k]? = some r)
    (hall : ∀ x, x < n → x ∈ order) (hadj : ∀ a, a < n → ∀ b ∈ adj a, b < n) (hrad : ∀ a b, a < n → b ∈ adj a → a ∈ radj b) (w : Nat) : w ∈ got ↔ w < n ∧ Scc adj r w := by
  obtain ⟨hrn, hrc, _⟩ := h.sub r (List.mem_of_getElem? h.root)
  constructor
  · intro hw
    obtain ⟨hwn, _, m, hp⟩ := h.sub w hw
    refine ⟨hwn, fin_back hnd hf hr m w (hp.mono fun x hx => ?_), hp.reach⟩
    obtain ⟨j, hj⟩ := List.getElem?_of_mem (hall x hx.1)
    have hjk : j < k + 1 := by
      by_cases e : j < k + 1
      · exact e
      · exact absurd hx.2 (hC.done j x (by omega) hj)
    refine List.mem_of_getElem? (i := j) ?_
    rw [List.getElem?_take_of_lt hjk]
    exact hj
  · rintro ⟨hwn, h1, h2⟩
    clear hr
    have hun : ∀ x, x < n → Scc adj r x → comp x = -1 := fun x hx hs => by
      by_cases e : comp x = -1
      · exact e
      · exact absurd hrc (hC.sat x r hx hrn hs.symm e)
    have key : ∀ a b, Reach adj a b → b = r → a < n → Reach adj r a → a ∈ got := by
      intro a b hab
      induction hab with
      | refl a =>
        rintro rfl _ _
        exact List.mem_of_getElem? h.root
      | @step a b c e hbc ih =>
        rintro rfl han hra
        have hbn := hadj a han b e
        have hb := ih rfl hbn (hra.trans (.one e))
        obtain ⟨i, hi⟩ := List.getElem?_of_mem hb
        exact h.seen i b (List.getElem?_eq_some_iff.1 hi).1 hi a (hrad a b han e) (hun a han ⟨hra, .step e hbc⟩)
    exact key w r h2 rfl hwn h1

/-- .. and is named by its least. -/
theorem Comps.next {adj : Nat → List Nat} {n k r m : Nat} {order got : List Nat} {comp : Nat → Int} (hC : Comps adj n order (k + 1) comp) (hr : order[k]? = some r) (hrn : r < n) (hgot : ∀ w, w ∈ got ↔ w < n ∧ Scc adj r w) (hm : m ∈ got) (hle : ∀ w ∈ got, m ≤ w) :
    Comps adj n order k (fun x => if x ∈ got then (m : Int) else comp x) := by
  obtain ⟨hmn, hrm⟩ := (hgot m).1 hm
  refine ⟨fun x hx => ?_, fun x y hx hy hs hc => ?_, fun j r' hj hr' => ?_⟩
  · by_cases e : x ∈ got
    · obtain ⟨_, hrx⟩ := (hgot x).1 e
      exact Or.inr ⟨m, by simp [e], hmn, hrx.symm.trans hrm, fun y hy hxy => hle y ((hgot y).2 ⟨hy, hrx.trans hxy⟩)⟩
    · simp only [e, if_false]
      exact hC.val x hx
  · by_cases e : y ∈ got
    · simp [e]
    · have ex : x ∉ got := fun hxg => e ((hgot y).2 ⟨hy, ((hgot x).1 hxg).2.trans hs⟩)
      simp only [e, ex, if_false] at hc ⊢
      exact hC.sat x y hx hy hs hc
  · by_cases e : r' ∈ got
    · simp [e]
    · simp only [e, if_false]
      by_cases ej : j = k
      · subst ej
        rw [hr] at hr'
        cases hr'
        exact absurd ((hgot r).2 ⟨hrn, Scc.refl _ _⟩) e
      · exact hC.done j r' (by omega) hr'

/-- A root that has its component already. -/
theorem Comps.pass {adj : Nat → List Nat} {n k r : Nat} {order : List Nat} {comp : Nat → Int} (hC : Comps adj n order (k + 1) comp) (hr : order[k]? = some r) (hc : comp r ≠ -1) : Comps adj n order k comp := by
  refine ⟨hC.val, hC.sat, fun j r' hj hr' => ?_⟩
  by_cases ej : j = k
  · subst ej
    rw [hr] at hr'
    cases hr'
    exact hc
  · exact hC.done j r' (by omega) hr'

end Go.Proofs.Qxb6605609a
