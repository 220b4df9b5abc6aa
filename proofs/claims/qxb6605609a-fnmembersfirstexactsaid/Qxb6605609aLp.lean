/-
  The order in which the parts are told. No Go in sight.
-/
import Derived.Test.Qxb6605609aLb
namespace Go.Proofs.Qxb6605609a

section
variable {adj : Nat → List Nat} {n : Nat} {cf : Nat → Nat}

theorem rnk_onto (cf : Nat → Nat) {p : Nat} : ∀ k, p < rnk cf k → ∃ r, r < k ∧ cf r = r ∧ rnk cf r = p
  | 0, h => by simp [rnk] at h
  | k + 1, h => by
    by_cases h1 : p < rnk cf k
    · obtain ⟨r, a, b, c⟩ := rnk_onto cf k h1
      exact ⟨r, by omega, b, c⟩
    · rw [rnk_succ] at h
      by_cases e : cf k = k
      · rw [if_pos e] at h
        exact ⟨k, by omega, e, by omega⟩
      · rw [if_neg e] at h
        omega

theorem filter_lt {P Q : Nat → Bool} : ∀ {l : List Nat}, (∀ x ∈ l, P x = true → Q x = true) → (∃ a ∈ l, Q a = true ∧ P a = false) → (l.filter P).length < (l.filter Q).length
  | [], _, ⟨a, h, _⟩ => by cases h
  | x :: r, h, ⟨a, ha, hq, hp⟩ => by
    have hle : ∀ l : List Nat, (∀ x ∈ l, P x = true → Q x = true) → (l.filter P).length ≤ (l.filter Q).length := fun l => by
      induction l with
      | nil => intro _; exact Nat.le_refl _
      | cons y s ih =>
        intro hh
        have h1 := ih (fun z hz => hh z (List.mem_cons_of_mem _ hz))
        have h2 := hh y (List.mem_cons_self ..)
        cases hpy : P y with
        | false => cases hqy : Q y <;> simp [hpy, hqy] <;> omega
        | true => rw [hpy] at h2; simp [hpy, h2 rfl]; exact h1
    have hr : ∀ z ∈ r, P z = true → Q z = true := fun z hz => h z (List.mem_cons_of_mem _ hz)
    rcases List.mem_cons.1 ha with e | hm
    · subst e
      have := hle r hr
      simp [hq, hp]
      omega
    · have := filter_lt hr ⟨a, hm, hq, hp⟩
      have h2 := h x (List.mem_cons_self ..)
      cases hpx : P x with
      | false => cases hqx : Q x <;> simp [hpx, hqx] <;> omega
      | true => rw [hpx] at h2; simp [hpx, h2 rfl]; exact this

open Classical in
/-- How many places are reached from i. -/
noncomputable def rk (adj : Nat → List Nat) (n i : Nat) : Nat := ((List.range n).filter fun x => decide (Reach adj i x)).length

theorem rk_lt {i j : Nat} (hi : i < n) (h : Reach adj i j) (hno : ¬ Reach adj j i) : rk adj n j < rk adj n i := by
  unfold rk
  refine filter_lt (fun x _ hx => ?_) ⟨i, List.mem_range.2 hi, ?_, ?_⟩
  · simp at hx ⊢
    exact h.trans hx
  · simp
    exact .refl _
  · simp
    exact hno

/-- The parts' waiting has no cycle. -/
theorem waits_rank {wl hol : Nat → List Nat} (hcf : ∀ x, x < n → LeastOf adj n x (cf x)) (hadj : ∀ i, ∀ j ∈ adj i, j < n) (hW : Waits adj cf n (rnk cf n) wl hol) : ∃ rank : Nat → Nat, ∀ p, p < rnk cf n → ∀ q ∈ wl p, rank q < rank p := by
  classical
  have rep : ∀ p, p < rnk cf n → ∃ r, r < n ∧ pof cf r = p := fun p hp => by
    obtain ⟨r, a, b, c⟩ := rnk_onto cf n hp
    exact ⟨r, a, by unfold pof; rw [b, c]⟩
  refine ⟨fun p => if h : ∃ r, r < n ∧ pof cf r = p then rk adj n (Classical.choose h) else 0, fun p hp q hq => ?_⟩
  obtain ⟨hne, i, hi, hpi, j, hj, hqj⟩ := (hW.mem p q hp).1 hq
  have hjn := hadj i j hj
  have h1 : ∃ r, r < n ∧ pof cf r = p := ⟨i, hi, hpi⟩
  have h2 : ∃ r, r < n ∧ pof cf r = q := ⟨j, hjn, hqj⟩
  show dite _ _ _ < dite _ _ _
  rw [dif_pos h1, dif_pos h2]
  obtain ⟨a1, a2⟩ := Classical.choose_spec h1
  obtain ⟨b1, b2⟩ := Classical.choose_spec h2
  have same : ∀ x y, x < n → y < n → pof cf x = pof cf y → Scc adj x y := fun x y hx hy e => by
    have := pof_inj hcf hx hy e
    have s1 := (hcf x hx).2.1
    have s2 := (hcf y hy).2.1
    rw [this] at s1
    exact s1.trans s2.symm
  have s1 := same _ i a1 hi (by rw [a2, hpi])
  have s2 := same _ j b1 hjn (by rw [b2, hqj])
  refine rk_lt a1 (s1.1.trans ((Reach.one hj).trans s2.2)) (fun hback => hne ?_)
  have hs : Scc adj i j := ⟨.one hj, s2.2.trans (hback.trans s1.1)⟩
  have e1 : cf i = cf j := by
    obtain ⟨x1, x2, x3⟩ := hcf i hi
    obtain ⟨y1, y2, y3⟩ := hcf j hjn
    have u := x3 (cf j) y1 (hs.trans y2)
    have v := y3 (cf i) x1 (hs.symm.trans x2)
    omega
  rw [← hqj, ← hpi]
  unfold pof
  rw [e1]

theorem partL_mem {k p i : Nat} : i ∈ partL cf k p ↔ i < k ∧ pof cf i = p := by simp [partL]

/-- What holds of two places, the first told ahead of the second. -/
def TR (adj : Nat → List Nat) (cf : Nat → Nat) (D : List Nat) (x y : Nat) : Prop := x ≠ y ∧ (cf x = cf y → x ≤ y) ∧ (y ∈ adj x → cf y ≠ cf x → False) ∧ D.idxOf (pof cf x) ≤ D.idxOf (pof cf y)

theorem told_pairs {wl hol : Nat → List Nat} {D : List Nat} {ws : Nat → Int} (hcf : ∀ x, x < n → LeastOf adj n x (cf x)) (hW : Waits adj cf n (rnk cf n) wl hol) (hK : Kahn (rnk cf n) wl D [] [] ws) : (D.flatMap (partL cf n)).Pairwise (TR adj cf D) := by
  have hnd : D.Nodup := by have := hK.nd; rwa [List.append_nil] at this
  rw [List.pairwise_flatMap]
  refine ⟨fun p _ => ?_, ?_⟩
  · have hs : (partL cf n p).Pairwise (· < ·) := List.Pairwise.filter _ List.pairwise_lt_range
    refine hs.imp_of_mem fun {x y} hx hy hxy => ?_
    obtain ⟨hxn, hxp⟩ := partL_mem.1 hx
    obtain ⟨hyn, hyp⟩ := partL_mem.1 hy
    have hc := pof_inj hcf hxn hyn (by rw [hxp, hyp])
    exact ⟨by omega, fun _ => by omega, fun _ h => h hc.symm, by rw [hxp, hyp]; exact Nat.le_refl _⟩
  · rw [List.pairwise_iff_getElem]
    intro i j hi hj hij x hx y hy
    obtain ⟨hxn, hxp⟩ := partL_mem.1 hx
    obtain ⟨hyn, hyp⟩ := partL_mem.1 hy
    have hne : D[i] ≠ D[j] := List.pairwise_iff_getElem.1 hnd i j hi hj hij
    refine ⟨fun e => hne (by rw [← hxp, ← hyp, e]), fun e => absurd (by rw [← hxp, ← hyp]; unfold pof; rw [e]) hne, fun h1 h2 => ?_, ?_⟩
    · have hm : D[j] ∈ wl D[i] := (hW.mem D[i] D[j] (hK.lt _ (List.mem_append_left _ (List.getElem_mem hi)))).2 ⟨fun e => hne e.symm, x, hxn, hxp, y, h1, hyp⟩
      have hd : D = D.take i ++ D[i] :: D.drop (i + 1) := by
        rw [← List.drop_eq_getElem_cons hi, List.take_append_drop]
      have hin := hK.ord (D.take i) D[i] (D.drop (i + 1)) hd D[j] hm
      obtain ⟨k, hk, e⟩ := List.getElem_of_mem hin
      rw [List.getElem_take] at e
      have hk2 : k < i := by simp at hk; omega
      exact List.pairwise_iff_getElem.1 hnd k j (by omega) hj (by omega) e
    · rw [hxp, hyp, hnd.idxOf_getElem, hnd.idxOf_getElem]
      omega

theorem told_ok {wl hol : Nat → List Nat} {D : List Nat} {ws : Nat → Int} (hcf : ∀ x, x < n → LeastOf adj n x (cf x)) (hadj : ∀ i, ∀ j ∈ adj i, j < n) (hW : Waits adj cf n (rnk cf n) wl hol) (hK : Kahn (rnk cf n) wl D [] [] ws) : OutOk adj n cf (D.flatMap (partL cf n)) := by
  obtain ⟨rank, hrank⟩ := waits_rank hcf hadj hW
  have hall := hK.all (fun p hp q hq => by
    obtain ⟨_, i, hi, _, j, hj, e⟩ := (hW.mem p q hp).1 hq
    rw [← e]
    exact pof_lt hcf (hadj i j hj) (Nat.le_refl _)) rank hrank
  have hp := told_pairs hcf hW hK
  obtain ⟨out, hout⟩ : ∃ out, out = D.flatMap (partL cf n) := ⟨_, rfl⟩
  rw [← hout] at hp ⊢
  have hmem : ∀ i, i ∈ out ↔ i < n := fun i => by
    rw [hout, List.mem_flatMap]
    constructor
    · rintro ⟨p, _, h⟩
      exact (partL_mem.1 h).1
    · intro hi
      exact ⟨pof cf i, hall _ (pof_lt hcf hi (Nat.le_refl _)), partL_mem.2 ⟨hi, rfl⟩⟩
  have hnd : out.Nodup := hp.imp fun h => h.1
  have hperm : out.Perm (List.range n) := (List.perm_ext_iff_of_nodup hnd List.nodup_range).2 fun i => by rw [hmem i, List.mem_range]
  have hlen : out.length = n := by rw [hperm.length_eq, List.length_range]
  have hget : ∀ k, (hk : k < n) → out.getD k 0 = out[k]'(by omega) := fun k hk => by
    rw [List.getD_eq_getElem?_getD, List.getElem?_eq_getElem (by omega)]
    rfl
  rw [List.pairwise_iff_getElem] at hp
  have hR : ∀ i j, i < j → j < n → TR adj cf D (out.getD i 0) (out.getD j 0) := fun i j hij hj => by
    rw [hget i (by omega), hget j hj]
    exact hp i j (by omega) (by omega) hij
  have hlt : ∀ k, k < n → out.getD k 0 < n := fun k hk => by
    rw [hget k hk]
    exact (hmem _).1 (List.getElem_mem _)
  refine ⟨hlen, hlt, fun k k' hk hk' e => ?_, fun i hi => ?_, fun k k' hk hk' hm hne => ?_, fun k hk e => ?_, fun i j k hij hjk hk e => ?_⟩
  · by_cases h1 : k < k'
    · exact absurd e (hR k k' h1 hk').1
    · by_cases h2 : k' < k
      · exact absurd e.symm (hR k' k h2 hk).1
      · omega
  · obtain ⟨k, hk, e⟩ := List.getElem_of_mem ((hmem i).2 hi)
    exact ⟨k, by omega, by rw [hget k (by omega)]; exact e⟩
  · apply Classical.byContradiction
    intro hno
    exact (hR k k' (by omega) hk').2.2.1 hm hne
  · exact (hR k (k + 1) (by omega) hk).2.1 e
  · have h1 := (hR i j hij (by omega)).2.2.2
    have h2 := (hR j k hjk hk).2.2.2
    have ep : pof cf (out.getD i 0) = pof cf (out.getD k 0) := by unfold pof; rw [e]
    rw [← ep] at h2
    have e3 : D.idxOf (pof cf (out.getD j 0)) = D.idxOf (pof cf (out.getD i 0)) := by omega
    have hin : ∀ x, x < n → pof cf x ∈ D := fun x hx => hall _ (pof_lt hcf hx (Nat.le_refl _))
    have hj1 := hin _ (hlt j (by omega))
    have hi1 := hin _ (hlt i (by omega))
    have e4 : pof cf (out.getD j 0) = pof cf (out.getD i 0) := by
      have a := List.getElem_idxOf (List.idxOf_lt_length_iff.2 hj1)
      have b := List.getElem_idxOf (List.idxOf_lt_length_iff.2 hi1)
      rw [← a, ← b]
      congr 1
    exact pof_inj hcf (hlt j (by omega)) (hlt i (by omega)) e4

/-- Where none holds another, the places' own order serves. -/
theorem none_ok (hcf : ∀ x, x < n → LeastOf adj n x (cf x)) (hno : ∀ i, adj i = []) : OutOk adj n cf (List.range n) := by
  have hget : ∀ k, k < n → (List.range n).getD k 0 = k := fun k hk => by simp [List.getD_eq_getElem?_getD, hk]
  have hc : ∀ x, x < n → cf x = x := fun x hx => by
    have key : ∀ m, Reach adj x m → m = x := fun m h => by
      cases h with
      | refl => rfl
      | step e _ => rw [hno x] at e; cases e
    exact key _ (hcf x hx).2.1.1
  refine ⟨by simp, fun k hk => by rw [hget k hk]; exact hk, fun k k' hk hk' e => by rw [hget k hk, hget k' hk'] at e; exact e, fun i hi => ⟨i, hi, hget i hi⟩, fun k k' _ _ hm => (by rw [hno] at hm; (cases hm)), fun k hk e => ?_, fun i j k hij hjk hk e => ?_⟩
  · rw [hget k (by omega), hget (k + 1) hk]
    omega
  · rw [hget i (by omega), hget k hk, hc i (by omega), hc k hk] at e
    omega
end

end Go.Proofs.Qxb6605609a
