/-
  An order that tells at each step the least that is ready is the only one. No Go in sight.
-/
import Derived.Test.Qxb6605609aLe
import Derived.Test.Qxb6605609aLp
namespace Go.Proofs.Qxb6605609a
open Go.RowKit

theorem flat_congr {f g : Nat → List Nat} : ∀ {l : List Nat}, (∀ x ∈ l, f x = g x) → l.flatMap f = l.flatMap g
  | [], _ => rfl
  | a :: r, h => by rw [List.flatMap_cons, List.flatMap_cons, h a (List.mem_cons_self ..), flat_congr fun x hx => h x (List.mem_cons_of_mem _ hx)]

structure Good (S : Nat → Prop) (wl : Nat → List Nat) (D : List Nat) : Prop where
  nd : D.Nodup
  mem : ∀ p ∈ D, S p
  ord : ∀ D1 p D2, D = D1 ++ p :: D2 → ∀ q ∈ wl p, q ∈ D1
  lst : ∀ D1 p D2, D = D1 ++ p :: D2 → ∀ q, S q → q ∉ D1 → (∀ x ∈ wl q, x ∈ D1) → p ≤ q
  full : ∀ p, S p → (∀ q ∈ wl p, q ∈ D) → p ∈ D

theorem nodup_mid {D1 D2 : List Nat} {p : Nat} (h : (D1 ++ p :: D2).Nodup) : p ∉ D1 := fun hp => by
  rw [List.nodup_append] at h
  exact h.2.2 p hp p (List.mem_cons_self ..) rfl

theorem Good.unique {S : Nat → Prop} {wl : Nat → List Nat} {D E : List Nat} (hD : Good S wl D) (hE : Good S wl E) : D = E := by
  have key : ∀ (D2 E2 D1 : List Nat), D = D1 ++ D2 → E = D1 ++ E2 → D2 = E2 := by
    intro D2
    induction D2 with
    | nil =>
      intro E2 D1 h1 h2
      cases E2 with
      | nil => rfl
      | cons q r =>
        exfalso
        have hnd := hE.nd
        rw [h2] at hnd
        have hq := hD.full q (hE.mem q (by rw [h2]; simp)) (fun x hx => by rw [h1, List.append_nil]; exact hE.ord D1 q r h2 x hx)
        rw [h1, List.append_nil] at hq
        exact nodup_mid hnd hq
    | cons p s ih =>
      intro E2 D1 h1 h2
      have hndD := hD.nd
      rw [h1] at hndD
      cases E2 with
      | nil =>
        exfalso
        have hq := hE.full p (hD.mem p (by rw [h1]; simp)) (fun x hx => by rw [h2, List.append_nil]; exact hD.ord D1 p s h1 x hx)
        rw [h2, List.append_nil] at hq
        exact nodup_mid hndD hq
      | cons q r =>
        have hndE := hE.nd
        rw [h2] at hndE
        have a1 := hD.lst D1 p s h1 q (hE.mem q (by rw [h2]; simp)) (nodup_mid hndE) (hE.ord D1 q r h2)
        have a2 := hE.lst D1 q r h2 p (hD.mem p (by rw [h1]; simp)) (nodup_mid hndD) (hD.ord D1 p s h1)
        have e : p = q := Nat.le_antisymm a1 a2
        subst e
        rw [ih r (D1 ++ [p]) (by rw [h1]; simp) (by rw [h2]; simp)]
  exact key D E [] rfl rfl

theorem Kahn.good {m : Nat} {wl : Nat → List Nat} {D : List Nat} {w : Nat → Int} (h : Kahn m wl D [] [] w) (hl : Lst (fun a b => a ≤ b) m wl D) : Good (fun p => p < m) wl D :=
  ⟨by simpa using h.nd, fun p hp => h.lt p (by simpa using hp), h.ord, hl, fun p hp hq => by
    rcases (h.ready p hp).2 ⟨hq, by simp⟩ with h1 | h1
    · exact h1
    · cases h1⟩

theorem rnk_inj {cf : Nat → Nat} {a b : Nat} (ha : cf a = a) (hb : cf b = b) (h : rnk cf a = rnk cf b) : a = b := by
  rcases Nat.lt_trichotomy a b with h1 | h1 | h1
  · have := rnk_lt ha h1; omega
  · exact h1
  · have := rnk_lt hb h1; omega
theorem rnk_surj (cf : Nat → Nat) : ∀ (n p : Nat), p < rnk cf n → ∃ r, r < n ∧ cf r = r ∧ rnk cf r = p
  | 0, p, h => by simp [rnk] at h
  | n + 1, p, h => by
    rw [rnk_succ] at h
    by_cases h1 : p < rnk cf n
    · obtain ⟨r, h2, h3, h4⟩ := rnk_surj cf n p h1
      exact ⟨r, by omega, h3, h4⟩
    · by_cases e : cf n = n
      · rw [if_pos e] at h
        exact ⟨n, by omega, e, by omega⟩
      · rw [if_neg e] at h
        omega

section
variable {adj : Nat → List Nat} {cf : Nat → Nat} {n : Nat} {wl hol wl' hol' : Nat → List Nat} {D D' : List Nat} {ws ws' : Nat → Int}

/-- The waiting by the parts' numbers and by their least places. -/
theorem wait_iff (hcf : ∀ x, x < n → LeastOf adj n x (cf x)) (hadj : ∀ i j, j ∈ adj i → j < n) (hw : Waits adj cf n (rnk cf n) wl hol) (hw' : WaitC adj cf n wl' hol') {r : Nat} (hr : r < n) (hrep : cf r = r) (q' : Nat) : q' ∈ wl (rnk cf r) ↔ ∃ q ∈ wl' r, rnk cf q = q' := by
  rw [hw.mem _ q' (rnk_lt hrep hr)]
  constructor
  · rintro ⟨hne, i, hi, e, j, hj, rfl⟩
    have e2 : cf i = r := rnk_inj (cf_idem hcf hi) hrep e
    refine ⟨cf j, (hw'.mem r (cf j) hr).2 ⟨fun e3 => hne (by rw [← e3]; rfl), i, hi, e2, j, hj, rfl⟩, rfl⟩
  · rintro ⟨q, hq, rfl⟩
    obtain ⟨hne, i, hi, e, j, hj, e2⟩ := (hw'.mem r q hr).1 hq
    have hjn := hadj i j hj
    have hqr : cf q = q := by rw [← e2]; exact cf_idem hcf hjn
    exact ⟨fun e3 => hne (rnk_inj hqr hrep e3), i, hi, by unfold pof; rw [e], j, hj, by unfold pof; rw [e2]⟩

theorem wait_rep (hcf : ∀ x, x < n → LeastOf adj n x (cf x)) (hadj : ∀ i j, j ∈ adj i → j < n) (hw' : WaitC adj cf n wl' hol') {r q : Nat} (hr : r < n) (hq : q ∈ wl' r) : cf q = q := by
  obtain ⟨_, i, _, _, j, hj, e2⟩ := (hw'.mem r q hr).1 hq
  rw [← e2]
  exact cf_idem hcf (hadj i j hj)

/-- Those told are least places. -/
theorem told_rep (hk : Kahn n (wlC cf n wl') D' [] [] ws') {r : Nat} (hr : r ∈ D') : r < n ∧ cf r = r := by
  have hrn : r < n := hk.lt r (by simpa using hr)
  refine ⟨hrn, ?_⟩
  apply Classical.byContradiction
  intro hne
  have h1 := ((hk.ready r hrn).1 (Or.inl hr)).1 n (by unfold wlC; rw [if_neg hne]; simp)
  have h2 := hk.lt n (by simpa using h1)
  omega

theorem goodC (hcf : ∀ x, x < n → LeastOf adj n x (cf x)) (hadj : ∀ i j, j ∈ adj i → j < n) (hw : Waits adj cf n (rnk cf n) wl hol) (hw' : WaitC adj cf n wl' hol') (hk : Kahn n (wlC cf n wl') D' [] [] ws') (hl : Lst (fun a b => a ≤ b) n (wlC cf n wl') D') : Good (fun p => p < rnk cf n) wl (D'.map (rnk cf)) := by
  have hg := hk.good hl
  have hC : ∀ r, cf r = r → wlC cf n wl' r = wl' r := fun r hr => by unfold wlC; rw [if_pos hr]
  have back : ∀ (A : List Nat), (∀ x ∈ A, x ∈ D') → ∀ r, r < n → cf r = r → (∀ q' ∈ wl (rnk cf r), q' ∈ A.map (rnk cf)) → ∀ y ∈ wlC cf n wl' r, y ∈ A := fun A hA r hr hrep h y hy => by
    rw [hC r hrep] at hy
    obtain ⟨z, hz, e⟩ := List.mem_map.1 (h (rnk cf y) ((wait_iff hcf hadj hw hw' hr hrep _).2 ⟨y, hy, rfl⟩))
    have := rnk_inj (told_rep hk (hA z hz)).2 (wait_rep hcf hadj hw' hr hy) e
    rw [← this]
    exact hz
  have split : ∀ D1 p D2, D'.map (rnk cf) = D1 ++ p :: D2 → ∃ A r B, D' = A ++ r :: B ∧ A.map (rnk cf) = D1 ∧ rnk cf r = p := fun D1 p D2 h => by
    obtain ⟨A, R, e, h1, h2⟩ := List.map_eq_append_iff.1 h
    obtain ⟨r, B, e2, h3, h4⟩ := List.map_eq_cons_iff.1 h2
    exact ⟨A, r, B, by rw [e, e2], h1, h3⟩
  refine ⟨?_, fun p hp => ?_, fun D1 p D2 h q' hq' => ?_, fun D1 p D2 h q' hq' hn hall => ?_, fun p hp hall => ?_⟩
  · refine List.pairwise_map.2 (List.Pairwise.imp_of_mem (R := fun a b => a ≠ b) (fun {a b} ha hb hne e => hne (rnk_inj (told_rep hk ha).2 (told_rep hk hb).2 e)) hg.nd)
  · obtain ⟨r, hr, rfl⟩ := List.mem_map.1 hp
    obtain ⟨h1, h2⟩ := told_rep hk hr
    exact rnk_lt h2 h1
  · obtain ⟨A, r, B, e, rfl, rfl⟩ := split D1 p D2 h
    obtain ⟨h1, h2⟩ := told_rep hk (show r ∈ D' by rw [e]; simp)
    obtain ⟨q, hq, rfl⟩ := (wait_iff hcf hadj hw hw' h1 h2 q').1 hq'
    exact List.mem_map.2 ⟨q, hg.ord A r B e q (by rw [hC r h2]; exact hq), rfl⟩
  · obtain ⟨A, r, B, e, rfl, rfl⟩ := split D1 p D2 h
    obtain ⟨q, h1, h2, rfl⟩ := rnk_surj cf n q' hq'
    have := hg.lst A r B e q h1 (fun hm => hn (List.mem_map.2 ⟨q, hm, rfl⟩)) (back A (fun x hx => by rw [e]; exact List.mem_append_left _ hx) q h1 h2 hall)
    exact rnk_mono cf this
  · obtain ⟨r, h1, h2, rfl⟩ := rnk_surj cf n p hp
    exact List.mem_map.2 ⟨r, hg.full r h1 (back D' (fun _ h => h) r h1 h2 hall), rfl⟩

theorem part_eq (hcf : ∀ x, x < n → LeastOf adj n x (cf x)) {r : Nat} (hrep : cf r = r) : partL cf n (rnk cf r) = partC cf n r := by
  unfold partL partC
  apply List.filter_congr
  intro i hi
  have hin : i < n := by simpa using hi
  have : pof cf i = rnk cf r ↔ cf i = r := ⟨fun e => rnk_inj (cf_idem hcf hin) hrep e, fun e => by unfold pof; rw [e]⟩
  simp only [this]

/-- The two tell the same places. -/
theorem same_told (hcf : ∀ x, x < n → LeastOf adj n x (cf x)) (hadj : ∀ i j, j ∈ adj i → j < n) (hw : Waits adj cf n (rnk cf n) wl hol) (hkD : Kahn (rnk cf n) wl D [] [] ws) (hlD : Lst (fun a b => a ≤ b) (rnk cf n) wl D) : SameAs adj cf n (D.flatMap (partL cf n)) := by
  intro wl' hol' D' ws' hw' hk hl
  have e : D = D'.map (rnk cf) := (hkD.good hlD).unique (goodC hcf hadj hw hw' hk hl)
  rw [e, List.flatMap_map]
  exact flat_congr fun r hr => (part_eq hcf (told_rep hk hr).2).symm

/-- Where no group names another. -/
theorem same_none (hcf : ∀ x, x < n → LeastOf adj n x (cf x)) (hno : ∀ i, adj i = []) : SameAs adj cf n (List.range n) := by
  intro wl' hol' D' ws' hw' hk hl
  have hid : ∀ x, x < n → cf x = x := fun x hx => by
    have key : ∀ m, Reach adj x m → m = x := fun m h => by
      cases h with
      | refl => rfl
      | step e _ => rw [hno x] at e; cases e
    exact key _ (hcf x hx).2.1.1
  have hg := hk.good hl
  have hwl : ∀ p, p < n → wlC cf n wl' p = [] := fun p hp => by
    unfold wlC
    rw [if_pos (hid p hp)]
    refine List.eq_nil_iff_forall_not_mem.2 fun q hq => ?_
    obtain ⟨_, i, _, _, j, hj, _⟩ := (hw'.mem p q hp).1 hq
    rw [hno i] at hj
    cases hj
  have hr : Good (fun p => p < n) (wlC cf n wl') (List.range n) := by
    refine ⟨List.nodup_range, fun p hp => by simpa using hp, fun D1 p D2 h q hq => ?_, fun D1 p D2 h q hq hn _ => ?_, fun p hp _ => by simpa using hp⟩
    · have hp : p < n := by
        have : p ∈ List.range n := by rw [h]; simp
        simpa using this
      rw [hwl p hp] at hq
      cases hq
    · apply Classical.byContradiction
      intro hlt
      have hpw : (D1 ++ p :: D2).Pairwise (· < ·) := by rw [← h]; exact List.pairwise_lt_range
      rw [List.pairwise_append] at hpw
      have hqm : q ∈ D1 ++ p :: D2 := by rw [← h]; simpa using hq
      rcases List.mem_append.1 hqm with h1 | h1
      · exact hn h1
      · rcases List.mem_cons.1 h1 with h2 | h2
        · omega
        · have := (List.pairwise_cons.1 hpw.2.1).1 q h2
          omega
  rw [hg.unique hr]
  have e : ∀ r ∈ List.range n, partC cf n r = [r] := fun r hr => by
    have hrn : r < n := by simpa using hr
    have h1 : partC cf n r = (List.range n).filter (fun i => i == r) := by
      unfold partC
      apply List.filter_congr
      intro i hi
      rw [hid i (by simpa using hi)]
      simp [BEq.beq]
    rw [h1, List.filter_beq, List.nodup_range.count, if_pos hr]
    rfl
  rw [flat_congr e]
  simp
end

end Go.Proofs.Qxb6605609a
