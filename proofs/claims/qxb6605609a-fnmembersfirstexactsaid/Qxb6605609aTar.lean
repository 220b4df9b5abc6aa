/-
  TARJAN'S WALK, AS A RELATION, AND WHAT IT KEEPS. No Go in sight.
-/
import Derived.Test.Qxb6605609aKos
namespace Go.Proofs.Qxb6605609a

/-- The walk's state: the visits' numbers, the lows, the stack (its top first), how many have been visited, the cycles found. -/
structure TSt where
  num : Nat → Option Nat
  low : Nat → Nat
  stack : List Nat
  cnt : Nat
  cycles : List (List Nat)

/-- A node is visited. -/
def TSt.enter (s : TSt) (k : Nat) : TSt :=
  { s with num := fun x => if x = k then some s.cnt else s.num x, low := fun x => if x = k then s.cnt else s.low x, stack := k :: s.stack, cnt := s.cnt + 1 }
/-- A low falls. -/
def TSt.lowTo (s : TSt) (k v : Nat) : TSt := { s with low := fun x => if x = k then min (s.low k) v else s.low x }
/-- The part of the stack from the top down to k. -/
def upTo (k : Nat) : List Nat → List Nat
  | [] => []
  | x :: r => if x = k then [x] else x :: upTo k r
/-- What lies below k. -/
def below (k : Nat) : List Nat → List Nat
  | [] => []
  | x :: r => if x = k then r else below k r
/-- The walk from k ends: where k's low is its own visit, the stack down to k is taken off; where it is a cycle it is told. -/
def TSt.close (adj : Nat → List Nat) (s : TSt) (k : Nat) : TSt :=
  if s.num k = some (s.low k) then
    { s with stack := below k s.stack, cycles := s.cycles ++ (if 1 < (upTo k s.stack).length ∨ k ∈ adj k then [upTo k s.stack] else []) }
  else s

/-- The walk over the children that are left. -/
inductive Kids (adj : Nat → List Nat) : Nat → TSt → List Nat → TSt → Prop
  | nil {k : Nat} {s : TSt} : Kids adj k s [] s
  | stk {k c i : Nat} {cs : List Nat} {s s' : TSt} : s.num c = some i → c ∈ s.stack → Kids adj k (s.lowTo k i) cs s' → Kids adj k s (c :: cs) s'
  | old {k c i : Nat} {cs : List Nat} {s s' : TSt} : s.num c = some i → c ∉ s.stack → Kids adj k s cs s' → Kids adj k s (c :: cs) s'
  | new {k c : Nat} {cs : List Nat} {s s1 s' : TSt} : s.num c = none → Kids adj c (s.enter c) (adj c) s1 → Kids adj k ((s1.close adj c).lowTo k ((s1.close adj c).low c)) cs s' → Kids adj k s (c :: cs) s'

theorem upTo_append_below (k : Nat) : ∀ l : List Nat, k ∈ l → upTo k l ++ below k l = l
  | x :: r, h => by
    unfold upTo below
    by_cases e : x = k
    · simp [e]
    · rw [if_neg e, if_neg e, List.cons_append, upTo_append_below k r (by rcases List.mem_cons.1 h with h | h; exact absurd h.symm e; exact h)]

/-- What is known between two steps of the walk; gray: the nodes whose walks are open, the last first. -/
structure Tar (adj : Nat → List Nat) (gray : List Nat) (s : TSt) : Prop where
  cnt : ∀ x i, s.num x = some i → i < s.cnt
  inj : ∀ x y i, s.num x = some i → s.num y = some i → x = y
  vis : ∀ x ∈ s.stack, ∃ i, s.num x = some i
  nd : s.stack.Nodup
  falls : s.stack.Pairwise fun x y => ∀ i j, s.num x = some i → s.num y = some j → j < i
  gin : ∀ g ∈ gray, g ∈ s.stack
  gfalls : gray.Pairwise fun x y => ∀ i j, s.num x = some i → s.num y = some j → j < i
  olds : ∀ x i, s.num x = some i → x ∉ s.stack → ∀ y ∈ adj x, (∃ j, s.num y = some j) ∧ y ∉ s.stack
  black : ∀ x ∈ s.stack, x ∉ gray → ∀ y ∈ adj x, ∃ j, s.num y = some j
  up : ∀ g ∈ gray, ∀ x ∈ s.stack, ∀ i j, s.num g = some i → s.num x = some j → i ≤ j → Reach adj g x
  down : ∀ x ∈ s.stack, ∃ g ∈ gray, ∃ i j, s.num g = some i ∧ s.num x = some j ∧ i ≤ j ∧ Reach adj x g
  cyc : ∀ c ∈ s.cycles, c ≠ [] ∧ c.Nodup ∧ ∀ x ∈ c, ∀ y, y ∈ c ↔ Scc adj x y
  told : ∀ x i, s.num x = some i → x ∉ s.stack → (x ∈ adj x ∨ ∃ y, y ≠ x ∧ Scc adj x y) → ∃ c ∈ s.cycles, x ∈ c

/-- What a walk over k's children leaves of what was there. -/
structure Ext (k : Nat) (s s' : TSt) : Prop where
  num : ∀ x i, s.num x = some i → s'.num x = some i
  cnt : s.cnt ≤ s'.cnt
  stack : ∃ new, s'.stack = new ++ s.stack ∧ ∀ x ∈ new, s.num x = none
  popped : ∀ x i, s.num x = some i → x ∉ s.stack → x ∉ s'.stack
  fresh : ∀ x i, s.num x = none → s'.num x = some i → s.cnt ≤ i
  low : ∀ x i, s.num x = some i → x ≠ k → s'.low x = s.low x

theorem TSt.enter_num {s : TSt} {k x i : Nat} (h : s.num x = some i) (hk : s.num k = none) : (s.enter k).num x = some i := by
  have : x ≠ k := by rintro rfl; rw [hk] at h; cases h
  simp [TSt.enter, this, h]
theorem TSt.enter_self (s : TSt) (k : Nat) : (s.enter k).num k = some s.cnt := by simp [TSt.enter]
theorem TSt.enter_inv {s : TSt} {k x i : Nat} (h : (s.enter k).num x = some i) : (x = k ∧ i = s.cnt) ∨ (x ≠ k ∧ s.num x = some i) := by
  by_cases e : x = k
  · subst e
    rw [TSt.enter_self] at h
    cases h
    exact Or.inl ⟨rfl, rfl⟩
  · simp [TSt.enter, e] at h
    exact Or.inr ⟨e, h⟩

theorem Tar.enter {adj : Nat → List Nat} {gray : List Nat} {s : TSt} (h : Tar adj gray s) {c : Nat} (hc : s.num c = none) (hg : ∀ g ∈ gray, Reach adj g c) : Tar adj (c :: gray) (s.enter c) := by
  have hcs : c ∉ s.stack := fun hm => by
    obtain ⟨i, hi⟩ := h.vis c hm
    rw [hc] at hi
    cases hi
  have hstk : (s.enter c).stack = c :: s.stack := rfl
  have hne : ∀ x ∈ s.stack, x ≠ c := fun x hx e => hcs (e ▸ hx)
  refine ⟨?_, ?_, ?_, ?_, ?_, ?_, ?_, ?_, ?_, ?_, ?_, h.cyc, ?_⟩
  · intro x i hx
    show i < s.cnt + 1
    rcases TSt.enter_inv hx with ⟨_, rfl⟩ | ⟨_, hx⟩
    · omega
    · have := h.cnt x i hx
      omega
  · intro x y i hx hy
    rcases TSt.enter_inv hx with ⟨e1, e2⟩ | ⟨_, hx'⟩ <;> rcases TSt.enter_inv hy with ⟨e3, e4⟩ | ⟨_, hy'⟩
    · rw [e1, e3]
    · have := h.cnt y _ hy'
      omega
    · have := h.cnt x _ hx'
      omega
    · exact h.inj x y i hx' hy'
  · intro x hx
    rw [hstk] at hx
    rcases List.mem_cons.1 hx with rfl | hx
    · exact ⟨_, TSt.enter_self _ _⟩
    · obtain ⟨i, hi⟩ := h.vis x hx
      exact ⟨i, TSt.enter_num hi hc⟩
  · rw [hstk]
    exact List.nodup_cons.2 ⟨hcs, h.nd⟩
  · rw [hstk, List.pairwise_cons]
    refine ⟨fun y hy i j hi hj => ?_, h.falls.imp_of_mem fun {x y} hx hy hxy i j hi hj => ?_⟩
    · rcases TSt.enter_inv hi with ⟨_, rfl⟩ | ⟨hh, _⟩
      · rcases TSt.enter_inv hj with ⟨e, _⟩ | ⟨_, hj⟩
        · exact absurd e (hne y hy)
        · exact h.cnt y j hj
      · exact absurd rfl hh
    · rcases TSt.enter_inv hi with ⟨e, _⟩ | ⟨_, hi⟩
      · exact absurd e (hne x hx)
      · rcases TSt.enter_inv hj with ⟨e, _⟩ | ⟨_, hj⟩
        · exact absurd e (hne y hy)
        · exact hxy i j hi hj
  · intro g hgm
    rw [hstk]
    rcases List.mem_cons.1 hgm with rfl | hgm
    · exact List.mem_cons_self ..
    · exact List.mem_cons_of_mem _ (h.gin g hgm)
  · rw [List.pairwise_cons]
    refine ⟨fun y hy i j hi hj => ?_, h.gfalls.imp_of_mem fun {x y} hx hy hxy i j hi hj => ?_⟩
    · rcases TSt.enter_inv hi with ⟨_, rfl⟩ | ⟨hh, _⟩
      · rcases TSt.enter_inv hj with ⟨e, _⟩ | ⟨_, hj⟩
        · exact absurd e (hne y (h.gin y hy))
        · exact h.cnt y j hj
      · exact absurd rfl hh
    · rcases TSt.enter_inv hi with ⟨e, _⟩ | ⟨_, hi⟩
      · exact absurd e (hne x (h.gin x hx))
      · rcases TSt.enter_inv hj with ⟨e, _⟩ | ⟨_, hj⟩
        · exact absurd e (hne y (h.gin y hy))
        · exact hxy i j hi hj
  · intro x i hx hns y hy
    rw [hstk] at hns
    rcases TSt.enter_inv hx with ⟨rfl, _⟩ | ⟨_, hx⟩
    · exact absurd (List.mem_cons_self ..) hns
    · obtain ⟨⟨j, hj⟩, hys⟩ := h.olds x i hx (fun hm => hns (List.mem_cons_of_mem _ hm)) y hy
      refine ⟨⟨j, TSt.enter_num hj hc⟩, ?_⟩
      rw [hstk]
      intro hm
      rcases List.mem_cons.1 hm with rfl | hm
      · rw [hc] at hj; cases hj
      · exact hys hm
  · intro x hx hng y hy
    rw [hstk] at hx
    rcases List.mem_cons.1 hx with rfl | hx
    · exact absurd (List.mem_cons_self ..) hng
    · obtain ⟨j, hj⟩ := h.black x hx (fun hm => hng (List.mem_cons_of_mem _ hm)) y hy
      exact ⟨j, TSt.enter_num hj hc⟩
  · intro g hgm x hx i j hi hj hij
    rw [hstk] at hx
    rcases List.mem_cons.1 hgm with e0 | hgm'
    · subst e0
      rcases List.mem_cons.1 hx with e1 | hx
      · subst e1
        exact .refl _
      · rw [TSt.enter_self] at hi
        cases hi
        rcases TSt.enter_inv hj with ⟨e, _⟩ | ⟨_, hj⟩
        · exact absurd e (hne x hx)
        · have := h.cnt x j hj
          omega
    · clear hgm
      have hgm := hgm'
      rcases List.mem_cons.1 hx with e1 | hx
      · rw [e1]
        exact hg g hgm
      · rcases TSt.enter_inv hi with ⟨e, _⟩ | ⟨_, hi⟩
        · exact absurd e (hne g (h.gin g hgm))
        · rcases TSt.enter_inv hj with ⟨e, _⟩ | ⟨_, hj⟩
          · exact absurd e (hne x hx)
          · exact h.up g hgm x hx i j hi hj hij
  · intro x hx
    rw [hstk] at hx
    rcases List.mem_cons.1 hx with rfl | hx
    · exact ⟨x, List.mem_cons_self .., s.cnt, s.cnt, TSt.enter_self _ _, TSt.enter_self _ _, Nat.le_refl _, .refl _⟩
    · obtain ⟨g, hgm, i, j, hi, hj, hij, hr⟩ := h.down x hx
      exact ⟨g, List.mem_cons_of_mem _ hgm, i, j, TSt.enter_num hi hc, TSt.enter_num hj hc, hij, hr⟩
  · intro x i hx hns hcy
    rw [hstk] at hns
    rcases TSt.enter_inv hx with ⟨rfl, _⟩ | ⟨_, hx⟩
    · exact absurd (List.mem_cons_self ..) hns
    · exact h.told x i hx (fun hm => hns (List.mem_cons_of_mem _ hm)) hcy

theorem Tar.lowTo {adj : Nat → List Nat} {gray : List Nat} {s : TSt} (h : Tar adj gray s) (k v : Nat) : Tar adj gray (s.lowTo k v) :=
  ⟨h.cnt, h.inj, h.vis, h.nd, h.falls, h.gin, h.gfalls, h.olds, h.black, h.up, h.down, h.cyc, h.told⟩

theorem upTo_facts {R : Nat → Nat → Prop} (c : Nat) : ∀ l : List Nat, l.Pairwise R → c ∈ l → (∀ x ∈ upTo c l, x = c ∨ R x c) ∧ (∀ x ∈ below c l, R c x) ∧ c ∈ upTo c l
  | x :: r, hp, hm => by
    rw [List.pairwise_cons] at hp
    unfold upTo below
    by_cases e : x = c
    · subst e
      rw [if_pos rfl, if_pos rfl]
      exact ⟨fun y hy => Or.inl (by simpa using hy), fun y hy => hp.1 y hy, by simp⟩
    · rw [if_neg e, if_neg e]
      have hcr : c ∈ r := by
        rcases List.mem_cons.1 hm with h | h
        · exact absurd h.symm e
        · exact h
      obtain ⟨h1, h2, h3⟩ := upTo_facts c r hp.2 hcr
      refine ⟨fun y hy => ?_, h2, List.mem_cons_of_mem _ h3⟩
      rcases List.mem_cons.1 hy with rfl | hy
      · exact Or.inr (hp.1 c hcr)
      · exact h1 y hy

theorem Tar.close {adj : Nat → List Nat} {gray : List Nat} {s : TSt} {c i : Nat} (h : Tar adj (c :: gray) s) (ic : s.num c = some i) (hkids : ∀ y ∈ adj c, ∃ j, s.num y = some j)
    (hlow : ∀ x ∈ s.stack, ∀ jx, s.num x = some jx → i ≤ jx → ∀ z ∈ adj x, z ∈ s.stack → ∀ j, s.num z = some j → j < i → s.low c ≤ j)
    (hle : s.low c ≤ i) (hC : s.low c = i ∨ ∃ y ∈ s.stack, s.num y = some (s.low c) ∧ Reach adj c y) : Tar adj gray (s.close adj c) := by
  have hcs : c ∈ s.stack := h.gin c (List.mem_cons_self ..)
  have hgf := h.gfalls
  rw [List.pairwise_cons] at hgf
  have hglt : ∀ g ∈ gray, ∀ j, s.num g = some j → j < i := fun g hg j hj => hgf.1 g hg i j ic hj
  by_cases hi : s.low c = i
  · have hcl : s.close adj c = { s with stack := below c s.stack, cycles := s.cycles ++ (if 1 < (upTo c s.stack).length ∨ c ∈ adj c then [upTo c s.stack] else []) } := by
      unfold TSt.close
      rw [if_pos (by rw [ic, hi])]
    have hab := upTo_append_below c s.stack hcs
    obtain ⟨hA, hB, hcA⟩ := upTo_facts c s.stack h.falls hcs
    rw [hcl]
    clear hcl
    obtain ⟨A, eA⟩ : ∃ A, A = upTo c s.stack := ⟨_, rfl⟩
    obtain ⟨B, eB⟩ : ∃ B, B = below c s.stack := ⟨_, rfl⟩
    rw [← eA] at hab hA hcA ⊢
    rw [← eB] at hab hB ⊢
    have hmem : ∀ x, x ∈ s.stack ↔ x ∈ A ∨ x ∈ B := fun x => by rw [← hab, List.mem_append]
    have hAn : ∀ x ∈ A, ∀ j, s.num x = some j → i ≤ j := fun x hx j hj => by
      rcases hA x hx with rfl | hr
      · rw [ic] at hj; cases hj; exact Nat.le_refl _
      · have := hr j i hj ic; omega
    have hBn : ∀ x ∈ B, ∀ j, s.num x = some j → j < i := fun x hx j hj => hB x hx i j ic hj
    have hnd := h.nd
    rw [← hab, List.nodup_append] at hnd
    have hf := h.falls
    rw [← hab, List.pairwise_append] at hf
    have hAg : ∀ x ∈ A, x ≠ c → x ∉ c :: gray := fun x hx hne hm => by
      rcases List.mem_cons.1 hm with e | hm
      · exact hne e
      · obtain ⟨j, hj⟩ := h.vis x ((hmem x).2 (Or.inl hx))
        have h1 := hAn x hx j hj
        have h2 := hglt x hm j hj
        omega
    have hAe : ∀ x ∈ A, ∀ y ∈ adj x, (∃ j, s.num y = some j) ∧ y ∉ B := fun x hx y hy => by
      have hv : ∃ j, s.num y = some j := by
        by_cases e : x = c
        · subst e; exact hkids y hy
        · exact h.black x ((hmem x).2 (Or.inl hx)) (hAg x hx e) y hy
      refine ⟨hv, fun hyB => ?_⟩
      obtain ⟨j, hj⟩ := hv
      obtain ⟨jx, hjx⟩ := h.vis x ((hmem x).2 (Or.inl hx))
      have h1 := hBn y hyB j hj
      have h2 := hlow x ((hmem x).2 (Or.inl hx)) jx hjx (hAn x hx jx hjx) y hy ((hmem y).2 (Or.inr hyB)) j hj h1
      omega
    have hAs : ∀ x ∈ A, Scc adj c x := fun x hx => by
      have hxs := (hmem x).2 (Or.inl hx)
      obtain ⟨jx, hjx⟩ := h.vis x hxs
      refine ⟨h.up c (List.mem_cons_self ..) x hxs i jx ic hjx (hAn x hx jx hjx), ?_⟩
      obtain ⟨g, hg, ig, j, hig, hj, hij, hr⟩ := h.down x hxs
      rcases List.mem_cons.1 hg with rfl | hg'
      · exact hr
      · exact hr.trans (h.up g hg c hcs ig i hig ic (Nat.le_of_lt (hglt g hg' ig hig)))
    have hcp : ∀ a, ((a ∈ A) ∨ (∃ j, s.num a = some j) ∧ a ∉ s.stack) → ∀ b ∈ adj a, (b ∈ A) ∨ (∃ j, s.num b = some j) ∧ b ∉ s.stack := fun a ha b hb => by
      rcases ha with ha | ⟨⟨j, hj⟩, ha⟩
      · obtain ⟨hv, hnB⟩ := hAe a ha b hb
        by_cases hbA : b ∈ A
        · exact Or.inl hbA
        · exact Or.inr ⟨hv, fun hm => ((hmem b).1 hm).elim hbA hnB⟩
      · exact Or.inr (h.olds a j hj ha b hb)
    have hAc : ∀ y, Scc adj c y → y ∈ A := fun y hy => by
      rcases reach_closed hcp hy.1 (Or.inl hcA) with hyA | hyP
      · exact hyA
      · have := reach_closed (p := fun a => (∃ j, s.num a = some j) ∧ a ∉ s.stack) (fun a ⟨⟨j, hj⟩, ha⟩ b hb => h.olds a j hj ha b hb) hy.2 hyP
        exact absurd hcs this.2
    have hAiff : ∀ x ∈ A, ∀ y, y ∈ A ↔ Scc adj x y := fun x hx y => ⟨fun hy => (hAs x hx).symm.trans (hAs y hy), fun hxy => hAc y ((hAs x hx).trans hxy)⟩
    refine ⟨h.cnt, h.inj, fun x hx => h.vis x ((hmem x).2 (Or.inr hx)), hnd.2.1, hf.2.1, fun g hg => ?_, hgf.2, fun x j hj hx y hy => ?_, fun x hx hng y hy => ?_, fun g hg x hx => h.up g (List.mem_cons_of_mem _ hg) x ((hmem x).2 (Or.inr hx)), fun x hx => ?_, ?_, ?_⟩
    · rcases (hmem g).1 (h.gin g (List.mem_cons_of_mem _ hg)) with hgA | hgB
      · obtain ⟨j, hj⟩ := h.vis g (h.gin g (List.mem_cons_of_mem _ hg))
        have h1 := hAn g hgA j hj
        have h2 := hglt g hg j hj
        omega
      · exact hgB
    · by_cases hxs : x ∈ s.stack
      · rcases (hmem x).1 hxs with hxA | hxB
        · exact hAe x hxA y hy
        · exact absurd hxB hx
      · obtain ⟨hv, hys⟩ := h.olds x j hj hxs y hy
        exact ⟨hv, fun hyB => hys ((hmem y).2 (Or.inr hyB))⟩
    · refine h.black x ((hmem x).2 (Or.inr hx)) (fun hm => ?_) y hy
      rcases List.mem_cons.1 hm with e | hm
      · subst e
        have := hBn x hx i ic
        omega
      · exact hng hm
    · obtain ⟨g, hg, ig, j, hig, hj, hij, hr⟩ := h.down x ((hmem x).2 (Or.inr hx))
      rcases List.mem_cons.1 hg with e | hg
      · subst e
        rw [ic] at hig
        cases hig
        have := hBn x hx j hj
        omega
      · exact ⟨g, hg, ig, j, hig, hj, hij, hr⟩
    · intro cy hcy
      rcases List.mem_append.1 hcy with hcy | hcy
      · exact h.cyc cy hcy
      · split at hcy
        · simp at hcy
          subst hcy
          exact ⟨List.ne_nil_of_mem hcA, hnd.1, hAiff⟩
        · simp at hcy
    · intro x j hj hx hcyc
      by_cases hxs : x ∈ s.stack
      · rcases (hmem x).1 hxs with hxA | hxB
        · by_cases hcond : 1 < A.length ∨ c ∈ adj c
          · exact ⟨A, by rw [if_pos hcond]; simp, hxA⟩
          · exfalso
            have hlen : A.length ≤ 1 := by
              by_cases e : 1 < A.length
              · exact absurd (Or.inl e) hcond
              · omega
            have hone : ∀ y ∈ A, y = c := fun y hy => by
              match A, hlen, hcA, hy with
              | [a], _, hc', hy' => simp at hc' hy'; rw [hc', hy']
            have hxc := hone x hxA
            rcases hcyc with h1 | ⟨y, hne, hy⟩
            · rw [hxc] at h1
              exact hcond (Or.inr h1)
            · have := hone y ((hAiff x hxA y).2 hy)
              exact hne (this.trans hxc.symm)
        · exact absurd hxB hx
      · obtain ⟨cy, h1, h2⟩ := h.told x j hj hxs hcyc
        exact ⟨cy, List.mem_append_left _ h1, h2⟩
  · have hcl : s.close adj c = s := by
      unfold TSt.close
      rw [if_neg (by rw [ic]; intro e; cases e; exact hi rfl)]
    rw [hcl]
    obtain ⟨y, hys, hyn, hcy⟩ : ∃ y ∈ s.stack, s.num y = some (s.low c) ∧ Reach adj c y := hC.resolve_left hi
    obtain ⟨g0, hg0, ig0, j0, hig0, hj0, hij0, hr0⟩ := h.down y hys
    have hg0' : g0 ∈ gray := by
      rcases List.mem_cons.1 hg0 with e | hg0
      · subst e
        rw [ic] at hig0
        cases hig0
        rw [hyn] at hj0
        cases hj0
        omega
      · exact hg0
    refine ⟨h.cnt, h.inj, h.vis, h.nd, h.falls, fun g hg => h.gin g (List.mem_cons_of_mem _ hg), hgf.2, h.olds, fun x hx hng y hy => ?_, fun g hg => h.up g (List.mem_cons_of_mem _ hg), fun x hx => ?_, h.cyc, h.told⟩
    · by_cases e : x = c
      · subst e; exact hkids y hy
      · exact h.black x hx (fun hm => (List.mem_cons.1 hm).elim e hng) y hy
    · obtain ⟨g, hg, ig, j, hig, hj, hij, hr⟩ := h.down x hx
      rcases List.mem_cons.1 hg with e | hg
      · subst e
        rw [ic] at hig
        cases hig
        rw [hyn] at hj0
        cases hj0
        exact ⟨g0, hg0', ig0, j, hig0, hj, by omega, hr.trans (hcy.trans hr0)⟩
      · exact ⟨g, hg, ig, j, hig, hj, hij, hr⟩

end Go.Proofs.Qxb6605609a
