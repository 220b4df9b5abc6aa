/-
  TARJAN'S WALK KEEPS WHAT IS KNOWN; AT ITS END THE CYCLES ARE THE COMPONENTS. No Go in sight.
-/
import Derived.Test.Qxb6605609aTar
namespace Go.Proofs.Qxb6605609a

theorem Ext.refl (k : Nat) (s : TSt) : Ext k s s := ⟨fun _ _ h => h, Nat.le_refl _, ⟨[], rfl, by simp⟩, fun _ _ _ h => h, (fun x i h1 h2 => by rw [h1] at h2; cases h2), fun _ _ _ _ => rfl⟩
theorem Ext.lowTo (k : Nat) (s : TSt) (v : Nat) : Ext k s (s.lowTo k v) :=
  ⟨fun _ _ h => h, Nat.le_refl _, ⟨[], rfl, by simp⟩, fun _ _ _ h => h, (fun x i h1 h2 => by rw [show (s.lowTo k v).num = s.num from rfl, h1] at h2; cases h2), fun x _ _ hx => by simp [TSt.lowTo, hx]⟩

theorem Ext.trans {k : Nat} {s s1 s2 : TSt} (h : Ext k s s1) (g : Ext k s1 s2) : Ext k s s2 := by
  refine ⟨fun x i hx => g.num x i (h.num x i hx), Nat.le_trans h.cnt g.cnt, ?_, fun x i hx hn => ?_, fun x i h1 h2 => ?_, fun x i hx hne => (g.low x i (h.num x i hx) hne).trans (h.low x i hx hne)⟩
  · obtain ⟨n1, e1, f1⟩ := h.stack
    obtain ⟨n2, e2, f2⟩ := g.stack
    refine ⟨n2 ++ n1, by rw [e2, e1, List.append_assoc], fun x hx => ?_⟩
    rcases List.mem_append.1 hx with hx | hx
    · cases hs : s.num x with
      | none => rfl
      | some i =>
        have := h.num x i hs
        rw [f2 x hx] at this
        cases this
    · exact f1 x hx
  · exact g.popped x i (h.num x i hx) (h.popped x i hx hn)
  · cases hs : s1.num x with
    | none => exact Nat.le_trans h.cnt (g.fresh x i hs h2)
    | some j =>
      have := g.num x j hs
      rw [h2] at this
      cases this
      exact h.fresh x i h1 hs

/-- A node on the later stack that was visited before was on the stack before. -/
theorem Ext.back {k : Nat} {s s' : TSt} (h : Ext k s s') {x i : Nat} (hx : s.num x = some i) (hm : x ∈ s'.stack) : x ∈ s.stack := by
  by_cases e : x ∈ s.stack
  · exact e
  · exact absurd hm (h.popped x i hx e)
theorem Ext.fwd {k : Nat} {s s' : TSt} (h : Ext k s s') {x : Nat} (hm : x ∈ s.stack) : x ∈ s'.stack := by
  obtain ⟨n, e, _⟩ := h.stack
  rw [e]
  exact List.mem_append_right _ hm

/-- What the walk over k's children leaves. -/
structure KidsPost (adj : Nat → List Nat) (gray : List Nat) (k : Nat) (s : TSt) (l : List Nat) (s' : TSt) : Prop where
  tar : Tar adj (k :: gray) s'
  ext : Ext k s s'
  seen : ∀ c ∈ l, ∃ j, s'.num c = some j
  le : s'.low k ≤ s.low k
  news : ∀ x ∈ s'.stack, s.num x = none → ∀ z ∈ adj x, z ∈ s'.stack → ∀ j, s'.num z = some j → j < s.cnt → s'.low k ≤ j
  kids : ∀ c ∈ l, c ∈ s'.stack → ∀ j, s'.num c = some j → s'.low k ≤ j
  hit : s'.low k = s.low k ∨ ∃ y ∈ s'.stack, s'.num y = some (s'.low k) ∧ Reach adj k y

theorem close_num (adj : Nat → List Nat) (s : TSt) (c : Nat) : (s.close adj c).num = s.num := by unfold TSt.close; split <;> rfl
theorem close_low (adj : Nat → List Nat) (s : TSt) (c : Nat) : (s.close adj c).low = s.low := by unfold TSt.close; split <;> rfl
theorem close_cnt (adj : Nat → List Nat) (s : TSt) (c : Nat) : (s.close adj c).cnt = s.cnt := by unfold TSt.close; split <;> rfl

theorem kids_keep {adj : Nat → List Nat} {k : Nat} {s s' : TSt} {l : List Nat} (h : Kids adj k s l s') :
    ∀ (gray : List Nat) (ik : Nat), Tar adj (k :: gray) s → (∀ c ∈ l, c ∈ adj k) → s.num k = some ik → s.low k ≤ ik → KidsPost adj gray k s l s' := by
  induction h with
  | nil =>
    intro gray ik ht _ hk hle
    exact ⟨ht, Ext.refl _ _, by simp, Nat.le_refl _, (fun x hx hn => by obtain ⟨i, hi⟩ := ht.vis x hx; rw [hn] at hi; cases hi), by simp, Or.inl rfl⟩
  | @stk k c i cs s s' hc hcs _ ih =>
    intro gray ik ht hsub hk hle
    have hlk : (s.lowTo k i).low k = min (s.low k) i := by simp [TSt.lowTo]
    have P := ih gray ik (ht.lowTo k i) (fun x hx => hsub x (List.mem_cons_of_mem _ hx)) hk (by rw [hlk]; omega)
    have hle2 := P.le
    rw [hlk] at hle2
    refine ⟨P.tar, (Ext.lowTo k s i).trans P.ext, ?_, by omega, P.news, ?_, ?_⟩
    · intro x hx
      rcases List.mem_cons.1 hx with rfl | hx
      · exact ⟨i, P.ext.num x i hc⟩
      · exact P.seen x hx
    · intro x hx hxs j hj
      rcases List.mem_cons.1 hx with rfl | hx
      · rw [P.ext.num x i hc] at hj
        cases hj
        omega
      · exact P.kids x hx hxs j hj
    · rcases P.hit with hh | hh
      · rw [hlk] at hh
        by_cases e : s.low k ≤ i
        · left; omega
        · right
          refine ⟨c, P.ext.fwd hcs, ?_, .one (hsub c (List.mem_cons_self ..))⟩
          rw [hh, show min (s.low k) i = i by omega]
          exact P.ext.num c i hc
      · exact Or.inr hh
  | @old k c i cs s s' hc hcs _ ih =>
    intro gray ik ht hsub hk hle
    have P := ih gray ik ht (fun x hx => hsub x (List.mem_cons_of_mem _ hx)) hk hle
    refine ⟨P.tar, P.ext, ?_, P.le, P.news, ?_, P.hit⟩
    · intro x hx
      rcases List.mem_cons.1 hx with rfl | hx
      · exact ⟨i, P.ext.num x i hc⟩
      · exact P.seen x hx
    · intro x hx hxs j hj
      rcases List.mem_cons.1 hx with rfl | hx
      · exact absurd hxs (P.ext.popped x i hc hcs)
      · exact P.kids x hx hxs j hj
  | @new k c cs s s1 s' hc _ _ ih1 ih2 =>
    intro gray ik ht hsub hk hle
    have hck : c ∈ adj k := hsub c (List.mem_cons_self ..)
    have hgf := ht.gfalls
    rw [List.pairwise_cons] at hgf
    have hgr : ∀ g ∈ k :: gray, Reach adj g c := fun g hg => by
      obtain ⟨ig, hig⟩ := ht.vis g (ht.gin g hg)
      refine (ht.up g hg k (ht.gin k (List.mem_cons_self ..)) ig ik hig hk ?_).trans (.one hck)
      rcases List.mem_cons.1 hg with rfl | hg
      · rw [hig] at hk; cases hk; exact Nat.le_refl _
      · exact Nat.le_of_lt (hgf.1 g hg ik ig hk hig)
    have hte := ht.enter hc hgr
    have hnc := TSt.enter_self s c
    have hlc : (s.enter c).low c = s.cnt := by simp [TSt.enter]
    have hec : (s.enter c).cnt = s.cnt + 1 := rfl
    have P1 := ih1 (k :: gray) s.cnt hte (fun x hx => hx) hnc (by rw [hlc]; exact Nat.le_refl _)
    have hkne : k ≠ c := by rintro rfl; rw [hc] at hk; cases hk
    have hikc : ik < s.cnt := ht.cnt k ik hk
    have h1c : s1.num c = some s.cnt := P1.ext.num c _ hnc
    have h1le := P1.le
    rw [hlc] at h1le
    -- what of s lies in s1
    have hse : ∀ x i, s.num x = some i → s1.num x = some i := fun x i hx => P1.ext.num x i (TSt.enter_num hx hc)
    have hlow1 : s1.low k = s.low k := by
      rw [P1.ext.low k ik (TSt.enter_num hk hc) hkne]
      simp [TSt.enter, hkne]
    have hold : ∀ z j, s1.num z = some j → j < s.cnt → s.num z = some j := fun z j hz hj => by
      cases hs : s.num z with
      | some i =>
        have := hse z i hs
        rw [hz] at this
        exact this.symm
      | none =>
        exfalso
        by_cases e : z = c
        · subst e
          rw [h1c] at hz
          cases hz
          omega
        · have := P1.ext.fresh z j (by simp [TSt.enter, e, hs]) hz
          rw [hec] at this
          omega
    have hlowall : ∀ x ∈ s1.stack, ∀ jx, s1.num x = some jx → s.cnt ≤ jx → ∀ z ∈ adj x, z ∈ s1.stack → ∀ j, s1.num z = some j → j < s.cnt → s1.low c ≤ j := by
      intro x hx jx hjx hge z hz hzs j hj hjlt
      by_cases e : x = c
      · subst e
        exact P1.kids z hz hzs j hj
      · refine P1.news x hx ?_ z hz hzs j hj (by rw [hec]; omega)
        cases hs : (s.enter c).num x with
        | none => rfl
        | some i =>
          rcases TSt.enter_inv hs with ⟨e', _⟩ | ⟨_, hs'⟩
          · exact absurd e' e
          · have h1 := hse x i hs'
            rw [hjx] at h1
            cases h1
            have := ht.cnt x _ hs'
            omega
    have hC1 : s1.low c = s.cnt ∨ ∃ y ∈ s1.stack, s1.num y = some (s1.low c) ∧ Reach adj c y := by
      rcases P1.hit with hh | hh
      · left; rw [hh, hlc]
      · exact Or.inr hh
    have htc := P1.tar.close h1c P1.seen hlowall h1le hC1
    -- the state behind c's walk
    obtain ⟨s2, es2⟩ : ∃ s2, s2 = s1.close adj c := ⟨_, rfl⟩
    rw [← es2] at ih2 htc
    have n2 : s2.num = s1.num := by rw [es2]; exact close_num ..
    have l2 : s2.low = s1.low := by rw [es2]; exact close_low ..
    have c2 : s2.cnt = s1.cnt := by rw [es2]; exact close_cnt ..
    have hcs1 : c ∈ s1.stack := P1.tar.gin c (List.mem_cons_self ..)
    have hsub2 : ∀ x ∈ s2.stack, x ∈ s1.stack := fun x hx => by
      rw [es2] at hx
      unfold TSt.close at hx
      split at hx
      · have := upTo_append_below c s1.stack hcs1
        rw [← this]
        exact List.mem_append_right _ hx
      · exact hx
    have hst2 : ∃ new, s2.stack = new ++ s.stack ∧ ∀ x ∈ new, s.num x = none := by
      obtain ⟨new, e, f⟩ := P1.ext.stack
      have e' : s1.stack = new ++ c :: s.stack := e
      by_cases hcond : s1.num c = some (s1.low c)
      · refine ⟨[], ?_, by simp⟩
        rw [es2]
        unfold TSt.close
        rw [if_pos hcond, List.nil_append]
        have hcn : c ∉ new := fun hm => by rw [f c hm] at hnc; cases hnc
        show below c s1.stack = s.stack
        rw [e']
        clear e e' f
        induction new with
        | nil => simp [below]
        | cons a r ih =>
          have : a ≠ c := fun e => hcn (by rw [e]; exact List.mem_cons_self ..)
          rw [List.cons_append, below, if_neg this]
          exact ih (fun hm => hcn (List.mem_cons_of_mem _ hm))
      · refine ⟨new ++ [c], ?_, fun x hx => ?_⟩
        · rw [es2]
          unfold TSt.close
          rw [if_neg hcond, e']
          simp
        · rcases List.mem_append.1 hx with hx | hx
          · have hf := f x hx
            by_cases e : x = c
            · rw [e]; exact hc
            · simpa [TSt.enter, e] using hf
          · simp at hx
            rw [hx]
            exact hc
    have hext2 : Ext k s s2 := by
      refine ⟨fun x i hx => by rw [n2]; exact hse x i hx, by rw [c2]; have := P1.ext.cnt; rw [hec] at this; omega, hst2, fun x i hx hn hm => ?_, fun x i h1 h2 => ?_, fun x i hx hne => ?_⟩
      · have hx1 := hsub2 x hm
        have hxc : x ≠ c := by rintro rfl; rw [hc] at hx; cases hx
        have := P1.ext.back (TSt.enter_num hx hc) hx1
        rcases List.mem_cons.1 this with e | hm'
        · exact hxc e
        · exact hn hm'
      · rw [n2] at h2
        by_cases e : x = c
        · subst e
          rw [h1c] at h2
          cases h2
          exact Nat.le_refl _
        · have := P1.ext.fresh x i (by simp [TSt.enter, e, h1]) h2
          rw [hec] at this
          omega
      · have hxc : x ≠ c := by rintro rfl; rw [hc] at hx; cases hx
        rw [l2, P1.ext.low x i (TSt.enter_num hx hc) hxc]
        simp [TSt.enter, hxc]
    have hlk2 : (s2.lowTo k (s2.low c)).low k = min (s.low k) (s1.low c) := by simp [TSt.lowTo, l2, hlow1]
    have hk2 : s2.num k = some ik := hext2.num k ik hk
    have P2 := ih2 gray ik (htc.lowTo k _) (fun x hx => hsub x (List.mem_cons_of_mem _ hx)) hk2 (by rw [hlk2]; omega)
    have hle2 := P2.le
    rw [hlk2] at hle2
    have hext : Ext k s s' := (hext2.trans (Ext.lowTo k s2 _)).trans P2.ext
    have hextl : Ext k s2 s' := (Ext.lowTo k s2 _).trans P2.ext
    refine ⟨P2.tar, hext, ?_, by omega, ?_, ?_, ?_⟩
    · intro x hx
      rcases List.mem_cons.1 hx with e | hx
      · subst e
        exact ⟨s.cnt, hextl.num x _ (by rw [n2]; exact h1c)⟩
      · exact P2.seen x hx
    · intro x hx hxn z hz hzs j hj hjlt
      cases hx2 : s2.num x with
      | none => exact P2.news x hx hx2 z hz hzs j hj (by show j < s2.cnt; have := hext2.cnt; omega)
      | some jx =>
        have hxs2 : x ∈ s2.stack := hextl.back hx2 hx
        have hzn : s.num z = some j := by
          cases hs : s.num z with
          | some i =>
            have := hext.num z i hs
            rw [hj] at this
            exact this.symm
          | none =>
            have := hext.fresh z j hs hj
            omega
        have hzs2 : z ∈ s2.stack := hextl.back (hext2.num z j hzn) hzs
        have hge : s.cnt ≤ jx := hext2.fresh x jx hxn hx2
        rw [n2] at hx2
        have := hlowall x (hsub2 x hxs2) jx hx2 hge z hz (hsub2 z hzs2) j (hse z j hzn) hjlt
        omega
    · intro x hx hxs j hj
      rcases List.mem_cons.1 hx with e | hx
      · subst e
        rw [hextl.num x _ (by rw [n2]; exact h1c)] at hj
        cases hj
        omega
      · exact P2.kids x hx hxs j hj
    · rcases P2.hit with hh | hh
      · rw [hlk2] at hh
        by_cases e : s.low k ≤ s1.low c
        · left; omega
        · rcases hC1 with h1 | ⟨y, hys, hyn, hcy⟩
          · omega
          · right
            have hys0 : s.num y = some (s1.low c) := hold y _ hyn (by omega)
            have hyst : y ∈ s.stack := by
              have := P1.ext.back (TSt.enter_num hys0 hc) hys
              rcases List.mem_cons.1 this with e' | hm
              · subst e'
                rw [hc] at hys0
                cases hys0
              · exact hm
            refine ⟨y, hext.fwd hyst, ?_, (Reach.one hck).trans hcy⟩
            rw [hh, show min (s.low k) (s1.low c) = s1.low c by omega]
            exact hext.num y _ hys0
      · exact Or.inr hh

def TSt.start : TSt := ⟨fun _ => none, fun _ => 0, [], 0, []⟩
theorem Tar.start (adj : Nat → List Nat) : Tar adj [] TSt.start :=
  ⟨by simp [TSt.start], by simp [TSt.start], by simp [TSt.start], by simp [TSt.start], by simp [TSt.start], by simp, by simp, by simp [TSt.start], by simp [TSt.start], by simp, by simp [TSt.start], by simp [TSt.start], by simp [TSt.start]⟩

theorem Tar.empty {adj : Nat → List Nat} {s : TSt} (h : Tar adj [] s) : s.stack = [] := by
  cases e : s.stack with
  | nil => rfl
  | cons x r =>
    obtain ⟨g, hg, _⟩ := h.down x (by rw [e]; exact List.mem_cons_self ..)
    cases hg

/-- A walk from a node that none has come to. -/
theorem tar_root {adj : Nat → List Nat} {s s1 : TSt} {c : Nat} (h : Tar adj [] s) (hc : s.num c = none) (hk : Kids adj c (s.enter c) (adj c) s1) :
    Tar adj [] (s1.close adj c) ∧ (∃ j, (s1.close adj c).num c = some j) ∧ ∀ x i, s.num x = some i → (s1.close adj c).num x = some i := by
  have hte := h.enter hc (by simp)
  have hlc : (s.enter c).low c = s.cnt := by simp [TSt.enter]
  have hnc := TSt.enter_self s c
  have P := kids_keep hk [] s.cnt hte (fun x hx => hx) hnc (by rw [hlc]; exact Nat.le_refl _)
  have h1c : s1.num c = some s.cnt := P.ext.num c _ hnc
  have hle := P.le
  rw [hlc] at hle
  have hstk : ∀ z ∈ s1.stack, ∀ j, s1.num z = some j → s.cnt ≤ j := fun z hz j hj => by
    cases hs : (s.enter c).num z with
    | none => have := P.ext.fresh z j hs hj; have e : (s.enter c).cnt = s.cnt + 1 := rfl; omega
    | some i =>
      have hz' := P.ext.back hs hz
      have e : (s.enter c).stack = c :: s.stack := rfl
      rw [e, h.empty] at hz'
      simp at hz'
      subst hz'
      rw [h1c] at hj
      cases hj
      exact Nat.le_refl _
  refine ⟨P.tar.close h1c P.seen (fun x _ jx _ _ z _ hz j hj hlt => by have := hstk z hz j hj; omega) hle ?_, ⟨s.cnt, by rw [close_num]; exact h1c⟩, fun x i hx => by rw [close_num]; exact P.ext.num x i (TSt.enter_num hx hc)⟩
  rcases P.hit with hh | hh
  · left; rw [hh, hlc]
  · exact Or.inr hh

/-- All that have children being visited, the cycles are the components that hold a cycle. -/
theorem tar_done {adj : Nat → List Nat} {s : TSt} (h : Tar adj [] s) (hv : ∀ x, adj x ≠ [] → ∃ i, s.num x = some i) :
    (∀ c ∈ s.cycles, c ≠ [] ∧ c.Nodup ∧ ∀ x ∈ c, ∀ y, y ∈ c ↔ Scc adj x y) ∧ ∀ x y, y ≠ x → Scc adj x y → ∃ c ∈ s.cycles, x ∈ c := by
  refine ⟨h.cyc, fun x y hne hs => ?_⟩
  have hx : adj x ≠ [] := by
    obtain ⟨h1, _⟩ := hs
    cases h1 with
    | refl => exact absurd rfl hne
    | step e _ => exact List.ne_nil_of_mem e
  obtain ⟨i, hi⟩ := hv x hx
  exact h.told x i hi (by rw [h.empty]; simp) (Or.inr ⟨y, hne, hs⟩)

end Go.Proofs.Qxb6605609a
