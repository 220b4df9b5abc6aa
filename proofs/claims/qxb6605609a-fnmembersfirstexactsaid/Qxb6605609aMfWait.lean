/-
  membersFirst: for which parts each part waits.
-/
import Derived.Test.Qxb6605609aMfParts
namespace Go.Proofs.Qxb6605609a
open Go.RowKit

/-- All parts that the groups of part p name. -/
def namedBy (adj : Nat → List Nat) (cf : Nat → Nat) (l : List Nat) : List Nat := l.flatMap fun i => (adj i).map (pof cf)
theorem namedBy_snoc (adj : Nat → List Nat) (cf : Nat → Nat) (l : List Nat) (i : Nat) : namedBy adj cf (l ++ [i]) = namedBy adj cf l ++ (adj i).map (pof cf) := by simp [namedBy]
def allP (adj : Nat → List Nat) (cf : Nat → Nat) (n p : Nat) : List Nat := namedBy adj cf (partL cf n p)

/-- Between two parts. -/
structure WB (all : Nat → List Nat) (m p : Nat) (wl hol : Nat → List Nat) (cnt : Nat → Nat) : Prop where
  done : ∀ p', p' < p → ∀ q, q ∈ wl p' ↔ q ≠ p' ∧ q ∈ all p'
  later : ∀ p', p ≤ p' → wl p' = []
  nd : ∀ p', (wl p').Nodup
  lt : ∀ p' q, q ∈ wl p' → q < m
  hmem : ∀ q p', p' ∈ hol q ↔ q ∈ wl p'
  hnd : ∀ q, (hol q).Nodup
  c : ∀ x, cnt x ≤ p
/-- Inside part p, pre looked at. -/
structure WI (all : Nat → List Nat) (m p : Nat) (pre : List Nat) (wl hol : Nat → List Nat) (cnt : Nat → Nat) : Prop where
  done : ∀ p', p' < p → ∀ q, q ∈ wl p' ↔ q ≠ p' ∧ q ∈ all p'
  later : ∀ p', p < p' → wl p' = []
  cur : ∀ q, q ∈ wl p ↔ q ≠ p ∧ q ∈ pre
  nd : ∀ p', (wl p').Nodup
  lt : ∀ p' q, q ∈ wl p' → q < m
  hmem : ∀ q p', p' ∈ hol q ↔ q ∈ wl p'
  hnd : ∀ q, (hol q).Nodup
  c : ∀ x, cnt x ≤ p + 1 ∧ (cnt x = p + 1 ↔ x = p ∨ x ∈ wl p)

section
variable {all : Nat → List Nat} {m p : Nat} {pre : List Nat} {wl hol : Nat → List Nat} {cnt : Nat → Nat}
theorem WB.start (all : Nat → List Nat) (m : Nat) : WB all m 0 (fun _ => []) (fun _ => []) (fun _ => 0) :=
  ⟨fun p' h => by omega, fun _ _ => rfl, fun _ => List.nodup_nil, fun _ q h => by (cases h), fun q p' => by simp, fun _ => List.nodup_nil, fun _ => Nat.le_refl _⟩
theorem WB.enter (h : WB all m p wl hol cnt) : WI all m p [] wl hol (upd cnt p (p + 1)) := by
  refine ⟨h.done, fun p' hp => h.later p' (by omega), fun q => by rw [h.later p (Nat.le_refl _)]; simp, h.nd, h.lt, h.hmem, h.hnd, fun x => ?_⟩
  have hc := h.c x
  by_cases e : x = p
  · subst e
    rw [upd_same]
    simp
  · rw [upd_other _ _ e, h.later p (Nat.le_refl _)]
    simp [e]
    omega
theorem WI.skip {q : Nat} (h : WI all m p pre wl hol cnt) (hq : cnt q = p + 1) : WI all m p (pre ++ [q]) wl hol cnt := by
  refine ⟨h.done, h.later, fun x => ?_, h.nd, h.lt, h.hmem, h.hnd, h.c⟩
  rw [h.cur x, List.mem_append, List.mem_singleton]
  constructor
  · rintro ⟨a, b⟩
    exact ⟨a, Or.inl b⟩
  · rintro ⟨a, b | b⟩
    · exact ⟨a, b⟩
    · subst b
      rcases ((h.c x).2.1 hq) with e | e
      · exact absurd e a
      · exact ⟨a, ((h.cur x).1 e).2⟩
theorem WI.add {q : Nat} (h : WI all m p pre wl hol cnt) (hq : cnt q ≠ p + 1) (hqm : q < m) : WI all m p (pre ++ [q]) (upd wl p (wl p ++ [q])) (upd hol q (hol q ++ [p])) (upd cnt q (p + 1)) := by
  have hnq : q ≠ p ∧ q ∉ wl p := ⟨fun e => hq ((h.c q).2.2 (Or.inl e)), fun e => hq ((h.c q).2.2 (Or.inr e))⟩
  refine ⟨fun p' hp x => by rw [upd_other _ _ (by omega)]; exact h.done p' hp x, fun p' hp => by rw [upd_other _ _ (by omega)]; exact h.later p' hp, fun x => ?_, fun p' => ?_, fun p' x hx => ?_, fun x p' => ?_, fun x => ?_, fun x => ?_⟩
  · rw [upd_same, List.mem_append, List.mem_append, h.cur x, List.mem_singleton]
    constructor
    · rintro (⟨a, b⟩ | b)
      · exact ⟨a, Or.inl b⟩
      · subst b; exact ⟨hnq.1, Or.inr rfl⟩
    · rintro ⟨a, b | b⟩
      · exact Or.inl ⟨a, b⟩
      · exact Or.inr b
  · by_cases e : p' = p
    · subst e
      rw [upd_same, List.nodup_append]
      exact ⟨h.nd p', by simp, fun a ha b hb => by simp at hb; subst hb; rintro rfl; exact hnq.2 ha⟩
    · rw [upd_other _ _ e]; exact h.nd p'
  · by_cases e : p' = p
    · subst e
      rw [upd_same] at hx
      rcases List.mem_append.1 hx with hx | hx
      · exact h.lt p' x hx
      · simp at hx; omega
    · rw [upd_other _ _ e] at hx; exact h.lt p' x hx
  · by_cases e1 : x = q <;> by_cases e2 : p' = p
    · subst e1; subst e2
      rw [upd_same, upd_same]
      simp
    · subst e1
      rw [upd_same, upd_other _ _ e2, List.mem_append, h.hmem x p']
      simp [e2]
    · subst e2
      rw [upd_same, upd_other _ _ e1, List.mem_append, h.hmem x p']
      simp [e1]
    · rw [upd_other _ _ e1, upd_other _ _ e2]
      exact h.hmem x p'
  · by_cases e : x = q
    · subst e
      rw [upd_same, List.nodup_append]
      refine ⟨h.hnd x, by simp, fun a ha b hb => ?_⟩
      simp at hb
      subst hb
      rintro rfl
      exact hnq.2 ((h.hmem x a).1 ha)
    · rw [upd_other _ _ e]; exact h.hnd x
  · rw [upd_same, List.mem_append, List.mem_singleton]
    by_cases e : x = q
    · subst e
      rw [upd_same]
      simp
    · rw [upd_other _ _ e]
      refine ⟨(h.c x).1, ?_⟩
      rw [(h.c x).2]
      simp [e]
theorem WI.leave (h : WI all m p pre wl hol cnt) (hpre : pre = all p) : WB all m (p + 1) wl hol cnt :=
  ⟨fun p' hp q => by
    by_cases e : p' = p
    · subst e
      rw [h.cur q, hpre]
    · exact h.done p' (by omega) q, fun p' hp => h.later p' (by omega), h.nd, h.lt, h.hmem, h.hnd, fun x => (h.c x).1⟩
theorem WI.wlen (h : WI all m p pre wl hol cnt) (x : Nat) : (wl x).length ≤ m := nodup_le (h.nd x) (h.lt x)
theorem WI.hlen (h : WI all m p pre wl hol cnt) (q : Nat) : (hol q).length ≤ p + 1 := nodup_le (h.hnd q) (fun p' hp => by
  have hq := (h.hmem q p').1 hp
  apply Classical.byContradiction
  intro hno
  rw [h.later p' (by omega)] at hq
  cases hq)
end

/-- What lies in memory. -/
structure WM (wk : World) (wb ob kb : Nat) (wx : World) (m : Nat) (wl hol : Nat → List Nat) (cnt : Nat → Nat) (val : Nat → Value) : Prop where
  ws : wx.rowIs wb 3 m (fun x => .int .i64 (((wl x).length : Nat) : Int))
  gr : Grid wx ob m wk.heap.size val hol
  cn : wx.rowIs kb 3 m (fun x => .int .i64 ((cnt x : Nat) : Int))
  a1 : ¬ GridIn ob m val wb
  a2 : ¬ GridIn ob m val kb
  bel : Below wk.heap.size wk wx
  bl : wk.heap.size ≤ wb ∧ wk.heap.size ≤ ob ∧ wk.heap.size ≤ kb ∧ wb ≠ kb

section
variable {wk wx : World} {wb ob kb m : Nat} {wl hol : Nat → List Nat} {cnt : Nat → Nat} {val : Nat → Value}

theorem WM.start (wk : World) (m : Nat) : WM wk wk.heap.size (wk.heap.size + 1) (wk.heap.size + 1 + 1) (((wk.alloc (.cells (madeInts m) 3)).alloc (.cells (madeRows m) 43)).alloc (.cells (madeInts m) 3)) m (fun _ => []) (fun _ => []) (fun _ => 0) (fun _ => .slice none 0 0) := by
  have e1 : (wk.alloc (.cells (madeInts m) 3)).heap.size = wk.heap.size + 1 := by simp
  have e2 : ((wk.alloc (.cells (madeInts m) 3)).alloc (.cells (madeRows m) 43)).heap.size = wk.heap.size + 1 + 1 := by simp
  have k1 : ∀ (w : World) (o : Obj), KB (fun _ => False) w (w.alloc o) := fun w o => (KB.refl _ _).alloc o
  have hin : ∀ k, GridIn (wk.heap.size + 1) m (fun _ => Value.slice none 0 0) k → k = wk.heap.size + 1 := fun k hk => by
    rcases hk with h | ⟨i, _, e⟩
    · exact h
    · simp [Value.ownBlock] at e
  refine ⟨?_, ?_, ?_, fun h => ?_, fun h => ?_, ?_, by omega⟩
  · exact rowIs_keep (rowIs_keep ((World.rowIs_made wk (.int .i64 0) m 3).congr (fun j _ => by simp)) (k1 _ _) id) (k1 _ _) id
  · have := (Grid.made (wk.alloc (.cells (madeInts m) 3)) m wk.heap.size).keep (k1 _ (.cells (madeInts m) 3)) (fun _ _ h => h)
    rw [e1] at this
    exact this
  · have := World.rowIs_made ((wk.alloc (.cells (madeInts m) 3)).alloc (.cells (madeRows m) 43)) (.int .i64 0) m 3
    rw [e2] at this
    exact this.congr (fun j _ => by simp)
  · have := hin _ h
    omega
  · have := hin _ h
    omega
  · exact ((((Below.refl _ _).alloc (Nat.le_refl _) _).alloc (by simp) _).alloc (by simp; omega) _)

/-- 'countedFor[x] = c'. -/
theorem WM.setC (h : WM wk wb ob kb wx m wl hol cnt val) (x c : Nat) {cv : Int} (hc : cv = (c : Int)) : WM wk wb ob kb (wx.setCell ⟨kb, x, none⟩ (.int .i64 cv)) m wl hol (upd cnt x c) val := by
  subst hc
  have hk : KB (fun b => b = kb) wx (wx.setCell ⟨kb, x, none⟩ (.int .i64 (c : Int))) := KB.setCell (p := ⟨kb, x, none⟩) (KB.refl (fun b => b = kb) wx) (fun _ => rfl) _
  have hb := h.bl
  refine ⟨rowIs_keep h.ws hk hb.2.2.2, h.gr.keep hk (fun k hg e => h.a2 (e ▸ hg)), (h.cn.set x _).congr (fun j hj => ?_), h.a1, h.a2, h.bel.trans (hk.toBelow h.bel.size (fun k hk e => by omega)), hb⟩
  by_cases e : j = x
  · subst e; simp [upd_same]
  · simp [e, upd_other _ _ e]

/-- 'waits[p]++'. -/
theorem WM.setW (h : WM wk wb ob kb wx m wl hol cnt val) (p q : Nat) {cv : Int} (hc : cv = ((wl p).length : Int) + 1) : WM wk wb ob kb (wx.setCell ⟨wb, p, none⟩ (.int .i64 cv)) m (upd wl p (wl p ++ [q])) hol cnt val := by
  subst hc
  have hk : KB (fun b => b = wb) wx (wx.setCell ⟨wb, p, none⟩ (.int .i64 (((wl p).length : Int) + 1))) := KB.setCell (p := ⟨wb, p, none⟩) (KB.refl (fun b => b = wb) wx) (fun _ => rfl) _
  have hb := h.bl
  refine ⟨(h.ws.set p _).congr (fun j hj => ?_), h.gr.keep hk (fun k hg e => h.a1 (e ▸ hg)), rowIs_keep h.cn hk (fun e => hb.2.2.2 e.symm), h.a1, h.a2, h.bel.trans (hk.toBelow h.bel.size (fun k hk e => by omega)), hb⟩
  by_cases e : j = p
  · subst e; simp [upd_same]
  · simp [e, upd_other _ _ e]

/-- 'holders[q] = append(holders[q], p)'. -/
theorem WM.pushH {w1 : World} {q p g cap H1 : Nat} (h : WM wk wb ob kb wx m wl hol cnt val) (hq : q < m)
    (hown : w1.ownsRow wk.heap.size 3 1 (.slice (some ⟨g, 0, none⟩) ((hol q).length + 1) cap) ((hol q).length + 1) (ints (hol q) ++ [.int .i64 (p : Int)])) (hg : (wx.alloc (.cells #[.int .i64 (p : Int)] 3)).grownBy w1 (val q).ownBlock) (hat : (val q).ownBlock = some g ∨ g = H1) (hH : H1 = wx.heap.size + 1) :
    w1.cell? ⟨ob, q, none⟩ = some (val q) ∧ w1.frozen? ⟨ob, q, none⟩ = false ∧
    Hid (WM wk wb ob kb (w1.setCell ⟨ob, q, none⟩ (.slice (some ⟨g, 0, none⟩) ((hol q).length + 1) cap)) m wl (upd hol q (hol q ++ [p])) cnt (upd val q (.slice (some ⟨g, 0, none⟩) ((hol q).length + 1) cap))) := by
  obtain ⟨q1, q2, q3, q4, q5⟩ := h.gr.push hq hown hg hat hH
  refine ⟨q1, q2, rowIs_keep h.ws q4 h.a1, q3, rowIs_keep h.cn q4 h.a2, fun e => ?_, fun e => ?_, h.bel.trans (q4.toBelow h.bel.size (fun k hk e => ?_)), h.bl⟩
  · rcases q5 _ e with e2 | e2
    · exact h.a1 e2
    · have := h.ws.lt; omega
  · rcases q5 _ e with e2 | e2
    · exact h.a2 e2
    · have := h.cn.lt; omega
  · have := h.gr.low h.bl.2.1 e
    omega
end

/-- At the end: the parts' waiting. -/
theorem WB.waits {adj : Nat → List Nat} {cf : Nat → Nat} {n m : Nat} {wl hol : Nat → List Nat} {cnt : Nat → Nat} (h : WB (allP adj cf n) m m wl hol cnt) : Waits adj cf n m wl hol := by
  refine ⟨fun p q hp => ?_, fun p _ => h.nd p, fun q p _ => ?_, fun q _ => h.hnd q⟩
  · rw [h.done p hp q]
    constructor
    · rintro ⟨a, b⟩
      refine ⟨a, ?_⟩
      simp only [allP, namedBy, List.mem_flatMap, List.mem_map, partL, List.mem_filter, List.mem_range, decide_eq_true_eq] at b
      obtain ⟨i, ⟨h1, h2⟩, j, h3, h4⟩ := b
      exact ⟨i, h1, h2, j, h3, h4⟩
    · rintro ⟨a, i, h1, h2, j, h3, h4⟩
      refine ⟨a, ?_⟩
      simp only [allP, namedBy, List.mem_flatMap, List.mem_map, partL, List.mem_filter, List.mem_range, decide_eq_true_eq]
      exact ⟨i, ⟨h1, h2⟩, j, h3, h4⟩
  · rw [h.hmem q p]
    constructor
    · intro hq
      refine ⟨?_, hq⟩
      apply Classical.byContradiction
      intro hno
      rw [h.later p (by omega)] at hq
      cases hq
    · exact fun hh => hh.2

end Go.Proofs.Qxb6605609a
