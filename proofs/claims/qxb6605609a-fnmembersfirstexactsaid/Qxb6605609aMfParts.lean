/-
  membersFirst: the parts.
-/
import Derived.Test.Qxb6605609aMfDefs
namespace Go.Proofs.Qxb6605609a
open Go.RowKit

/-- 'v[i] = y'. -/
theorem Row.set {w : World} {t : TypeId} {g cap i : Nat} {xs : List Value} (h : Row w t (.slice (some ⟨g, 0, none⟩) xs.length cap) xs) (y : Value) : Row (w.setCell ⟨g, i, none⟩ y) t (.slice (some ⟨g, 0, none⟩) xs.length cap) (xs.set i y) := by
  obtain ⟨h1, h2⟩ := h
  refine ⟨by simp, ?_⟩
  rcases h2 with ⟨h2, _⟩ | ⟨g', cap', cur, e, hg, hh, hc, hcm, hcs, hct⟩
  · cases h2
  · cases e
    refine Or.inr ⟨g, cap, cur.set! i y, by simp, hg, ?_, by simpa using hc, hcm, by simpa using hcs, ?_⟩
    · simp only [World.setCell]
      rw [Array.getElem?_modify]
      simp [hh]
    · have hset : (cur.set! i y).toList = cur.toList.set i y := by simp
      rw [hset, List.length_set, List.take_set, hct]

def vals (m : Nat) (val : Nat → Value) : List Value := (List.range m).map val
theorem vals_length (m : Nat) (val : Nat → Value) : (vals m val).length = m := by simp [vals]
theorem vals_at {m p : Nat} (val : Nat → Value) (hp : p < m) : (vals m val)[p]? = some (val p) := by simp [vals, hp]
theorem vals_set {m p : Nat} (val : Nat → Value) (y : Value) : (vals m val).set p y = vals m (upd val p y) := by
  apply List.ext_getElem?
  intro j
  by_cases hj : j < m
  · rw [vals_at _ hj, List.getElem?_set]
    by_cases e : p = j
    · subst e
      simp [vals_length, hj, upd_same]
    · rw [if_neg e, vals_at _ hj, upd_other _ _ (fun h => e h.symm)]
  · rw [List.getElem?_eq_none (by simp [vals]; omega), List.getElem?_eq_none (by simp [vals]; omega)]
theorem vals_snoc (m : Nat) (val : Nat → Value) (y : Value) : vals m val ++ [y] = vals (m + 1) (upd val m y) := by
  apply List.ext_getElem?
  intro j
  by_cases hj : j < m
  · rw [List.getElem?_append_left (by rw [vals_length]; exact hj), vals_at _ hj, vals_at _ (by omega), upd_other _ _ (by omega)]
  · by_cases e : j = m
    · subst e
      rw [List.getElem?_append_right (by rw [vals_length]; omega), vals_at _ (by omega), upd_same, vals_length]
      simp
    · rw [List.getElem?_eq_none (by simp [vals]; omega), List.getElem?_eq_none (by simp [vals]; omega)]

theorem cf_le {adj : Nat → List Nat} {cf : Nat → Nat} {n x : Nat} (hcf : ∀ x, x < n → LeastOf adj n x (cf x)) (hx : x < n) : cf x ≤ x := (hcf x hx).2.2 x hx ⟨.refl _, .refl _⟩
theorem cf_idem {adj : Nat → List Nat} {cf : Nat → Nat} {n x : Nat} (hcf : ∀ x, x < n → LeastOf adj n x (cf x)) (hx : x < n) : cf (cf x) = cf x := by
  obtain ⟨h1, h2, h3⟩ := hcf x hx
  obtain ⟨g1, g2, g3⟩ := hcf (cf x) h1
  have a := h3 (cf (cf x)) g1 (h2.trans g2)
  have b := cf_le hcf h1
  omega
theorem rnk_le (cf : Nat → Nat) : ∀ k, rnk cf k ≤ k
  | 0 => Nat.le_refl _
  | k + 1 => by
    have := rnk_le cf k
    unfold rnk
    split <;> omega
theorem rnk_succ (cf : Nat → Nat) (k : Nat) : rnk cf (k + 1) = rnk cf k + (if cf k = k then 1 else 0) := rfl
theorem rnk_mono (cf : Nat → Nat) {a b : Nat} (h : a ≤ b) : rnk cf a ≤ rnk cf b := by
  induction b with
  | zero =>
    have : a = 0 := by omega
    rw [this]
    exact Nat.le_refl _
  | succ b ih =>
    by_cases e : a = b + 1
    · rw [e]
      exact Nat.le_refl _
    · have := ih (by omega)
      rw [rnk_succ cf b]
      omega
theorem rnk_lt {cf : Nat → Nat} {a b : Nat} (ha : cf a = a) (h : a < b) : rnk cf a < rnk cf b := by
  have h1 := rnk_mono cf (show a + 1 ≤ b by omega)
  have h2 : rnk cf (a + 1) = rnk cf a + 1 := by simp [rnk, ha]
  omega
theorem pof_lt {adj : Nat → List Nat} {cf : Nat → Nat} {n i k : Nat} (hcf : ∀ x, x < n → LeastOf adj n x (cf x)) (hi : i < k) (hk : k ≤ n) : pof cf i < rnk cf k := by
  have h1 := cf_le hcf (show i < n by omega)
  exact rnk_lt (cf_idem hcf (by omega)) (by omega)
theorem pof_inj {adj : Nat → List Nat} {cf : Nat → Nat} {n i j : Nat} (hcf : ∀ x, x < n → LeastOf adj n x (cf x)) (hi : i < n) (hj : j < n) (h : pof cf i = pof cf j) : cf i = cf j := by
  unfold pof at h
  by_cases h1 : cf i < cf j
  · have := rnk_lt (cf_idem hcf hi) h1
    omega
  · by_cases h2 : cf j < cf i
    · have := rnk_lt (cf_idem hcf hj) h2
      omega
    · omega

theorem partL_succ (cf : Nat → Nat) (k p : Nat) : partL cf (k + 1) p = if pof cf k = p then partL cf k p ++ [k] else partL cf k p := by
  unfold partL
  rw [List.range_succ, List.filter_append]
  by_cases e : pof cf k = p
  · simp [e]
  · simp [e]

/-- The parts' state: of the first k places the part is known; m parts, part p the list L p. -/
structure PSt (cf : Nat → Nat) (wk wx : World) (pfb n k m : Nat) (v : Value) (val : Nat → Value) (L : Nat → List Nat) : Prop where
  row : wx.rowIs pfb 3 n (fun j => .int .i64 (((if j < k then pof cf j else 0) : Nat) : Int))
  outer : Row wx 43 v (vals m val)
  own : ∀ p, p < m → Row wx 3 (val p) (ints (L p))
  disj : ∀ p q, p < m → q < m → p ≠ q → ∀ b, (val p).ownBlock = some b → (val q).ownBlock ≠ some b
  far : ∀ p, p < m → ∀ b, (val p).ownBlock = some b → b ≠ pfb ∧ v.ownBlock ≠ some b ∧ wk.heap.size ≤ b
  vb : ∀ b, v.ownBlock = some b → b ≠ pfb ∧ wk.heap.size ≤ b
  pl : wk.heap.size ≤ pfb
  bel : Below wk.heap.size wk wx

section
variable {cf : Nat → Nat} {wk wx : World} {pfb n k m : Nat} {v : Value} {val : Nat → Value} {L : Nat → List Nat}

theorem PSt.calm {wy : World} (h : PSt cf wk wx pfb n k m v val L) (hk : KB (fun _ => False) wx wy) : PSt cf wk wy pfb n k m v val L :=
  ⟨rowIs_keep h.row hk id, h.outer.keep hk (fun _ _ h => h), fun p hp => (h.own p hp).keep hk (fun _ _ h => h), h.disj, h.far, h.vb, h.pl, h.bel.trans (hk.toBelow h.bel.size (fun _ _ h => h))⟩

theorem PSt.setPart (h : PSt cf wk wx pfb n k m v val L) {q : Nat} (hq : q = pof cf k) : PSt cf wk (wx.setCell ⟨pfb, k, none⟩ (.int .i64 (q : Int))) pfb n (k + 1) m v val L := by
  have hk : KB (fun b => b = pfb) wx (wx.setCell ⟨pfb, k, none⟩ (.int .i64 (q : Int))) := KB.setCell (p := ⟨pfb, k, none⟩) (KB.refl (fun b => b = pfb) wx) (fun _ => rfl) _
  refine ⟨(h.row.set k _).congr (fun j hj => ?_), h.outer.keep hk (fun b e => (h.vb b e).1), fun p hp => (h.own p hp).keep hk (fun b e => (h.far p hp b e).1), h.disj, h.far, h.vb, h.pl, h.bel.trans (hk.toBelow h.bel.size (fun b hb e => by have := h.pl; omega))⟩
  by_cases e : j = k
  · subst e
    simp [hq]
  · simp only [e, if_false]
    by_cases e2 : j < k
    · rw [if_pos e2, if_pos (by omega)]
    · rw [if_neg e2, if_neg (by omega)]

/-- 'parts = append(parts, nil)'. -/
theorem PSt.addPart {wa w1 : World} {g cap H1 : Nat} (h : PSt cf wk wx pfb n k m v val L) (hka : KB (fun _ => False) wx wa)
    (hown : w1.ownsRow 0 43 1 (.slice (some ⟨g, 0, none⟩) ((vals m val).length + 1) cap) ((vals m val).length + 1) (vals m val ++ [.slice none 0 0])) (hg : wa.grownBy w1 v.ownBlock) (hat : v.ownBlock = some g ∨ g = H1) (hH : wx.heap.size ≤ H1) (hL : L m = []) :
    PSt cf wk w1 pfb n k (m + 1) (.slice (some ⟨g, 0, none⟩) ((vals m val).length + 1) cap) (upd val m (.slice none 0 0)) L ∧ KB (fun b => v.ownBlock = some b) wx w1 := by
  have hk1 : KB (fun b => v.ownBlock = some b) wx w1 := (hka.mono (fun _ _ h => h.elim)).grown hg (fun b e _ => e)
  have hgf : g ≠ pfb ∧ wk.heap.size ≤ g := by
    rcases hat with e | e
    · exact h.vb g e
    · have h1 := h.bel.size
      have h2 := h.row.lt
      omega
  have hgp : ∀ p, p < m → (val p).ownBlock ≠ some g := fun p hp e => by
    rcases hat with e2 | e2
    · exact (h.far p hp g e).2.1 e2
    · have := (h.own p hp).lt e
      omega
  refine ⟨⟨rowIs_keep h.row hk1 (fun e => (h.vb _ e).1 rfl), ?_, fun p hp => ?_, fun p q hp hq hne b e => ?_, fun p hp b e => ?_, fun b e => ?_, h.pl, h.bel.trans (hk1.toBelow h.bel.size (fun b hb e => by have := (h.vb b e).2; omega))⟩, hk1⟩
  · have := Row.pushed hown
    rw [vals_snoc] at this
    exact this
  · by_cases e : p = m
    · subst e
      rw [upd_same, hL]
      exact Row.nil _ _
    · rw [upd_other _ _ e]
      exact (h.own p (by omega)).keep hk1 (fun b e2 => (h.far p (by omega) b e2).2.1)
  · by_cases e1 : p = m
    · subst e1
      rw [upd_same] at e
      simp [Value.ownBlock] at e
    · rw [upd_other _ _ e1] at e
      by_cases e2 : q = m
      · subst e2
        rw [upd_same]
        simp [Value.ownBlock]
      · rw [upd_other _ _ e2]
        exact h.disj p q (by omega) (by omega) hne b e
  · by_cases e1 : p = m
    · subst e1
      rw [upd_same] at e
      simp [Value.ownBlock] at e
    · rw [upd_other _ _ e1] at e
      refine ⟨(h.far p (by omega) b e).1, fun e2 => ?_, (h.far p (by omega) b e).2.2⟩
      simp [Value.ownBlock] at e2
      subst e2
      exact hgp p (by omega) e
  · simp [Value.ownBlock] at e
    subst e
    exact hgf

/-- 'parts[p] = append(parts[p], x)'. -/
theorem PSt.push {wa w1 : World} {g gv cap cv H1 p x : Nat} (h : PSt cf wk wx pfb n k m (.slice (some ⟨gv, 0, none⟩) m cv) val L) (hp : p < m) (hka : KB (fun _ => False) wx wa)
    (hown : w1.ownsRow 0 3 1 (.slice (some ⟨g, 0, none⟩) ((ints (L p)).length + 1) cap) ((ints (L p)).length + 1) (ints (L p) ++ [.int .i64 (x : Int)])) (hg : wa.grownBy w1 (val p).ownBlock) (hat : (val p).ownBlock = some g ∨ g = H1) (hH : wx.heap.size ≤ H1) :
    w1.cell? ⟨gv, p, none⟩ = some (val p) ∧ w1.frozen? ⟨gv, p, none⟩ = false ∧ KB (fun b => b = gv ∨ (val p).ownBlock = some b) wx w1 ∧ Hid (KB (fun b => b = gv ∨ (val p).ownBlock = some b) wx (w1.setCell ⟨gv, p, none⟩ (.slice (some ⟨g, 0, none⟩) ((ints (L p)).length + 1) cap)) ∧
      PSt cf wk (w1.setCell ⟨gv, p, none⟩ (.slice (some ⟨g, 0, none⟩) ((ints (L p)).length + 1) cap)) pfb n k m (.slice (some ⟨gv, 0, none⟩) m cv) (upd val p (.slice (some ⟨g, 0, none⟩) ((ints (L p)).length + 1) cap)) (upd L p (L p ++ [x]))) := by
  have hk1 : KB (fun b => (val p).ownBlock = some b) wx w1 := (hka.mono (fun _ _ h => h.elim)).grown hg (fun b e _ => e)
  have hgvp : (val p).ownBlock ≠ some gv := fun e => (h.far p hp gv e).2.1 rfl
  have ho1 : Row w1 43 (.slice (some ⟨gv, 0, none⟩) m cv) (vals m val) := h.outer.keep hk1 (fun b e => by simp [Value.ownBlock] at e; subst e; exact hgvp)
  have hl : (vals m val).length = m := vals_length _ _
  obtain ⟨g', c', e', _, _, hcells⟩ := ho1.form (by omega)
  have egv : gv = g' := by
    injection e' with e1
    exact congrArg Addr.block (Option.some.inj e1)
  obtain ⟨hc, hfz⟩ := hcells p _ (vals_at val hp)
  rw [← egv] at hc hfz
  have hk2 : KB (fun b => b = gv ∨ (val p).ownBlock = some b) wx (w1.setCell ⟨gv, p, none⟩ (.slice (some ⟨g, 0, none⟩) ((ints (L p)).length + 1) cap)) :=
    KB.setCell (p := ⟨gv, p, none⟩) (hk1.mono (M' := fun b => b = gv ∨ (val p).ownBlock = some b) fun b _ e => Or.inr e) (fun _ => Or.inl rfl) _
  have hks : KB (fun b => b = gv) w1 (w1.setCell ⟨gv, p, none⟩ (.slice (some ⟨g, 0, none⟩) ((ints (L p)).length + 1) cap)) := KB.setCell (p := ⟨gv, p, none⟩) (KB.refl (fun b => b = gv) w1) (fun _ => rfl) _
  have hgf : g ≠ pfb ∧ g ≠ gv ∧ wk.heap.size ≤ g := by
    rcases hat with e | e
    · obtain ⟨a, b, c⟩ := h.far p hp g e
      exact ⟨a, fun e2 => b (by rw [e2]; rfl), c⟩
    · have h1 := h.bel.size
      have h2 := h.row.lt
      have h3 := h.outer.lt (k := gv) rfl
      omega
  have hgq : ∀ q, q < m → q ≠ p → (val q).ownBlock ≠ some g := fun q hq hne e => by
    rcases hat with e2 | e2
    · exact h.disj q p hq hp hne g e e2
    · have := (h.own q hq).lt e
      omega
  refine ⟨hc, hfz, hk1.mono (fun b _ e => Or.inr e), hk2, ⟨rowIs_keep h.row hk2 (fun e => ?_), ?_, fun q hq => ?_, fun q r hq hr hne b e => ?_, fun q hq b e => ?_, h.vb, h.pl, h.bel.trans (hk2.toBelow h.bel.size (fun b hb e => ?_))⟩⟩
  · rcases e with e | e
    · exact (h.vb gv rfl).1 e.symm
    · exact (h.far p hp _ e).1 rfl
  · have hs : Row (w1.setCell ⟨gv, p, none⟩ (.slice (some ⟨g, 0, none⟩) ((ints (L p)).length + 1) cap)) 43 (.slice (some ⟨gv, 0, none⟩) (vals m val).length cv) ((vals m val).set p (.slice (some ⟨g, 0, none⟩) ((ints (L p)).length + 1) cap)) := Row.set (by rw [hl]; exact ho1) _
    rw [hl, vals_set] at hs
    exact hs
  · by_cases e : q = p
    · subst e
      rw [upd_same, upd_same, ints_snoc]
      exact (Row.pushed hown).keep hks (fun b e => by simp [Value.ownBlock] at e; omega)
    · rw [upd_other _ _ e, upd_other _ _ e]
      exact ((h.own q hq).keep hk1 (fun b e2 => h.disj q p hq hp e b e2)).keep hks (fun b e2 e3 => (h.far q hq b e2).2.1 (by rw [e3]; rfl))
  · by_cases e1 : q = p <;> by_cases e2 : r = p
    · omega
    · subst e1
      rw [upd_same] at e
      simp [Value.ownBlock] at e
      subst e
      rw [upd_other _ _ e2]
      exact hgq r hr e2
    · subst e2
      rw [upd_other _ _ e1] at e
      rw [upd_same]
      intro e3
      simp [Value.ownBlock] at e3
      subst e3
      exact hgq q hq e1 e
    · rw [upd_other _ _ e1] at e
      rw [upd_other _ _ e2]
      exact h.disj q r hq hr hne b e
  · by_cases e1 : q = p
    · subst e1
      rw [upd_same] at e
      simp [Value.ownBlock] at e
      subst e
      exact ⟨hgf.1, fun e2 => by simp [Value.ownBlock] at e2; omega, hgf.2.2⟩
    · rw [upd_other _ _ e1] at e
      exact h.far q hq b e
  · rcases e with e | e
    · have := (h.vb gv rfl).2
      omega
    · have := (h.far p hp b e).2.2
      omega

/-- The parts, to be read. -/
theorem PSt.rows (h : PSt cf wk wx pfb n k m v val L) (hm : m ≤ 4096) (hL : ∀ p, p < m → (L p).length ≤ 4096) : ∃ a c va vc, v = .slice a m c ∧ IRows wx a m va vc L := by
  have hl : (vals m val).length = m := vals_length _ _
  have each : ∀ p, ∃ y : Option Addr × Nat, p < m → val p = .slice y.1 (L p).length y.2 ∧ SlAt wx y.1 (L p).length (fun j => .int .i64 (((L p).getD j 0 : Nat) : Int)) := fun p => by
    by_cases hp : p < m
    · have hr := h.own p hp
      have e : (ints (L p)).length = (L p).length := ints_length _
      have := hL p hp
      obtain ⟨a, c, ev, hs⟩ := hr.slAt (by omega) (fun j => .int .i64 (((L p).getD j 0 : Nat) : Int)) (fun j hj => by
        rw [e] at hj
        simp [ints, List.getElem?_eq_getElem hj])
      rw [e] at ev hs
      exact ⟨(a, c), fun _ => ⟨ev, hs⟩⟩
    · exact ⟨(none, 0), fun h => absurd h hp⟩
  obtain ⟨a, c, ev, hs⟩ := h.outer.slAt (by omega) (fun p => .slice (Classical.choose (each p)).1 (L p).length (Classical.choose (each p)).2) (fun p hp => by
    rw [hl] at hp
    rw [vals_at val hp]
    exact congrArg some (Classical.choose_spec (each p) hp).1)
  rw [hl] at ev hs
  exact ⟨a, c, _, _, ev, hs, fun p hp => (Classical.choose_spec (each p) hp).2⟩
end

end Go.Proofs.Qxb6605609a
