/-
  LISTS OF INTEGERS THAT THE CALL OWNS: read, written, cut, appended to. The measure of a depth-first search.
-/
import Derived.Test.Qxb6605609aGraphW
import Derived.Test.Qxb6605609aKos2
namespace Go.Proofs.Qxb6605609a
open Go.RowKit

/-- v is a slice of the integers l, in a block of the call's own. -/
def IL (w : World) (lo : Nat) (v : Value) (l : List Nat) : Prop := w.ownsRow lo 3 1 v l.length (ints l)

theorem IL.keep {M : Nat → Prop} {w w' : World} {lo : Nat} {v : Value} {l : List Nat} (h : IL w lo v l) (hk : KB M w w') (hm : ∀ k, v.ownBlock = some k → ¬ M k) : IL w' lo v l := ownsRow_keep h hk hm
theorem IL.nil (w : World) (lo : Nat) : IL w lo (.slice none 0 0) [] := World.ownsRow_nil _ _ _ _

/-- Where it is not empty: its form, its cells. -/
theorem IL.form {w : World} {lo : Nat} {v : Value} {l : List Nat} (h : IL w lo v l) (hl : 0 < l.length) : ∃ g cap, v = .slice (some ⟨g, 0, none⟩) l.length cap ∧ lo ≤ g ∧ g < w.heap.size ∧ l.length ≤ cap ∧ ∀ i, i < l.length → w.cell? ⟨g, i, none⟩ = some (.int .i64 ((l.getD i 0 : Nat) : Int)) ∧ w.frozen? ⟨g, i, none⟩ = false := by
  obtain ⟨h1, h2⟩ := h
  rcases h2 with ⟨rfl, h2⟩ | ⟨g, cap, cur, rfl, hg, hh, hc, hcm, hcs, hct⟩
  · omega
  · obtain ⟨hlt', _⟩ := Array.getElem?_eq_some_iff.1 hh
    refine ⟨g, cap, rfl, hg, hlt', hc, fun i hi => ⟨?_, ?_⟩⟩
    · have e2 : (cur.toList.take (l.length * 1))[i]? = some (.int .i64 ((l.getD i 0 : Nat) : Int)) := by
        rw [hct, ints, List.getElem?_map, List.getElem?_eq_getElem hi, List.getD_eq_getElem?_getD, List.getElem?_eq_getElem hi]
        rfl
      rw [List.getElem?_take_of_lt (by omega)] at e2
      have e1 : cur[i]? = some (.int .i64 ((l.getD i 0 : Nat) : Int)) := by simpa using e2
      simp [World.cell?, hh, e1]
    · simp [World.frozen?, hh]

/-- 'v[:m]'. -/
theorem IL.cut {w : World} {lo g cap : Nat} {l : List Nat} (h : IL w lo (.slice (some ⟨g, 0, none⟩) l.length cap) l) {m : Nat} (hm : m ≤ l.length) : IL w lo (.slice (some ⟨g, 0, none⟩) m cap) (l.take m) := by
  obtain ⟨h1, h2⟩ := h
  have hl : (l.take m).length = m := by simp; omega
  refine ⟨by simp [ints], ?_⟩
  rcases h2 with ⟨h2, _⟩ | ⟨g', cap', cur, e, hg, hh, hc, hcm, hcs, hct⟩
  · cases h2
  · cases e
    refine Or.inr ⟨g, cap, cur, by rw [hl], hg, hh, by rw [hl]; omega, hcm, hcs, ?_⟩
    rw [hl, Nat.mul_one]
    have := congrArg (List.take m) hct
    rw [List.take_take, show min m (l.length * 1) = m by omega] at this
    rw [this]
    simp [ints, List.map_take]

/-- 'v[i] = x'. -/
theorem IL.set {w : World} {lo g cap : Nat} {l : List Nat} (h : IL w lo (.slice (some ⟨g, 0, none⟩) l.length cap) l) {i : Nat} (x : Nat) : IL (w.setCell ⟨g, i, none⟩ (.int .i64 (x : Int))) lo (.slice (some ⟨g, 0, none⟩) l.length cap) (l.set i x) := by
  obtain ⟨h1, h2⟩ := h
  refine ⟨by simp [ints], ?_⟩
  rcases h2 with ⟨h2, _⟩ | ⟨g', cap', cur, e, hg, hh, hc, hcm, hcs, hct⟩
  · cases h2
  · cases e
    refine Or.inr ⟨g, cap, cur.set! i (.int .i64 (x : Int)), by simp, hg, ?_, by simpa using hc, hcm, by simpa using hcs, ?_⟩
    · simp only [World.setCell]
      rw [Array.getElem?_modify]
      simp [hh]
    · have hset : (cur.set! i (Value.int .i64 (x : Int))).toList = cur.toList.set i (.int .i64 (x : Int)) := by simp
      rw [hset, List.length_set, List.take_set, hct]
      simp [ints, List.map_set]

/-- What an append leaves. -/
theorem IL.pushed {w1 : World} {lo g cap : Nat} {l : List Nat} {x : Nat} (h : w1.ownsRow lo 3 1 (.slice (some ⟨g, 0, none⟩) (l.length + 1) cap) (l.length + 1) (ints l ++ [.int .i64 (x : Int)])) : IL w1 lo (.slice (some ⟨g, 0, none⟩) (l.length + 1) cap) (l ++ [x]) := by
  unfold IL
  rw [List.length_append, ints_snoc]
  exact h

/-- m lists of integers that the call owns, in blocks of their own, none of them among P. -/
structure Fam (w : World) (lo m : Nat) (val : Nat → Value) (L : Nat → List Nat) (P : Nat → Prop) : Prop where
  own : ∀ i, i < m → IL w lo (val i) (L i)
  disj : ∀ i j, i < m → j < m → i ≠ j → ∀ k, (val i).ownBlock = some k → (val j).ownBlock ≠ some k
  prot : ∀ i, i < m → ∀ k, (val i).ownBlock = some k → ¬ P k
  plt : ∀ k, P k → k < w.heap.size

theorem Fam.congr {w : World} {lo m : Nat} {val val' : Nat → Value} {L L' : Nat → List Nat} {P : Nat → Prop} (h : Fam w lo m val L P) (hv : ∀ i, i < m → val' i = val i) (hL : ∀ i, i < m → L' i = L i) : Fam w lo m val' L' P :=
  ⟨fun i hi => by rw [hv i hi, hL i hi]; exact h.own i hi, fun i j hi hj hne k => by rw [hv i hi, hv j hj]; exact h.disj i j hi hj hne k, fun i hi k => by rw [hv i hi]; exact h.prot i hi k, h.plt⟩

theorem Fam.keep {M : Nat → Prop} {w w' : World} {lo m : Nat} {val : Nat → Value} {L : Nat → List Nat} {P : Nat → Prop} (h : Fam w lo m val L P) (hk : KB M w w') (hm : ∀ i, i < m → ∀ k, (val i).ownBlock = some k → ¬ M k) : Fam w' lo m val L P :=
  ⟨fun i hi => (h.own i hi).keep hk (hm i hi), h.disj, h.prot, fun k hk' => Nat.lt_of_lt_of_le (h.plt k hk') hk.size⟩

theorem Fam.lt {w : World} {lo m : Nat} {val : Nat → Value} {L : Nat → List Nat} {P : Nat → Prop} (h : Fam w lo m val L P) {i k : Nat} (hi : i < m) (hk : (val i).ownBlock = some k) : lo ≤ k ∧ k < w.heap.size := World.ownsRow.lt (h.own i hi) k hk

/-- 'x = append(x, y)' for list i. -/
theorem Fam.push {w w1 : World} {lo m : Nat} {val : Nat → Value} {L : Nat → List Nat} {P : Nat → Prop} {i x g cap H : Nat} (h : Fam w lo m val L P) (hi : i < m)
    (hown : w1.ownsRow lo 3 1 (.slice (some ⟨g, 0, none⟩) ((L i).length + 1) cap) ((L i).length + 1) (ints (L i) ++ [.int .i64 (x : Int)]))
    (hg : (w.alloc (.cells #[.int .i64 (x : Int)] 3)).grownBy w1 (val i).ownBlock) (hat : (val i).ownBlock = some g ∨ g = H) (hH : H = w.heap.size + 1) :
    Fam w1 lo m (upd val i (.slice (some ⟨g, 0, none⟩) ((L i).length + 1) cap)) (upd L i (L i ++ [x])) P ∧ KB (fun k => (val i).ownBlock = some k) w w1 := by
  have hk1 : KB (fun k => (val i).ownBlock = some k) w w1 := ((KB.refl _ w).alloc _).grown hg (fun k e _ => e)
  refine ⟨⟨fun j hj => ?_, fun j j' hj hj' hne k e => ?_, fun j hj k e => ?_, fun k hk => Nat.lt_of_lt_of_le (h.plt k hk) hk1.size⟩, hk1⟩
  · by_cases e : j = i
    · subst e
      rw [upd_same, upd_same]
      exact IL.pushed hown
    · rw [upd_other _ _ e, upd_other _ _ e]
      exact (h.own j hj).keep hk1 (fun k ek => h.disj j i hj hi e k ek)
  · by_cases e1 : j = i <;> by_cases e2 : j' = i
    · omega
    · subst e1
      rw [upd_same] at e
      simp [Value.ownBlock] at e
      subst e
      rw [upd_other _ _ e2]
      rcases hat with ea | ea
      · exact h.disj j j' hj hj' hne g ea
      · intro e3
        have := (h.lt hj' e3).2
        omega
    · subst e2
      rw [upd_other _ _ e1] at e
      rw [upd_same]
      simp only [Value.ownBlock, ne_eq, Option.some.injEq]
      intro e3
      subst e3
      rcases hat with ea | ea
      · exact h.disj j j' hj hj' hne g e ea
      · have := (h.lt hj e).2
        omega
    · rw [upd_other _ _ e1] at e
      rw [upd_other _ _ e2]
      exact h.disj j j' hj hj' hne k e
  · by_cases e1 : j = i
    · subst e1
      rw [upd_same] at e
      simp [Value.ownBlock] at e
      subst e
      rcases hat with ea | ea
      · exact h.prot j hj g ea
      · intro hP
        have := h.plt g hP
        omega
    · rw [upd_other _ _ e1] at e
      exact h.prot j hj k e

/-- 'x = x[:t]'. -/
theorem Fam.cut {w : World} {lo m : Nat} {val : Nat → Value} {L : Nat → List Nat} {P : Nat → Prop} {i t g cap : Nat} (h : Fam w lo m val L P) (hi : i < m) (hv : val i = .slice (some ⟨g, 0, none⟩) (L i).length cap) (ht : t ≤ (L i).length) :
    Fam w lo m (upd val i (.slice (some ⟨g, 0, none⟩) t cap)) (upd L i ((L i).take t)) P := by
  have hb : (val i).ownBlock = some g := by rw [hv]; rfl
  have hob : ∀ j, (upd val i (.slice (some ⟨g, 0, none⟩) t cap) j).ownBlock = (val j).ownBlock := fun j => by
    by_cases e : j = i
    · subst e; rw [upd_same, hb]; rfl
    · rw [upd_other _ _ e]
  refine ⟨fun j hj => ?_, fun j j' hj hj' hne k => by rw [hob, hob]; exact h.disj j j' hj hj' hne k, fun j hj k => by rw [hob]; exact h.prot j hj k, h.plt⟩
  by_cases e : j = i
  · subst e
    rw [upd_same, upd_same]
    have := h.own j hj
    rw [hv] at this
    exact this.cut ht
  · rw [upd_other _ _ e, upd_other _ _ e]
    exact h.own j hj

/-- 'x[t] = y'. -/
theorem Fam.set {w : World} {lo m : Nat} {val : Nat → Value} {L : Nat → List Nat} {P : Nat → Prop} {i t g cap : Nat} (h : Fam w lo m val L P) (hi : i < m) (hv : val i = .slice (some ⟨g, 0, none⟩) (L i).length cap) (x : Nat) :
    Fam (w.setCell ⟨g, t, none⟩ (.int .i64 (x : Int))) lo m val (upd L i ((L i).set t x)) P ∧ KB (fun k => (val i).ownBlock = some k) w (w.setCell ⟨g, t, none⟩ (.int .i64 (x : Int))) := by
  have hb : (val i).ownBlock = some g := by rw [hv]; rfl
  have hk : KB (fun k => (val i).ownBlock = some k) w (w.setCell ⟨g, t, none⟩ (.int .i64 (x : Int))) := KB.setCell (p := ⟨g, t, none⟩) (KB.refl _ w) (fun _ => hb) _
  refine ⟨⟨fun j hj => ?_, h.disj, h.prot, fun k hP => Nat.lt_of_lt_of_le (h.plt k hP) hk.size⟩, hk⟩
  by_cases e : j = i
  · subst e
    rw [upd_same]
    have := h.own j hj
    rw [hv] at this ⊢
    have hset := this.set (i := t) x
    have hl : ((L j).set t x).length = (L j).length := by simp
    unfold IL at hset ⊢
    rw [hl] at hset ⊢
    exact hset
  · rw [upd_other _ _ e]
    exact (h.own j hj).keep hk (fun k ek => h.disj j i hj hi e k ek)

end Go.Proofs.Qxb6605609a
