/-
  ROWS OF ONE-CELL VALUES THAT THE CALL OWNS; A CELL THAT HOLDS SUCH A ROW'S SLICE ('RC').
-/
import Derived.Test.Qxb6605609aHeapM
namespace Go.Proofs.Qxb6605609a
open Go.RowKit

/-- v is a slice of the values xs, of type t each, in a block of the call's own. -/
def Row (w : World) (t : TypeId) (v : Value) (xs : List Value) : Prop := w.ownsRow 0 t 1 v xs.length xs

theorem Row.nil (w : World) (t : TypeId) : Row w t (.slice none 0 0) [] := World.ownsRow_nil _ _ _ _
theorem Row.keep {S : Nat → Prop} {w w' : World} {t : TypeId} {v : Value} {xs : List Value} (h : Row w t v xs) (hk : KB S w w') (hm : ∀ k, v.ownBlock = some k → ¬ S k) : Row w' t v xs := ownsRow_keep h hk hm
theorem Row.drew {w : World} {t : TypeId} {v : Value} {xs : List Value} (h : Row w t v xs) : Row w.drew t v xs := h
theorem Row.lt {w : World} {t : TypeId} {v : Value} {xs : List Value} (h : Row w t v xs) {k : Nat} (hk : v.ownBlock = some k) : k < w.heap.size := (World.ownsRow.lt h k hk).2
theorem Row.any {w : World} {t : TypeId} {v : Value} {xs : List Value} (h : Row w t v xs) : ∃ a c, v = .slice a xs.length c := by
  rcases h.2 with ⟨rfl, h2⟩ | ⟨g, cap, cur, rfl, _⟩
  · exact ⟨none, 0, by rw [h2]⟩
  · exact ⟨_, _, rfl⟩

/-- Where it is not empty: its form, its cells. -/
theorem Row.form {w : World} {t : TypeId} {v : Value} {xs : List Value} (h : Row w t v xs) (hl : 0 < xs.length) : ∃ g cap, v = .slice (some ⟨g, 0, none⟩) xs.length cap ∧ g < w.heap.size ∧ xs.length ≤ cap ∧ ∀ i x, xs[i]? = some x → w.cell? ⟨g, i, none⟩ = some x ∧ w.frozen? ⟨g, i, none⟩ = false := by
  obtain ⟨h1, h2⟩ := h
  rcases h2 with ⟨rfl, h2⟩ | ⟨g, cap, cur, rfl, hg, hh, hc, hcm, hcs, hct⟩
  · omega
  · obtain ⟨hlt', _⟩ := Array.getElem?_eq_some_iff.1 hh
    refine ⟨g, cap, rfl, hlt', hc, fun i x hx => ⟨?_, ?_⟩⟩
    · have hi : i < xs.length := (List.getElem?_eq_some_iff.1 hx).1
      rw [← hct, List.getElem?_take_of_lt (by omega)] at hx
      have e1 : cur[i]? = some x := by simpa using hx
      simp [World.cell?, hh, e1]
    · simp [World.frozen?, hh]

theorem Row.slAt {w : World} {t : TypeId} {v : Value} {xs : List Value} (h : Row w t v xs) (hl : xs.length < 4611686018427387904) (f : Nat → Value) (hf : ∀ i, i < xs.length → xs[i]? = some (f i)) : ∃ a c, v = .slice a xs.length c ∧ SlAt w a xs.length f := by
  by_cases h0 : 0 < xs.length
  · obtain ⟨g, cap, e, hg, _, hc⟩ := h.form h0
    exact ⟨_, _, e, ⟨hl, fun _ => ⟨g, 0, rfl, hg, fun j hj => by rw [Nat.zero_add]; exact (hc j _ (hf j hj)).1⟩⟩⟩
  · obtain ⟨a, c, e⟩ := h.any
    exact ⟨a, c, e, ⟨hl, fun h => absurd h h0⟩⟩

/-- 'v[:m]'. -/
theorem Row.cut {w : World} {t : TypeId} {g cap : Nat} {xs : List Value} (h : Row w t (.slice (some ⟨g, 0, none⟩) xs.length cap) xs) {m : Nat} (hm : m ≤ xs.length) : Row w t (.slice (some ⟨g, 0, none⟩) m cap) (xs.take m) := by
  obtain ⟨h1, h2⟩ := h
  have hl : (xs.take m).length = m := by simp; omega
  refine ⟨by simp, ?_⟩
  rcases h2 with ⟨h2, _⟩ | ⟨g', cap', cur, e, hg, hh, hc, hcm, hcs, hct⟩
  · cases h2
  · cases e
    refine Or.inr ⟨g, cap, cur, by rw [hl], hg, hh, by rw [hl]; omega, hcm, hcs, ?_⟩
    rw [hl, Nat.mul_one]
    have := congrArg (List.take m) hct
    rw [List.take_take, show min m (xs.length * 1) = m by omega] at this
    exact this

/-- What an append leaves. -/
theorem Row.pushed {w1 : World} {t : TypeId} {g cap : Nat} {xs : List Value} {x : Value} (h : w1.ownsRow 0 t 1 (.slice (some ⟨g, 0, none⟩) (xs.length + 1) cap) (xs.length + 1) (xs ++ [x])) : Row w1 t (.slice (some ⟨g, 0, none⟩) (xs.length + 1) cap) (xs ++ [x]) := by
  unfold Row
  rw [List.length_append]
  exact h

/-- Cell 0 of block c holds the slice v of the values xs. -/
structure RC (w : World) (c : Nat) (t : TypeId) (v : Value) (xs : List Value) : Prop where
  cell : w.cell? ⟨c, 0, none⟩ = some v
  froz : w.frozen? ⟨c, 0, none⟩ = false
  own : Row w t v xs
  far : ∀ k, v.ownBlock = some k → k ≠ c

theorem RC.lt {w : World} {c : Nat} {t : TypeId} {v : Value} {xs : List Value} (h : RC w c t v xs) : c < w.heap.size := World.block_lt_of_cell? w _ h.cell
theorem RC.keep {S : Nat → Prop} {w w' : World} {c : Nat} {t : TypeId} {v : Value} {xs : List Value} (h : RC w c t v xs) (hk : KB S w w') (hm : ∀ k, v.ownBlock = some k → ¬ S k) (hn : ¬ S c) : RC w' c t v xs :=
  ⟨(hk.cell (p := ⟨c, 0, none⟩) h.lt hn).trans h.cell, (World.frozen?_of_block (hk.block c h.lt hn)).trans h.froz, h.own.keep hk hm, h.far⟩

/-- Behind the append, ahead of the store; behind both. -/
theorem RC.pushed {w wa w1 : World} {c g cap H : Nat} {t : TypeId} {v x : Value} {xs : List Value} (h : RC w c t v xs) (hka : KB (fun _ => False) w wa)
    (hown : w1.ownsRow 0 t 1 (.slice (some ⟨g, 0, none⟩) (xs.length + 1) cap) (xs.length + 1) (xs ++ [x]))
    (hg : wa.grownBy w1 v.ownBlock) (hat : v.ownBlock = some g ∨ g = H) (hH : w.heap.size ≤ H) :
    w1.cell? ⟨c, 0, none⟩ = some v ∧ w1.frozen? ⟨c, 0, none⟩ = false ∧ KB (fun k => v.ownBlock = some k) w w1 ∧
    RC (w1.setCell ⟨c, 0, none⟩ (.slice (some ⟨g, 0, none⟩) (xs.length + 1) cap)) c t (.slice (some ⟨g, 0, none⟩) (xs.length + 1) cap) (xs ++ [x]) ∧
    KB (HB c v) w (w1.setCell ⟨c, 0, none⟩ (.slice (some ⟨g, 0, none⟩) (xs.length + 1) cap)) ∧ (v.ownBlock = some g ∨ w.heap.size ≤ g) := by
  have hk1 : KB (fun k => v.ownBlock = some k) w w1 := (hka.mono (fun _ _ h => h.elim)).grown hg (fun k e _ => e)
  have hn : ¬ (v.ownBlock = some c) := fun e => h.far c e rfl
  have hc1 : w1.cell? ⟨c, 0, none⟩ = some v := (hk1.cell (p := ⟨c, 0, none⟩) h.lt hn).trans h.cell
  have hf1 : w1.frozen? ⟨c, 0, none⟩ = false := (World.frozen?_of_block (hk1.block c h.lt hn)).trans h.froz
  have hgb : g ≠ c := by
    rcases hat with e | e
    · exact h.far g e
    · have := h.lt; omega
  refine ⟨hc1, hf1, hk1, ⟨?_, ?_, ?_, ?_⟩, ?_, ?_⟩
  · exact World.cell?_setCell_same _ _ _ hc1
  · rw [World.frozen?_setCell]; exact hf1
  · exact (Row.pushed hown).keep ((KB.refl (fun k => k = c) w1).setCell (p := ⟨c, 0, none⟩) (fun _ => rfl) _) (fun k e => by
      simp [Value.ownBlock] at e
      omega)
  · intro k e
    simp [Value.ownBlock] at e
    omega
  · exact (hk1.mono (M' := HB c v) (fun k _ e => Or.inr e)).setCell (p := ⟨c, 0, none⟩) (fun _ => Or.inl rfl) _
  · rcases hat with e | e
    · exact Or.inl e
    · exact Or.inr (by omega)

/-- 'x = x[:len(x)-1]'. -/
theorem RC.cut {w : World} {c g cap m : Nat} {t : TypeId} {xs : List Value} (h : RC w c t (.slice (some ⟨g, 0, none⟩) xs.length cap) xs) (hm : m ≤ xs.length) :
    RC (w.setCell ⟨c, 0, none⟩ (.slice (some ⟨g, 0, none⟩) m cap)) c t (.slice (some ⟨g, 0, none⟩) m cap) (xs.take m) ∧ KB (fun k => k = c) w (w.setCell ⟨c, 0, none⟩ (.slice (some ⟨g, 0, none⟩) m cap)) := by
  have hk := KB.setCell (p := ⟨c, 0, none⟩) (KB.refl (fun k => k = c) w) (fun _ => rfl) (.slice (some ⟨g, 0, none⟩) m cap)
  have hgc : g ≠ c := h.far g rfl
  exact ⟨⟨World.cell?_setCell_same _ _ _ h.cell, by rw [World.frozen?_setCell]; exact h.froz, (h.own.cut hm).keep hk (fun k e => by simp [Value.ownBlock] at e; omega), fun k e => by simp [Value.ownBlock] at e; omega⟩, hk⟩

/-- A map's block behind a store is not one of a row. -/
theorem KB.ofGrown {w w' : World} {b : Nat} (hg : w.grownBy w' (some b)) : KB (fun k => k = b) w w' := (KB.refl _ w).grown hg (fun k e _ => by cases e; rfl)

end Go.Proofs.Qxb6605609a
