/-
  SLICES OF SLICES OF INTEGERS THAT GROW ROW BY ROW ('adj[i] = append(adj[i], j)').
-/
import Derived.Test.Qxb6605609aIn
import Derived.Deep.AppendLies
namespace Go.Proofs.Qxb6605609a
open Go.RowKit

/-- f, but v at i. -/
def upd {α : Type} (f : Nat → α) (i : Nat) (v : α) : Nat → α := fun j => if j = i then v else f j
theorem upd_same {α : Type} (f : Nat → α) (i : Nat) (v : α) : upd f i v i = v := by simp [upd]
theorem upd_other {α : Type} (f : Nat → α) {i j : Nat} (v : α) (h : j ≠ i) : upd f i v j = f j := by simp [upd, h]

/-- Integers as values. -/
def ints (l : List Nat) : List Value := l.map fun x : Nat => Value.int .i64 (x : Int)
theorem ints_length (l : List Nat) : (ints l).length = l.length := by simp [ints]
theorem ints_snoc (l : List Nat) (x : Nat) : ints (l ++ [x]) = ints l ++ [.int .i64 (x : Int)] := by simp [ints]

/-- The blocks of a grid. -/
def GridIn (ob m : Nat) (val : Nat → Value) (k : Nat) : Prop := k = ob ∨ ∃ i, i < m ∧ (val i).ownBlock = some k

/-- m rows of integers, row i the list L i, its slice the value val i in cell i of block ob. -/
structure Grid (w : World) (ob m lo : Nat) (val : Nat → Value) (L : Nat → List Nat) : Prop where
  row : w.rowIs ob 43 m val
  own : ∀ i, i < m → w.ownsRow lo 3 1 (val i) (L i).length (ints (L i))
  apart : ∀ i, i < m → (val i).ownBlock ≠ some ob
  disj : ∀ i j, i < m → j < m → i ≠ j → ∀ k, (val i).ownBlock = some k → (val j).ownBlock ≠ some k

theorem ownsRow_keep {M : Nat → Prop} {w w' : World} {base : Nat} {e : TypeId} {size : Nat} {v : Value} {n : Nat} {xs : List Value} (h : w.ownsRow base e size v n xs) (hk : KB M w w') (hm : ∀ k, v.ownBlock = some k → ¬ M k) : w'.ownsRow base e size v n xs := by
  obtain ⟨h1, h2⟩ := h
  refine ⟨h1, ?_⟩
  rcases h2 with h2 | ⟨g, cap, cur, rfl, hg, hh, r⟩
  · exact Or.inl h2
  · refine Or.inr ⟨g, cap, cur, rfl, hg, ?_, r⟩
    obtain ⟨hlt, _⟩ := Array.getElem?_eq_some_iff.1 hh
    rw [hk.block g hlt (hm g rfl)]
    exact hh

theorem rowIs_keep {M : Nat → Prop} {w w' : World} {b : Nat} {t : TypeId} {n : Nat} {f : Nat → Value} (h : w.rowIs b t n f) (hk : KB M w w') (hm : ¬ M b) : w'.rowIs b t n f := h.of_block (hk.block b h.lt hm)

theorem Grid.keep {M : Nat → Prop} {w w' : World} {ob m lo : Nat} {val : Nat → Value} {L : Nat → List Nat} (h : Grid w ob m lo val L) (hk : KB M w w') (hm : ∀ k, GridIn ob m val k → ¬ M k) : Grid w' ob m lo val L :=
  ⟨rowIs_keep h.row hk (hm ob (Or.inl rfl)), fun i hi => ownsRow_keep (h.own i hi) hk (fun k e => hm k (Or.inr ⟨i, hi, e⟩)), h.apart, h.disj⟩

theorem Grid.lt {w : World} {ob m lo : Nat} {val : Nat → Value} {L : Nat → List Nat} (h : Grid w ob m lo val L) {k : Nat} (hk : GridIn ob m val k) : k < w.heap.size := by
  rcases hk with rfl | ⟨i, hi, e⟩
  · exact h.row.lt
  · exact ((h.own i hi).lt k e).2

/-- Behind 'append(row i, x)' and the store into cell i. -/
theorem Grid.push {w w1 : World} {ob m lo : Nat} {val : Nat → Value} {L : Nat → List Nat} {i x g cap H : Nat} (h : Grid w ob m lo val L) (hi : i < m)
    (hown : w1.ownsRow lo 3 1 (.slice (some ⟨g, 0, none⟩) ((L i).length + 1) cap) ((L i).length + 1) (ints (L i) ++ [.int .i64 (x : Int)]))
    (hg : (w.alloc (.cells #[.int .i64 (x : Int)] 3)).grownBy w1 (val i).ownBlock) (hat : (val i).ownBlock = some g ∨ g = H) (hH : H = w.heap.size + 1) :
    w1.cell? ⟨ob, i, none⟩ = some (val i) ∧ w1.frozen? ⟨ob, i, none⟩ = false ∧
    Grid (w1.setCell ⟨ob, i, none⟩ (.slice (some ⟨g, 0, none⟩) ((L i).length + 1) cap)) ob m lo (upd val i (.slice (some ⟨g, 0, none⟩) ((L i).length + 1) cap)) (upd L i (L i ++ [x])) ∧
    KB (GridIn ob m val) w (w1.setCell ⟨ob, i, none⟩ (.slice (some ⟨g, 0, none⟩) ((L i).length + 1) cap)) ∧
    ∀ k, GridIn ob m (upd val i (.slice (some ⟨g, 0, none⟩) ((L i).length + 1) cap)) k → GridIn ob m val k ∨ w.heap.size ≤ k := by
  have hob := h.row.lt
  have hk1 : KB (fun k => (val i).ownBlock = some k) w w1 := ((KB.refl _ w).alloc _).grown hg (fun k e _ => e)
  have hr1 : w1.rowIs ob 43 m val := rowIs_keep h.row hk1 (h.apart i hi)
  have hgo : g ≠ ob := by
    rcases hat with e | e
    · intro e2; subst e2; exact h.apart i hi e
    · omega
  have hk2 : KB (GridIn ob m val) w (w1.setCell ⟨ob, i, none⟩ (.slice (some ⟨g, 0, none⟩) ((L i).length + 1) cap)) :=
    KB.setCell (p := ⟨ob, i, none⟩) (hk1.mono (M' := GridIn ob m val) fun k _ e => Or.inr ⟨i, hi, e⟩) (fun _ => Or.inl rfl) _
  refine ⟨hr1.cell hi, hr1.frozen i, ⟨(hr1.set i _).congr (fun j _ => rfl), fun j hj => ?_, fun j hj => ?_, fun j j' hj hj' hne k e => ?_⟩, hk2, fun k hk => ?_⟩
  · have hset : KB (fun k => k = ob) w1 (w1.setCell ⟨ob, i, none⟩ (.slice (some ⟨g, 0, none⟩) ((L i).length + 1) cap)) := KB.setCell (p := ⟨ob, i, none⟩) (KB.refl (fun k => k = ob) w1) (fun _ => rfl) _
    by_cases e : j = i
    · subst e
      rw [upd_same, upd_same, List.length_append, ints_snoc]
      exact ownsRow_keep hown hset (fun k e => by simp [Value.ownBlock] at e; subst e; exact hgo)
    · rw [upd_other _ _ e, upd_other _ _ e]
      refine ownsRow_keep (ownsRow_keep (h.own j hj) hk1 fun k ek => ?_) hset fun k ek e2 => ?_
      · exact h.disj j i hj hi e k ek
      · exact h.apart j hj (by rw [ek, e2])
  · by_cases e : j = i
    · subst e
      rw [upd_same]
      simpa [Value.ownBlock] using hgo
    · rw [upd_other _ _ e]
      exact h.apart j hj
  · by_cases e1 : j = i <;> by_cases e2 : j' = i
    · omega
    · subst e1
      rw [upd_same] at e
      simp [Value.ownBlock] at e
      subst e
      rw [upd_other _ _ e2]
      rcases hat with ea | ea
      · exact h.disj j j' hj hj' hne g ea
      · intro e3
        have := ((h.own j' hj').lt g e3).2
        omega
    · subst e2
      rw [upd_other _ _ e1] at e
      rw [upd_same]
      simp only [Value.ownBlock, ne_eq, Option.some.injEq]
      intro e3
      subst e3
      rcases hat with ea | ea
      · exact h.disj j j' hj hj' hne g e ea
      · have := ((h.own j hj).lt g e).2
        omega
    · rw [upd_other _ _ e1] at e
      rw [upd_other _ _ e2]
      exact h.disj j j' hj hj' hne k e
  · rcases hk with rfl | ⟨j, hj, e⟩
    · exact Or.inl (Or.inl rfl)
    · by_cases ej : j = i
      · subst ej
        rw [upd_same] at e
        simp [Value.ownBlock] at e
        subst e
        rcases hat with ea | ea
        · exact Or.inl (Or.inr ⟨j, hj, ea⟩)
        · exact Or.inr (by omega)
      · rw [upd_other _ _ ej] at e
        exact Or.inl (Or.inr ⟨j, hj, e⟩)

theorem info43 : (Try.prog.info? 43).map (fun i => (i.zero, i.size, i.bytes)) = some (some (.slice none 0 0), 1, 24) := by kernel_rfl
theorem info3 : (Try.prog.info? 3).map (fun i => (i.zero, i.size, i.bytes)) = some (some (.int .i64 0), 1, 8) := by kernel_rfl

/-- n nil rows. -/
def madeRows (n : Nat) : Array Value := madeCells #[.slice none 0 0] n
theorem makeRows (n : Nat) (hn : n ≤ 1048576) (w : World) : (Instr.makeSlice 40 (.int .i64 n) (.int .i64 n)).run Try.prog w = .ok (.slice (some ⟨w.heap.size, 0, none⟩) n n) (w.alloc (.cells (madeRows n) 43)) :=
  run_make_row' (P := Try.prog) 40 43 (.slice none 0 0) 24 Try.underlying40 info43 rfl .i64 .i64 n (by omega) (by omega) w
/-- n zeros. -/
def madeInts (n : Nat) : Array Value := madeCells #[.int .i64 0] n
theorem makeInts (n : Nat) (hn : n ≤ 1048576) (w : World) : (Instr.makeSlice 43 (.int .i64 n) (.int .i64 n)).run Try.prog w = .ok (.slice (some ⟨w.heap.size, 0, none⟩) n n) (w.alloc (.cells (madeInts n) 3)) :=
  run_make_row' (P := Try.prog) 43 3 (.int .i64 0) 8 Try.underlying43 info3 rfl .i64 .i64 n (by omega) (by omega) w

theorem Grid.made (w : World) (n lo : Nat) : Grid (w.alloc (.cells (madeRows n) 43)) w.heap.size n lo (fun _ => .slice none 0 0) (fun _ => []) :=
  ⟨World.rowIs_made w (.slice none 0 0) n 43, fun i _ => World.ownsRow_nil _ _ _ _, fun i _ => by simp [Value.ownBlock], fun i j _ _ _ k e => by simp [Value.ownBlock] at e⟩

/-- A row that the call owns, read by its index. -/
theorem ints_slAt {w : World} {base : Nat} {v : Value} {L : List Nat} (hL : L.length < 4611686018427387904) (h : w.ownsRow base 3 1 v L.length (ints L)) :
    ∃ a c, v = .slice a L.length c ∧ SlAt w a L.length (fun j => .int .i64 ((L.getD j 0 : Nat) : Int)) := by
  obtain ⟨h1, h2⟩ := h
  rcases h2 with ⟨rfl, h2⟩ | ⟨g, cap, cur, rfl, hg, hh, hc, hcm, hcs, hct⟩
  · exact ⟨none, 0, by rw [h2], ⟨by omega, fun h => by omega⟩⟩
  · refine ⟨_, _, rfl, ⟨by omega, fun _ => ⟨g, 0, rfl, ?_, fun j hj => ?_⟩⟩⟩
    · obtain ⟨hlt', _⟩ := Array.getElem?_eq_some_iff.1 hh
      exact hlt'
    · have e1 : cur[j]? = some (.int .i64 ((L.getD j 0 : Nat) : Int)) := by
        have e2 : (cur.toList.take (L.length * 1))[j]? = some (.int .i64 ((L.getD j 0 : Nat) : Int)) := by
          rw [hct, ints, List.getElem?_map, List.getElem?_eq_getElem hj, List.getD_eq_getElem?_getD, List.getElem?_eq_getElem hj]
          rfl
        rw [List.getElem?_take_of_lt (by omega)] at e2
        simpa using e2
      simp [World.cell?, hh, e1]

end Go.Proofs.Qxb6605609a
