/-
  zzGraph: the member groups created with each group, as places; the same graph reversed.
-/
import Derived.Test.Qxb6605609aMap
namespace Go.Proofs.Qxb6605609a
open Go.RowKit

/-- The place of a name among the first n. -/
def idxOf (ss : Nat → ByteArray) (n : Nat) (s : ByteArray) : Option Nat := (List.range n).find? fun i => decide (ss i = s)
theorem idxOf_some {ss : Nat → ByteArray} {n i : Nat} {s : ByteArray} (h : idxOf ss n s = some i) : i < n ∧ ss i = s := by
  have h1 := List.find?_some h
  have h2 := List.mem_of_find?_eq_some h
  exact ⟨List.mem_range.1 h2, by simpa using h1⟩
theorem idxOf_none {ss : Nat → ByteArray} {n i : Nat} {s : ByteArray} (h : idxOf ss n s = none) (hi : i < n) : ss i ≠ s := by
  have := List.find?_eq_none.1 h i (List.mem_range.2 hi)
  simpa using this
theorem idxOf_at {ss : Nat → ByteArray} {n i : Nat} (hinj : ∀ i j, i < n → j < n → ss i = ss j → i = j) (hi : i < n) : idxOf ss n (ss i) = some i := by
  cases h : idxOf ss n (ss i) with
  | none => exact absurd rfl (idxOf_none h hi)
  | some j =>
    obtain ⟨h1, h2⟩ := idxOf_some h
    rw [hinj j i h1 hi h2]
theorem idxOf_succ (ss : Nat → ByteArray) (k : Nat) (s : ByteArray) (hnew : ∀ i, i < k → ss i ≠ ss k) : idxOf ss (k + 1) s = if s = ss k then some k else idxOf ss k s := by
  unfold idxOf
  rw [List.range_succ, List.find?_append]
  by_cases e : s = ss k
  · have : (List.range k).find? (fun i => decide (ss i = s)) = none := by
      rw [List.find?_eq_none]
      intro i hi
      have := hnew i (List.mem_range.1 hi)
      simp [e, this]
    rw [this, if_pos e]
    simp [e]
  · rw [if_neg e]
    have e' : ¬ ss k = s := fun h => e h.symm
    cases h : (List.range k).find? (fun i => decide (ss i = s)) with
    | none => simp [e']
    | some i => rfl

/-- The places of the first t member groups of group i that were created with it. -/
def adjPre (ss : Nat → ByteArray) (n : Nat) (ms : Nat → Nat → ByteArray) (i t : Nat) : List Nat := (List.range t).filterMap fun q => idxOf ss n (ms i q)
/-- .. of all. -/
def adjL (ss : Nat → ByteArray) (n : Nat) (ln : Nat → Nat) (ms : Nat → Nat → ByteArray) (i : Nat) : List Nat := if i < n then adjPre ss n ms i (ln i) else []

theorem adjPre_succ_some {ss : Nat → ByteArray} {n : Nat} {ms : Nat → Nat → ByteArray} {i t j : Nat} (h : idxOf ss n (ms i t) = some j) : adjPre ss n ms i (t + 1) = adjPre ss n ms i t ++ [j] := by
  simp [adjPre, List.range_succ, List.filterMap_append, h]
theorem adjPre_succ_none {ss : Nat → ByteArray} {n : Nat} {ms : Nat → Nat → ByteArray} {i t : Nat} (h : idxOf ss n (ms i t) = none) : adjPre ss n ms i (t + 1) = adjPre ss n ms i t := by
  simp [adjPre, List.range_succ, List.filterMap_append, h]
theorem adjPre_length (ss : Nat → ByteArray) (n : Nat) (ms : Nat → Nat → ByteArray) (i t : Nat) : (adjPre ss n ms i t).length ≤ t := by
  have := List.length_filterMap_le (fun q => idxOf ss n (ms i q)) (List.range t)
  simpa [adjPre] using this
theorem adjPre_lt {ss : Nat → ByteArray} {n : Nat} {ms : Nat → Nat → ByteArray} {i t j : Nat} (h : j ∈ adjPre ss n ms i t) : j < n := by
  obtain ⟨q, _, hq⟩ := List.mem_filterMap.1 h
  exact (idxOf_some hq).1
theorem adjL_lt {ss : Nat → ByteArray} {n : Nat} {ln : Nat → Nat} {ms : Nat → Nat → ByteArray} {i j : Nat} (h : j ∈ adjL ss n ln ms i) : j < n := by
  unfold adjL at h
  split at h
  · exact adjPre_lt h
  · cases h

/-- The rows as far as they are built. -/
def rowsTo (ss : Nat → ByteArray) (n : Nat) (ln : Nat → Nat) (ms : Nat → Nat → ByteArray) (i t : Nat) : Nat → List Nat :=
  fun j => if j < i then adjL ss n ln ms j else if j = i then adjPre ss n ms i t else []

/-- zzGraph's state: its map, its two grids. -/
structure GSt (w wr : World) (mb ob1 ob2 n : Nat) (ss : Nat → ByteArray) (ln : Nat → Nat) (ms : Nat → Nat → ByteArray) (i t : Nat) (val1 val2 : Nat → Value) (L2 : Nat → List Nat) : Prop where
  map : SMap wr mb n (fun s => (idxOf ss n s).map fun i : Nat => Value.int .i64 (i : Int))
  g1 : Grid wr ob1 n w.heap.size val1 (rowsTo ss n ln ms i t)
  g2 : Grid wr ob2 n w.heap.size val2 L2
  ap : ∀ k, GridIn ob1 n val1 k → ¬ GridIn ob2 n val2 k
  m1 : ¬ GridIn ob1 n val1 mb
  m2 : ¬ GridIn ob2 n val2 mb
  rev : ∀ j q, q ∈ L2 j ↔ (q < i ∧ j ∈ adjL ss n ln ms q) ∨ (q = i ∧ j ∈ adjPre ss n ms i t)
  len : ∀ j, j < n → (L2 j).length ≤ i * 131072 + t
  bel : Below w.heap.size w wr

theorem GSt.stay {w wr : World} {mb ob1 ob2 n : Nat} {ss : Nat → ByteArray} {ln : Nat → Nat} {ms : Nat → Nat → ByteArray} {i t : Nat} {val1 val2 : Nat → Value} {L2 : Nat → List Nat} (h : GSt w wr mb ob1 ob2 n ss ln ms i t val1 val2 L2) (hx : idxOf ss n (ms i t) = none) : GSt w wr mb ob1 ob2 n ss ln ms i (t + 1) val1 val2 L2 := by
  have e := adjPre_succ_none hx
  refine ⟨h.map, ?_, h.g2, h.ap, h.m1, h.m2, fun j q => by rw [e]; exact h.rev j q, fun j hj => by have := h.len j hj; omega, h.bel⟩
  have : rowsTo ss n ln ms i (t + 1) = rowsTo ss n ln ms i t := by
    funext j
    simp only [rowsTo, e]
  rw [this]
  exact h.g1

set_option maxRecDepth 100000 in
theorem GSt.next {w wr : World} {mb ob1 ob2 n : Nat} {ss : Nat → ByteArray} {ln : Nat → Nat} {ms : Nat → Nat → ByteArray} {i : Nat} {val1 val2 : Nat → Value} {L2 : Nat → List Nat} (h : GSt w wr mb ob1 ob2 n ss ln ms i (ln i) val1 val2 L2) (hi : i < n) (hl : ln i ≤ 131072) : GSt w wr mb ob1 ob2 n ss ln ms (i + 1) 0 val1 val2 L2 := by
  have e : adjPre ss n ms (i + 1) 0 = [] := rfl
  have ei : adjL ss n ln ms i = adjPre ss n ms i (ln i) := by simp [adjL, hi]
  have hlen : ∀ j, j < n → (L2 j).length ≤ (i + 1) * 131072 + 0 := fun j hj => by
    have h1 := h.len j hj
    rw [Nat.succ_mul, Nat.add_zero]
    exact Nat.le_trans h1 (Nat.add_le_add_left hl _)
  refine ⟨h.map, ?_, h.g2, h.ap, h.m1, h.m2, fun j q => ?_, hlen, h.bel⟩
  · have : rowsTo ss n ln ms (i + 1) 0 = rowsTo ss n ln ms i (ln i) := by
      funext j
      simp only [rowsTo, e]
      by_cases h1 : j < i
      · rw [if_pos (by omega), if_pos h1]
      · by_cases h2 : j = i
        · rw [if_pos (by omega), if_neg h1, if_pos h2, h2, ei]
        · rw [if_neg (by omega), if_neg h1, if_neg h2]
          simp
    rw [this]
    exact h.g1
  · rw [h.rev j q, e]
    constructor
    · rintro (⟨h1, h2⟩ | ⟨rfl, h2⟩)
      · exact Or.inl ⟨by omega, h2⟩
      · exact Or.inl ⟨by omega, by rw [ei]; exact h2⟩
    · rintro (⟨h1, h2⟩ | ⟨_, h2⟩)
      · by_cases e1 : q = i
        · subst e1
          exact Or.inr ⟨rfl, by rw [← ei]; exact h2⟩
        · exact Or.inl ⟨by omega, h2⟩
      · cases h2

/-- Row i of the graph has got one more, row j of the reversed graph too. -/
theorem GSt.both {w wr w1 w2 : World} {mb ob1 ob2 n : Nat} {ss : Nat → ByteArray} {ln : Nat → Nat} {ms : Nat → Nat → ByteArray} {i t j : Nat} {val1 val2 : Nat → Value} {L2 : Nat → List Nat} {v1 v2 : Value} (h : GSt w wr mb ob1 ob2 n ss ln ms i t val1 val2 L2) (hx : idxOf ss n (ms i t) = some j)
    (hg1 : Grid w1 ob1 n w.heap.size (upd val1 i v1) (upd (rowsTo ss n ln ms i t) i (rowsTo ss n ln ms i t i ++ [j]))) (hk1 : KB (GridIn ob1 n val1) wr w1) (hs1 : ∀ k, GridIn ob1 n (upd val1 i v1) k → GridIn ob1 n val1 k ∨ wr.heap.size ≤ k)
    (hg2 : Grid w2 ob2 n w.heap.size (upd val2 j v2) (upd L2 j (L2 j ++ [i]))) (hk2 : KB (GridIn ob2 n val2) w1 w2) (hs2 : ∀ k, GridIn ob2 n (upd val2 j v2) k → GridIn ob2 n val2 k ∨ w1.heap.size ≤ k)
    (hlo : ∀ k, GridIn ob1 n val1 k → w.heap.size ≤ k) (hlo2 : ∀ k, GridIn ob2 n val2 k → w.heap.size ≤ k) :
    GSt w w2 mb ob1 ob2 n ss ln ms i (t + 1) (upd val1 i v1) (upd val2 j v2) (upd L2 j (L2 j ++ [i])) := by
  have e := adjPre_succ_some hx
  have hmlt := h.map.lt
  have hap' : ∀ k, GridIn ob1 n (upd val1 i v1) k → ¬ GridIn ob2 n val2 k := fun k hk hk2' => by
    rcases hs1 k hk with h1 | h1
    · exact h.ap k h1 hk2'
    · have := h.g2.lt hk2'
      omega
  refine ⟨(h.map.keep hk1 h.m1).keep hk2 h.m2, ?_, hg2, fun k hk hk2' => ?_, fun hk => ?_, fun hk => ?_, fun j' q => ?_, fun j' hj' => ?_, ?_⟩
  · have hr : rowsTo ss n ln ms i (t + 1) = upd (rowsTo ss n ln ms i t) i (rowsTo ss n ln ms i t i ++ [j]) := by
      funext q
      by_cases h1 : q = i
      · subst h1
        rw [upd_same]
        simp [rowsTo, e]
      · rw [upd_other _ _ h1]
        simp [rowsTo, h1]
    rw [hr]
    exact hg1.keep hk2 hap'
  · rcases hs2 k hk2' with h1 | h1
    · exact hap' k hk h1
    · have := hg1.lt hk
      omega
  · rcases hs1 _ hk with h1 | h1
    · exact h.m1 h1
    · omega
  · rcases hs2 _ hk with h1 | h1
    · exact h.m2 h1
    · have := hk1.size
      omega
  · rw [e]
    by_cases h1 : j' = j
    · subst h1
      rw [upd_same, List.mem_append, h.rev j' q, List.mem_append]
      simp only [List.mem_singleton]
      constructor
      · rintro (hh | hh)
        · rcases hh with hh | hh
          · exact Or.inl hh
          · exact Or.inr ⟨hh.1, Or.inl hh.2⟩
        · exact Or.inr ⟨hh, Or.inr trivial⟩
      · rintro (hh | ⟨hh, _⟩)
        · exact Or.inl (Or.inl hh)
        · exact Or.inr hh
    · rw [upd_other _ _ h1, h.rev j' q, List.mem_append]
      simp [h1]
  · by_cases h1 : j' = j
    · subst h1
      rw [upd_same, List.length_append]
      have := h.len j' hj'
      simp
      omega
    · rw [upd_other _ _ h1]
      have := h.len j' hj'
      omega
  · have b1 : Below w.heap.size wr w1 := hk1.toBelow h.bel.size (fun k hk hm => by have := hlo k hm; omega)
    have b2 : Below w.heap.size w1 w2 := hk2.toBelow (Nat.le_trans h.bel.size hk1.size) (fun k hk hm => by have := hlo2 k hm; omega)
    exact (h.bel.trans b1).trans b2

/-- A grid's blocks are the call's own. -/
theorem Grid.low {w : World} {ob m lo : Nat} {val : Nat → Value} {L : Nat → List Nat} (h : Grid w ob m lo val L) (ho : lo ≤ ob) {k : Nat} (hk : GridIn ob m val k) : lo ≤ k := by
  rcases hk with rfl | ⟨i, hi, e⟩
  · exact ho
  · exact ((h.own i hi).lt k e).1

/-- Rows of integers, to be read. -/
structure IRows (w : World) (a : Option Addr) (n : Nat) (va : Nat → Option Addr) (vc : Nat → Nat) (L : Nat → List Nat) : Prop where
  outer : SlAt w a n fun i => .slice (va i) (L i).length (vc i)
  inner : ∀ i, i < n → SlAt w (va i) (L i).length fun j => .int .i64 (((L i).getD j 0 : Nat) : Int)

theorem IRows.below {w w' : World} {a : Option Addr} {n : Nat} {va : Nat → Option Addr} {vc : Nat → Nat} {L : Nat → List Nat} (h : IRows w a n va vc L) (hb : Below w.heap.size w w') : IRows w' a n va vc L :=
  ⟨h.outer.below hb, fun i hi => (h.inner i hi).below hb⟩

theorem Grid.rows {w : World} {ob m lo : Nat} {val : Nat → Value} {L : Nat → List Nat} (h : Grid w ob m lo val L) (hm : m < 4611686018427387904) (hL : ∀ i, i < m → (L i).length < 4611686018427387904) : ∃ va vc, IRows w (some ⟨ob, 0, none⟩) m va vc L := by
  classical
  have each : ∀ i, ∃ y : Option Addr × Nat, i < m → val i = .slice y.1 (L i).length y.2 ∧ SlAt w y.1 (L i).length (fun j => .int .i64 (((L i).getD j 0 : Nat) : Int)) := fun i => by
    by_cases hi : i < m
    · obtain ⟨a, c, h1, h2⟩ := ints_slAt (hL i hi) (h.own i hi)
      exact ⟨(a, c), fun _ => ⟨h1, h2⟩⟩
    · exact ⟨(none, 0), fun hh => absurd hh hi⟩
  refine ⟨fun i => (Classical.choose (each i)).1, fun i => (Classical.choose (each i)).2, ⟨hm, fun _ => ⟨ob, 0, rfl, h.row.lt, fun j hj => ?_⟩⟩, fun i hi => (Classical.choose_spec (each i) hi).2⟩
  rw [Nat.zero_add, h.row.cell hj]
  exact congrArg some (Classical.choose_spec (each j) hj).1

end Go.Proofs.Qxb6605609a
