/-
  zzComponents: its memory in the second pass.
-/
import Derived.Test.Qxb6605609aKosM
namespace Go.Proofs.Qxb6605609a
open Go.RowKit

/-- The components so far, those found by this search marked; what has been found. -/
structure P2 (W2 wx : World) (cb n : Nat) (comp : Nat → Int) (got : List Nat) (vg : Value) : Prop where
  row : wx.rowIs cb 3 n (fun x => .int .i64 (if x ∈ got then -2 else comp x))
  own : wx.ownsRow W2.heap.size 3 1 vg got.length (ints got)
  kb : KB (fun k => k = cb) W2 wx
  hcb : cb < W2.heap.size

theorem P2.ownSet {W2 wx : World} {cb n : Nat} {comp : Nat → Int} {got : List Nat} {vg : Value} (h : P2 W2 wx cb n comp got vg) (z : Nat) (u : Value) : (wx.setCell ⟨cb, z, none⟩ u).ownsRow W2.heap.size 3 1 vg got.length (ints got) :=
  ownsRow_keep h.own (KB.setCell (p := ⟨cb, z, none⟩) (KB.refl (fun k => k = cb) wx) (fun _ => rfl) u) (fun k e e2 => by
    have := (h.own.lt k e).1
    have := h.hcb
    omega)

theorem P2.found {W2 wx x1 : World} {cb n z g cap : Nat} {comp : Nat → Int} {got : List Nat} {vg : Value} (h : P2 W2 wx cb n comp got vg)
    (hown : x1.ownsRow W2.heap.size 3 1 (.slice (some ⟨g, 0, none⟩) (got.length + 1) cap) (got.length + 1) (ints got ++ [.int .i64 (z : Int)]))
    (hg : ((wx.setCell ⟨cb, z, none⟩ (.int .i64 (-2))).alloc (.cells #[.int .i64 (z : Int)] 3)).grownBy x1 vg.ownBlock) : P2 W2 x1 cb n comp (got ++ [z]) (.slice (some ⟨g, 0, none⟩) (got.length + 1) cap) := by
  have hk0 : KB (fun k => k = cb) W2 (wx.setCell ⟨cb, z, none⟩ (.int .i64 (-2))) := KB.setCell (p := ⟨cb, z, none⟩) h.kb (fun _ => rfl) _
  have hne : ∀ k, vg.ownBlock = some k → W2.heap.size ≤ k := fun k e => (h.own.lt k e).1
  refine ⟨?_, ?_, (hk0.alloc _).grown hg (fun k e hk => by have := hne k e; omega), h.hcb⟩
  · have hr := (h.row.set z (.int .i64 (-2))).congr (g := fun x => .int .i64 (if x ∈ got ++ [z] then -2 else comp x)) (fun j _ => by
      by_cases e : j = z
      · simp [e]
      · simp [e])
    have hk1 : KB (fun k => vg.ownBlock = some k) (wx.setCell ⟨cb, z, none⟩ (.int .i64 (-2))) x1 := ((KB.refl _ _).alloc _).grown hg (fun k e _ => e)
    exact rowIs_keep hr hk1 (fun e => by have := hne cb e; have := h.hcb; omega)
  · rw [List.length_append, ints_snoc]
    exact hown

theorem P2.start {W2 wx : World} {cb n r : Nat} {comp : Nat → Int} (hr : wx.rowIs cb 3 n (fun x => .int .i64 (comp x))) (hk : KB (fun k => k = cb) W2 wx) (hcb : cb < W2.heap.size) :
    P2 W2 ((wx.setCell ⟨cb, r, none⟩ (.int .i64 (-2))).alloc (.cells #[.int .i64 (r : Int)] 3)) cb n comp [r] (.slice (some ⟨wx.heap.size, 0, none⟩) 1 1) := by
  have hk0 : KB (fun k => k = cb) W2 (wx.setCell ⟨cb, r, none⟩ (.int .i64 (-2))) := KB.setCell (p := ⟨cb, r, none⟩) hk (fun _ => rfl) _
  have e1 : (wx.setCell ⟨cb, r, none⟩ (.int .i64 (-2))).heap.size = wx.heap.size := by simp
  refine ⟨?_, ⟨rfl, Or.inr ⟨wx.heap.size, 1, #[.int .i64 (r : Int)], rfl, hk.size, ?_, Nat.le_refl _, by unfold maxLen; omega, rfl, rfl⟩⟩, hk0.alloc _, hcb⟩
  · have := (hr.set r (.int .i64 (-2))).congr (g := fun x => .int .i64 (if x ∈ [r] then -2 else comp x)) (fun j _ => by
      by_cases e : j = r
      · simp [e]
      · simp [e])
    exact this.of_block (Below.heap_alloc _ _ _ (by rw [e1]; have := hk.size; omega))
  · have := Go.Deep.blk_alloc_new (wx.setCell ⟨cb, r, none⟩ (.int .i64 (-2))) (.cells #[.int .i64 (r : Int)] 3)
    rwa [e1] at this

/-- The least of a list. -/
theorem least_of : ∀ (l : List Nat) (m : Nat), (∀ i, i < l.length → m ≤ l.getD i 0) → ∀ x ∈ l, m ≤ x := fun l m h x hx => by
  obtain ⟨i, hi⟩ := List.getElem?_of_mem hx
  have hl := (List.getElem?_eq_some_iff.1 hi).1
  have := h i hl
  rw [List.getD_eq_getElem?_getD, hi] at this
  exact this

end Go.Proofs.Qxb6605609a
