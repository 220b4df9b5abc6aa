/-
  partHeap's METHODS: Push, Pop, Len, Less, Swap.
-/
import Derived.Test.Qxb6605609aOwn
import Derived.BigRegion
import Derived.Deep.AppendLies
import Derived.Deep.RegionLaw
namespace Go.Proofs.Qxb6605609a
open Go.RowKit

/-- Cell 0 of block hb holds the slice v of the integers l, in a block of the call's own. -/
structure HP (w : World) (lo hb : Nat) (v : Value) (l : List Nat) : Prop where
  cell : w.cell? ⟨hb, 0, none⟩ = some v
  froz : w.frozen? ⟨hb, 0, none⟩ = false
  own : IL w lo v l
  far : ∀ k, v.ownBlock = some k → k ≠ hb
  lt : hb < w.heap.size
  low : lo ≤ hb

theorem HP.drew {w : World} {lo hb : Nat} {v : Value} {l : List Nat} (h : HP w lo hb v l) : HP w.drew lo hb v l := ⟨h.cell, h.froz, h.own, h.far, h.lt, h.low⟩
theorem HP.keep {M : Nat → Prop} {w w' : World} {lo hb : Nat} {v : Value} {l : List Nat} (h : HP w lo hb v l) (hk : KB M w w') (hm : ∀ k, v.ownBlock = some k → ¬ M k) (hn : ¬ M hb) : HP w' lo hb v l :=
  ⟨(hk.cell (p := ⟨hb, 0, none⟩) h.lt hn).trans h.cell, (World.frozen?_of_block (hk.block hb h.lt hn)).trans h.froz, h.own.keep hk hm, h.far, Nat.lt_of_lt_of_le h.lt hk.size, h.low⟩

/-- The blocks of a heap. -/
def HB (hb : Nat) (v : Value) : Nat → Prop := fun k => k = hb ∨ v.ownBlock = some k

theorem assert3 (x : Int) (w : World) : (Instr.typeAssert (.iface 3 (.int .i64 x)) 20 3 false).run Try.prog w = .ok (.int .i64 x) w := by
  kernel_rfl


theorem HP.pushed {w w1 : World} {lo hb g cap x H : Nat} {v : Value} {l : List Nat} (h : HP w lo hb v l)
    (hown : w1.ownsRow lo 3 1 (.slice (some ⟨g, 0, none⟩) (l.length + 1) cap) (l.length + 1) (ints l ++ [.int .i64 (x : Int)]))
    (hg : (w.alloc (.cells #[.int .i64 (x : Int)] 3)).drew.grownBy w1 v.ownBlock) (hat : v.ownBlock = some g ∨ g = H) (hH : H = w.heap.size + 1) :
    w1.cell? ⟨hb, 0, none⟩ = some v ∧ w1.frozen? ⟨hb, 0, none⟩ = false ∧
    Hid (HP (w1.setCell ⟨hb, 0, none⟩ (.slice (some ⟨g, 0, none⟩) (l.length + 1) cap)) lo hb (.slice (some ⟨g, 0, none⟩) (l.length + 1) cap) (l ++ [x]) ∧
      KB (HB hb v) w (w1.setCell ⟨hb, 0, none⟩ (.slice (some ⟨g, 0, none⟩) (l.length + 1) cap)) ∧ ∀ k, HB hb (.slice (some ⟨g, 0, none⟩) (l.length + 1) cap) k → HB hb v k ∨ w.heap.size ≤ k) := by
  have hk1 : KB (fun k => v.ownBlock = some k) w w1 := ((KB.refl _ w).alloc _).drew.grown hg (fun k e _ => e)
  have hn : ¬ (v.ownBlock = some hb) := fun e => h.far hb e rfl
  have hc1 : w1.cell? ⟨hb, 0, none⟩ = some v := (hk1.cell (p := ⟨hb, 0, none⟩) h.lt hn).trans h.cell
  have hf1 : w1.frozen? ⟨hb, 0, none⟩ = false := (World.frozen?_of_block (hk1.block hb h.lt hn)).trans h.froz
  have hgb : g ≠ hb := by
    rcases hat with e | e
    · exact h.far g e
    · have := h.lt; omega
  have hlt1 : hb < w1.heap.size := Nat.lt_of_lt_of_le h.lt hk1.size
  refine ⟨hc1, hf1, ⟨?_, ?_, ?_, ?_, ?_, h.low⟩, ?_, ?_⟩
  · exact World.cell?_setCell_same _ _ _ hc1
  · rw [World.frozen?_setCell]; exact hf1
  · have := IL.pushed hown
    exact this.keep ((KB.refl (fun k => k = hb) w1).setCell (p := ⟨hb, 0, none⟩) (fun _ => rfl) _) (fun k e => by
      simp [Value.ownBlock] at e
      omega)
  · intro k e
    simp [Value.ownBlock] at e
    omega
  · simpa using hlt1
  · exact (hk1.mono (M' := HB hb v) (fun k _ e => Or.inr e)).setCell (p := ⟨hb, 0, none⟩) (fun _ => Or.inl rfl) _
  · intro k e
    rcases e with e | e
    · exact Or.inl (Or.inl e)
    · simp [Value.ownBlock] at e
      subst e
      rcases hat with e | e
      · exact Or.inl (Or.inr e)
      · exact Or.inr (by omega)

/-- A heap as it is behind a call: its blocks, what is kept. -/
def HPs (lo hb : Nat) (v : Value) (l : List Nat) (w w' : World) : Prop := ∃ v', HP w' lo hb v' l ∧ KB (HB hb v) w w' ∧ ∀ k, HB hb v' k → HB hb v k ∨ w.heap.size ≤ k

set_option maxHeartbeats 400000 in
theorem push107 (lo hb x : Nat) (v : Value) (l : List Nat) (w : World) (h : HP w lo hb v l) (hl : l.length < 1048576) (hlo : lo ≤ w.heap.size) :
    Calls Try.prog 107 #[.pointer (some ⟨hb, 0, none⟩), .iface 3 (.int .i64 (x : Int))] w fun e w' => e = .returned (.tuple #[]) ∧ HPs lo hb v (l ++ [x]) w w' := by
  obtain ⟨i0, hi0, hz0, hz1, hz2⟩ := info_parts info3
  have hc := h.cell
  have hc0 : (w.alloc (.cells #[.int .i64 (x : Int)] 3)).cell? ⟨hb, 0, none⟩ = some v := (((KB.refl (fun _ => False) w).alloc _).cell (p := ⟨hb, 0, none⟩) h.lt (fun h => h)).trans hc
  have ha := assert3 x
  go_enter Try.func107, Try.ntmps107
  go_wp2_with fail
  go_region_law (refine step_append_lies _ (by rfl) (.tmp 7) (.tmp 10) 61 (by rfl) lo 3 i0 _ 1 8 Try.underlying61 hi0 hz0 hz1 hz2 rfl (by omega) v l.length (ints l) (by simp [Act.eval]) (h.own.alloc _) ⟨w.heap.size, 0, none⟩ 1 1 [.int .i64 (x : Int)] (by simp [Act.eval]) (by rfl) (World.news_of_block (cs := #[.int .i64 (x : Int)]) (t := 3) (fr := (0, 0)) (heap_alloc_new _ _)) (by simp [Value.oneCell']) (by omega) (by unfold maxLen; omega) (by omega) (by simp; omega) (w.heap.size + 1) (by simp) ?_; intro g1 cap1 x1 hown1 hgrow1 hat1 hltg1; obtain ⟨hc2, hf2, HK⟩ := h.pushed hown1 hgrow1 hat1 rfl)
  all_goals (go_wp2_with fail; go_end0; exact ⟨rfl, _, HK.out.1, HK.out.2.1, HK.out.2.2⟩)

theorem IL.any {w : World} {lo : Nat} {v : Value} {l : List Nat} (h : IL w lo v l) : ∃ a c, v = .slice a l.length c := by
  rcases h.2 with ⟨rfl, h2⟩ | ⟨g, cap, cur, rfl, _⟩
  · exact ⟨none, 0, by rw [h2]⟩
  · exact ⟨_, _, rfl⟩

theorem len29 (lo : Nat) (v : Value) (l : List Nat) (w : World) (h : IL w lo v l) :
    Calls Try.prog 29 #[v] w fun e w' => e = .returned (.int .i64 (l.length : Int)) ∧ w' = w := by
  obtain ⟨a, c, rfl⟩ := h.any
  go_enter Try.func29, Try.ntmps29
  go_wp2
  go_ret
  exact ⟨rfl, rfl⟩

theorem elem61 {g cap : Nat} {l : List Nat} {i : Nat} (hi : i < l.length) (w : World) :
    (Instr.indexAt 61 (.slice (some ⟨g, 0, none⟩) l.length cap) (.int .i64 (i : Int))).run Try.prog w = .ok (.pointer (some ⟨g, i, none⟩)) w := by
  have h1 : (i : Int) < (l.length : Int) := by omega
  have h2 : (0 : Int) ≤ (i : Int) := by omega
  go_simp

theorem less105 (lo : Nat) (v : Value) (l : List Nat) (i j : Nat) (w : World) (h : IL w lo v l) (hi : i < l.length) (hj : j < l.length) :
    Calls Try.prog 105 #[v, .int .i64 (i : Int), .int .i64 (j : Int)] w fun e w' => e = .returned (.bool (decide (l.getD i 0 < l.getD j 0))) ∧ Below w.heap.size w w' := by
  obtain ⟨g, cap, rfl, _, _, _, hc⟩ := h.form (by omega)
  have h1 := (hc i hi).1
  have h2 := (hc j hj).1
  have hx1 := fun w => elem61 (g := g) (cap := cap) hi w
  have hx2 := fun w => elem61 (g := g) (cap := cap) hj w
  clear hc
  generalize l.getD i 0 = p at *
  generalize l.getD j 0 = q at *
  go_enter Try.func105, Try.ntmps105
  go_wp2_with fail
  go_quiet (fail)
  go_wp2_with fail
  go_ret
  exact ⟨rfl, below_drewN (Below.refl _ _) _⟩

/-- Two elements exchanged. -/
def swp (l : List Nat) (i j : Nat) : List Nat := (l.set i (l.getD j 0)).set j (l.getD i 0)
theorem swp_length (l : List Nat) (i j : Nat) : (swp l i j).length = l.length := by simp [swp]

theorem IL.set' {w : World} {lo g cap n : Nat} {l : List Nat} (h : IL w lo (.slice (some ⟨g, 0, none⟩) n cap) l) (hn : n = l.length) {i : Nat} (x : Nat) : IL (w.setCell ⟨g, i, none⟩ (.int .i64 (x : Int))) lo (.slice (some ⟨g, 0, none⟩) n cap) (l.set i x) := by
  subst hn
  exact h.set x

set_option maxHeartbeats 400000 in
theorem swap108 (lo hb : Nat) (v : Value) (l : List Nat) (i j : Nat) (w : World) (h : HP w lo hb v l) (hi : i < l.length) (hj : j < l.length) :
    Calls Try.prog 108 #[v, .int .i64 (i : Int), .int .i64 (j : Int)] w fun e w' => e = .returned (.tuple #[]) ∧ HP w' lo hb v (swp l i j) ∧ KB (HB hb v) w w' := by
  have hf := h.far
  have hcell := h.cell
  have hfroz := h.froz
  have hlt := h.lt
  obtain ⟨g, cap, rfl, _, _, _, hc⟩ := h.own.form (by omega)
  have hgb : g ≠ hb := hf g rfl
  have h1 := (hc i hi).1
  have h2 := (hc j hj).1
  have f1 := (hc i hi).2
  have f2 := (hc j hj).2
  have hx1 := fun w => elem61 (g := g) (cap := cap) hi w
  have hx2 := fun w => elem61 (g := g) (cap := cap) hj w
  have Hil : Hid (IL _ _ _ _) := (h.own.set' rfl (i := i) (l.getD j 0)).set' (by simp) (i := j) (l.getD i 0)
  have Hk : Hid (KB _ _ _) := (KB.setCell (p := ⟨g, j, none⟩) (KB.setCell (p := ⟨g, i, none⟩) (KB.refl (fun k => k = g) w) (fun _ => rfl) (.int .i64 (l.getD j 0 : Nat))) (fun _ => rfl) (.int .i64 (l.getD i 0 : Nat)))
  have Hres : Hid (HP _ _ _ _ _ ∧ KB _ _ _) := show _ ∧ _ from ⟨⟨(Hk.out.cell (p := ⟨hb, 0, none⟩) hlt (fun e => hgb e.symm)).trans hcell, (World.frozen?_of_block (Hk.out.block hb hlt (fun e => hgb e.symm))).trans hfroz, Hil.out, hf, Nat.lt_of_lt_of_le hlt Hk.out.size, h.low⟩, Hk.out.mono (M' := HB hb (.slice (some ⟨g, 0, none⟩) l.length cap)) (fun k _ e => Or.inr (by rw [e]; rfl))⟩
  obtain ⟨y, h3⟩ := cell?_setCell_some (w := w) (p := ⟨g, i, none⟩) (x := .int .i64 (l.getD j 0 : Nat)) (q := ⟨g, j, none⟩) h2
  have f3 : (w.setCell ⟨g, i, none⟩ (.int .i64 (l.getD j 0 : Nat))).frozen? ⟨g, j, none⟩ = false := by rw [World.frozen?_setCell]; exact f2
  clear hc hf h Hil Hk hcell hfroz
  change Hid (HP _ lo hb _ (swp l i j) ∧ _) at Hres
  generalize l.getD i 0 = p at *
  generalize l.getD j 0 = q at *
  go_enter Try.func108, Try.ntmps108
  go_wp2_with fail
  go_region
  all_goals (go_wp2_with fail; go_end0; exact ⟨rfl, Hres.out.1.drew, Hres.out.2.drew⟩)

theorem HPs.drewN {lo hb n : Nat} {v u : Value} {l : List Nat} {w : World} {p : Addr} (h : HPs lo hb v l w (w.setCell p u)) : HPs lo hb v l w ((w.drewN n).setCell p u) := by
  obtain ⟨v', h1, h2, h3⟩ := h
  have hk : KB (fun _ => False) (w.setCell p u) ((w.drewN n).setCell p u) := ⟨rfl, rfl, rfl, Nat.le_refl _, fun _ _ _ => rfl⟩
  exact ⟨v', h1.keep hk (fun _ _ h => h) (fun h => h), h2.trans hk (fun _ _ h => h.elim), h3⟩

set_option maxHeartbeats 400000 in
theorem pop106 (lo hb x : Nat) (v : Value) (l : List Nat) (w : World) (h : HP w lo hb v (l ++ [x])) (hlen : l.length < 1048576) :
    Calls Try.prog 106 #[.pointer (some ⟨hb, 0, none⟩)] w fun e w' => e = .returned (.iface 3 (.int .i64 (x : Int))) ∧ HPs lo hb v l w w' := by
  have hf := h.far
  have hcell := h.cell
  have hfroz := h.froz
  have hlt := h.lt
  obtain ⟨g, cap, rfl, _, _, hcap, hc⟩ := h.own.form (by simp)
  have hgb : g ≠ hb := hf g rfl
  have h1 := (hc l.length (by simp)).1
  have e1 : (l ++ [x]).getD l.length 0 = x := by simp
  rw [e1] at h1
  have hcut := h.own.cut (m := l.length) (by simp)
  have e2 : (l ++ [x]).take l.length = l := by simp
  rw [e2] at hcut
  have e3 : (l ++ [x]).length = l.length + 1 := by simp
  rw [e3] at hcell hcap ⊢
  have hk := KB.setCell (p := ⟨hb, 0, none⟩) (KB.refl (fun k => k = hb) w) (fun _ => rfl) (.slice (some ⟨g, 0, none⟩) l.length cap)
  have Hres : Hid (HPs lo hb (.slice (some ⟨g, 0, none⟩) (l.length + 1) cap) l w (w.setCell ⟨hb, 0, none⟩ (.slice (some ⟨g, 0, none⟩) l.length cap))) :=
    ⟨.slice (some ⟨g, 0, none⟩) l.length cap, ⟨World.cell?_setCell_same _ _ _ hcell, by rw [World.frozen?_setCell]; exact hfroz, hcut.keep hk (fun k e => by simp [Value.ownBlock] at e; omega), fun k e => by simp [Value.ownBlock] at e; omega, by simpa using hlt, h.low⟩, hk.mono (fun k _ e => Or.inl e), fun k e => Or.inl (by
      rcases e with e | e
      · exact Or.inl e
      · exact Or.inr (by simpa [Value.ownBlock] using e))⟩
  have hx : ∀ w : World, (Instr.indexAt 61 (.slice (some ⟨g, 0, none⟩) (l.length + 1) cap) (.int .i64 (l.length : Int))).run Try.prog w = .ok (.pointer (some ⟨g, l.length, none⟩)) w := fun w => by
    have h1 : (l.length : Int) < (l.length : Int) + 1 := by omega
    have h2 : (0 : Int) ≤ (l.length : Int) := by omega
    have h3 : ¬ ((l.length : Int) + 1 ≤ (l.length : Int)) := by omega
    go_simp
  have b1 : (0 : Int) ≤ (l.length : Int) := by omega
  have b2 : (l.length : Int) ≤ (cap : Int) := by omega
  clear hc hf h hcut hk e1 e2 e3
  generalize l.length = n at *
  go_enter Try.func106, Try.ntmps106
  go_wp2_with fail
  go_quiet (fail)
  go_wp2_with fail
  go_region
  all_goals (go_wp2_with fail; go_ret; exact ⟨rfl, Hres.out.drewN⟩)

end Go.Proofs.Qxb6605609a
