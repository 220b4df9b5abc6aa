/-
  zzComponents: its memory in the first pass.
-/
import Derived.Test.Qxb6605609aOwn
import Derived.Test.Qxb6605609aMu
namespace Go.Proofs.Qxb6605609a
open Go.RowKit

def sel3 {α : Type} (a b c : α) (i : Nat) : α := if i = 0 then a else if i = 1 then b else c
theorem sel3_upd0 {α : Type} (a b c x : α) (i : Nat) : sel3 x b c i = upd (sel3 a b c) 0 x i := by
  unfold sel3 upd
  by_cases h : i = 0 <;> simp [h]
theorem sel3_upd1 {α : Type} (a b c x : α) (i : Nat) : sel3 a x c i = upd (sel3 a b c) 1 x i := by
  unfold sel3 upd
  by_cases h : i = 0
  · simp [h]
  · by_cases h1 : i = 1 <;> simp [h, h1]
theorem sel3_upd2 {α : Type} (a b c x : α) (i : Nat) (hi : i < 3) : sel3 a b x i = upd (sel3 a b c) 2 x i := by
  unfold sel3 upd
  by_cases h : i = 0
  · simp [h]
  · by_cases h1 : i = 1
    · simp [h1]
    · have h2 : i = 2 := by omega
      simp [h2]

/-- What is visited; the order; the stack's nodes; its edges. -/
structure KM (w wr : World) (vb n : Nat) (vis : List Nat) (vo vn ve : Value) (o nn ee : List Nat) : Prop where
  fam : Fam wr w.heap.size 3 (sel3 vo vn ve) (sel3 o nn ee) (fun k => k = vb)
  row : wr.rowIs vb 4 n (fun x => .bool (decide (x ∈ vis)))
  bel : Below w.heap.size w wr
  hvb : w.heap.size ≤ vb

theorem KM.vis_congr {w wr : World} {vb n : Nat} {vis vis' : List Nat} {vo vn ve : Value} {o nn ee : List Nat} (h : KM w wr vb n vis vo vn ve o nn ee) (hv : ∀ x, x ∈ vis ↔ x ∈ vis') : KM w wr vb n vis' vo vn ve o nn ee :=
  ⟨h.fam, h.row.congr (fun j _ => by simp [hv j]), h.bel, h.hvb⟩

theorem KM.moved {M : Nat → Prop} {w wr w1 : World} {vb n : Nat} {vis : List Nat} {vo vn ve vo' vn' ve' : Value} {o nn ee o' nn' ee' : List Nat} (h : KM w wr vb n vis vo vn ve o nn ee) (hf : Fam w1 w.heap.size 3 (sel3 vo' vn' ve') (sel3 o' nn' ee') (fun k => k = vb)) (hk : KB M wr w1)
    (hM : ∀ k, M k → ∃ i, i < 3 ∧ (sel3 vo vn ve i).ownBlock = some k) : KM w w1 vb n vis vo' vn' ve' o' nn' ee' := by
  refine ⟨hf, rowIs_keep h.row hk (fun hm => ?_), h.bel.trans (hk.toBelow h.bel.size (fun k hk' hm => ?_)), h.hvb⟩
  · obtain ⟨i, hi, e⟩ := hM vb hm
    exact h.fam.prot i hi vb e rfl
  · obtain ⟨i, hi, e⟩ := hM k hm
    have := (h.fam.lt hi e).1
    omega

theorem KM.visit {w wr : World} {vb n : Nat} {vis : List Nat} {vo vn ve : Value} {o nn ee : List Nat} (h : KM w wr vb n vis vo vn ve o nn ee) (z : Nat) : KM w (wr.setCell ⟨vb, z, none⟩ (.bool true)) vb n (z :: vis) vo vn ve o nn ee := by
  have hk : KB (fun k => k = vb) wr (wr.setCell ⟨vb, z, none⟩ (.bool true)) := KB.setCell (p := ⟨vb, z, none⟩) (KB.refl (fun k => k = vb) wr) (fun _ => rfl) _
  refine ⟨h.fam.keep hk (fun i hi k e => h.fam.prot i hi k e), (h.row.set z (.bool true)).congr (fun j _ => ?_), h.bel.setCell (p := ⟨vb, z, none⟩) h.hvb _, h.hvb⟩
  by_cases e : j = z
  · simp [e]
  · simp [e]

theorem KM.pushO {w wr w1 : World} {vb n : Nat} {vis : List Nat} {vo vn ve : Value} {o nn ee : List Nat} {x g cap H : Nat} (h : KM w wr vb n vis vo vn ve o nn ee)
    (hown : w1.ownsRow w.heap.size 3 1 (.slice (some ⟨g, 0, none⟩) (o.length + 1) cap) (o.length + 1) (ints o ++ [.int .i64 (x : Int)]))
    (hg : (wr.alloc (.cells #[.int .i64 (x : Int)] 3)).grownBy w1 vo.ownBlock) (hat : vo.ownBlock = some g ∨ g = H) (hH : H = wr.heap.size + 1) : KM w w1 vb n vis (.slice (some ⟨g, 0, none⟩) (o.length + 1) cap) vn ve (o ++ [x]) nn ee := by
  obtain ⟨hf, hk⟩ := h.fam.push (i := 0) (by omega) hown hg hat hH
  exact h.moved (hf.congr (fun i _ => sel3_upd0 vo vn ve _ i) (fun i _ => sel3_upd0 o nn ee _ i)) hk (fun k e => ⟨0, by omega, e⟩)
theorem KM.pushN {w wr w1 : World} {vb n : Nat} {vis : List Nat} {vo vn ve : Value} {o nn ee : List Nat} {x g cap H : Nat} (h : KM w wr vb n vis vo vn ve o nn ee)
    (hown : w1.ownsRow w.heap.size 3 1 (.slice (some ⟨g, 0, none⟩) (nn.length + 1) cap) (nn.length + 1) (ints nn ++ [.int .i64 (x : Int)]))
    (hg : (wr.alloc (.cells #[.int .i64 (x : Int)] 3)).grownBy w1 vn.ownBlock) (hat : vn.ownBlock = some g ∨ g = H) (hH : H = wr.heap.size + 1) : KM w w1 vb n vis vo (.slice (some ⟨g, 0, none⟩) (nn.length + 1) cap) ve o (nn ++ [x]) ee := by
  obtain ⟨hf, hk⟩ := h.fam.push (i := 1) (by omega) hown hg hat hH
  exact h.moved (hf.congr (fun i _ => sel3_upd1 vo vn ve _ i) (fun i _ => sel3_upd1 o nn ee _ i)) hk (fun k e => ⟨1, by omega, e⟩)
theorem KM.pushE {w wr w1 : World} {vb n : Nat} {vis : List Nat} {vo vn ve : Value} {o nn ee : List Nat} {x g cap H : Nat} (h : KM w wr vb n vis vo vn ve o nn ee)
    (hown : w1.ownsRow w.heap.size 3 1 (.slice (some ⟨g, 0, none⟩) (ee.length + 1) cap) (ee.length + 1) (ints ee ++ [.int .i64 (x : Int)]))
    (hg : (wr.alloc (.cells #[.int .i64 (x : Int)] 3)).grownBy w1 ve.ownBlock) (hat : ve.ownBlock = some g ∨ g = H) (hH : H = wr.heap.size + 1) : KM w w1 vb n vis vo vn (.slice (some ⟨g, 0, none⟩) (ee.length + 1) cap) o nn (ee ++ [x]) := by
  obtain ⟨hf, hk⟩ := h.fam.push (i := 2) (by omega) hown hg hat hH
  exact h.moved (hf.congr (fun i hi => sel3_upd2 vo vn ve _ i hi) (fun i hi => sel3_upd2 o nn ee _ i hi)) hk (fun k e => ⟨2, by omega, e⟩)
theorem KM.cutN {w wr : World} {vb n : Nat} {vis : List Nat} {vo ve : Value} {o nn ee : List Nat} {g cap t : Nat} (h : KM w wr vb n vis vo (.slice (some ⟨g, 0, none⟩) nn.length cap) ve o nn ee) (ht : t ≤ nn.length) : KM w wr vb n vis vo (.slice (some ⟨g, 0, none⟩) t cap) ve o (nn.take t) ee :=
  ⟨(h.fam.cut (i := 1) (by omega) rfl ht).congr (fun i _ => sel3_upd1 vo _ ve _ i) (fun i _ => sel3_upd1 o nn ee _ i), h.row, h.bel, h.hvb⟩
theorem KM.cutE {w wr : World} {vb n : Nat} {vis : List Nat} {vo vn : Value} {o nn ee : List Nat} {g cap t : Nat} (h : KM w wr vb n vis vo vn (.slice (some ⟨g, 0, none⟩) ee.length cap) o nn ee) (ht : t ≤ ee.length) : KM w wr vb n vis vo vn (.slice (some ⟨g, 0, none⟩) t cap) o nn (ee.take t) :=
  ⟨(h.fam.cut (i := 2) (by omega) rfl ht).congr (fun i hi => sel3_upd2 vo vn _ _ i hi) (fun i hi => sel3_upd2 o nn ee _ i hi), h.row, h.bel, h.hvb⟩
theorem KM.setE {w wr : World} {vb n : Nat} {vis : List Nat} {vo vn : Value} {o nn ee : List Nat} {g cap t : Nat} (h : KM w wr vb n vis vo vn (.slice (some ⟨g, 0, none⟩) ee.length cap) o nn ee) (x : Nat) : KM w (wr.setCell ⟨g, t, none⟩ (.int .i64 (x : Int))) vb n vis vo vn (.slice (some ⟨g, 0, none⟩) ee.length cap) o nn (ee.set t x) := by
  obtain ⟨hf, hk⟩ := h.fam.set (i := 2) (t := t) (by omega) rfl x
  exact h.moved (hf.congr (fun _ _ => rfl) (fun i hi => sel3_upd2 o nn ee _ i hi)) hk (fun k e => ⟨2, by omega, e⟩)

theorem KM.popN {w wr : World} {vb n : Nat} {vis : List Nat} {vo ve : Value} {o nn ee : List Nat} {g cap k x : Nat} (h : KM w wr vb n vis vo (.slice (some ⟨g, 0, none⟩) (k + 1) cap) ve o (nn ++ [x]) ee) (hk : nn.length = k) : KM w wr vb n vis vo (.slice (some ⟨g, 0, none⟩) k cap) ve o nn ee := by
  have hl : (nn ++ [x]).length = k + 1 := by simp [hk]
  rw [← hl] at h
  have := h.cutN (t := k) (by omega)
  rwa [List.take_left' hk] at this
theorem KM.popE {w wr : World} {vb n : Nat} {vis : List Nat} {vo vn : Value} {o nn ee : List Nat} {g cap k x : Nat} (h : KM w wr vb n vis vo vn (.slice (some ⟨g, 0, none⟩) (k + 1) cap) o nn (ee ++ [x])) (hk : ee.length = k) : KM w wr vb n vis vo vn (.slice (some ⟨g, 0, none⟩) k cap) o nn ee := by
  have hl : (ee ++ [x]).length = k + 1 := by simp [hk]
  rw [← hl] at h
  have := h.cutE (t := k) (by omega)
  rwa [List.take_left' hk] at this
theorem KM.topE {w wr : World} {vb n : Nat} {vis : List Nat} {vo vn : Value} {o nn ee : List Nat} {g cap k x : Nat} (h : KM w wr vb n vis vo vn (.slice (some ⟨g, 0, none⟩) (k + 1) cap) o nn (ee ++ [x])) (hk : ee.length = k) (y : Nat) : KM w (wr.setCell ⟨g, k, none⟩ (.int .i64 (y : Int))) vb n vis vo vn (.slice (some ⟨g, 0, none⟩) (k + 1) cap) o nn (ee ++ [y]) := by
  have hl : (ee ++ [x]).length = k + 1 := by simp [hk]
  rw [← hl] at h ⊢
  have := h.setE (t := k) y
  rwa [List.set_append_right _ _ (by omega), hk, Nat.sub_self, List.set_cons_zero] at this

theorem KM.ownO {w wr : World} {vb n : Nat} {vis : List Nat} {vo vn ve : Value} {o nn ee : List Nat} (h : KM w wr vb n vis vo vn ve o nn ee) : wr.ownsRow w.heap.size 3 1 vo o.length (ints o) := h.fam.own 0 (by omega)
theorem KM.ownN {w wr : World} {vb n : Nat} {vis : List Nat} {vo vn ve : Value} {o nn ee : List Nat} (h : KM w wr vb n vis vo vn ve o nn ee) : wr.ownsRow w.heap.size 3 1 vn nn.length (ints nn) := h.fam.own 1 (by omega)
theorem KM.ownE {w wr : World} {vb n : Nat} {vis : List Nat} {vo vn ve : Value} {o nn ee : List Nat} (h : KM w wr vb n vis vo vn ve o nn ee) : wr.ownsRow w.heap.size 3 1 ve ee.length (ints ee) := h.fam.own 2 (by omega)

theorem nodup_len : ∀ (n : Nat) (l : List Nat), l.Nodup → (∀ x ∈ l, x < n) → l.length ≤ n
  | 0, l, _, h => by
    cases l with
    | nil => simp
    | cons a r => have := h a (List.mem_cons_self ..); omega
  | n + 1, l, hnd, h => by
    have h1 := nodup_len n (l.erase n) (hnd.erase n) (fun x hx => by
      obtain ⟨h1, h2⟩ := hnd.mem_erase_iff.1 hx
      have := h x h2
      omega)
    by_cases e : n ∈ l
    · rw [List.length_erase_of_mem e] at h1
      omega
    · rw [List.erase_of_not_mem e] at h1
      omega

theorem info4 : (Try.prog.info? 4).map (fun i => (i.zero, i.size, i.bytes)) = some (some (.bool false), 1, 1) := by kernel_rfl
def madeBools (n : Nat) : Array Value := madeCells #[.bool false] n
theorem makeBools (n : Nat) (hn : n ≤ 1048576) (w : World) : (Instr.makeSlice 55 (.int .i64 n) (.int .i64 n)).run Try.prog w = .ok (.slice (some ⟨w.heap.size, 0, none⟩) n n) (w.alloc (.cells (madeBools n) 4)) :=
  run_make_row' (P := Try.prog) 55 4 (.bool false) 1 Try.underlying55 info4 rfl .i64 .i64 n (by omega) (by omega) w
theorem makeOrder (n : Nat) (hn : n ≤ 4096) (w : World) : (Instr.makeSlice 43 (.int .i64 0) (.int .i64 n)).run Try.prog w = .ok (.slice (some ⟨w.heap.size, 0, none⟩) 0 n) (w.alloc (.cells (madeInts n) 3)) := by
  obtain ⟨i, hi, hzz⟩ := Option.map_eq_some_iff.1 info3
  simp only [Prod.mk.injEq] at hzz
  obtain ⟨hz, hs, hb⟩ := hzz
  have hr := run_make (P := Try.prog) w 43 3 i _ Try.underlying43 hi hz .i64 .i64 0 n (by omega) (by omega) (by rw [hb]; omega) (by omega)
  rw [hs] at hr
  simpa [madeInts, Value.cells] using hr

theorem KM.start (w : World) (n : Nat) (hn : n ≤ 4096) : KM w ((w.alloc (.cells (madeBools n) 4)).alloc (.cells (madeInts n) 3)) w.heap.size n [] (.slice (some ⟨w.heap.size + 1, 0, none⟩) 0 n) (.slice none 0 0) (.slice none 0 0) [] [] [] := by
  have e1 : (w.alloc (.cells (madeBools n) 4)).heap.size = w.heap.size + 1 := by simp
  have hb := (((Below.refl w.heap.size w).alloc (Nat.le_refl _) (.cells (madeBools n) 4)).alloc (by simp) (.cells (madeInts n) 3))
  have hk : KB (fun _ => False) (w.alloc (.cells (madeBools n) 4)) ((w.alloc (.cells (madeBools n) 4)).alloc (.cells (madeInts n) 3)) := (KB.refl _ _).alloc _
  have hr := rowIs_keep (World.rowIs_made w (.bool false) n 4) hk id
  refine ⟨⟨fun i hi => ?_, fun i j hi hj hne k e => ?_, fun i hi k e => ?_, fun k e => by subst e; simp; omega⟩, hr.congr (fun j _ => by simp), hb, Nat.le_refl _⟩
  · have h3 : i = 0 ∨ i = 1 ∨ i = 2 := by omega
    rcases h3 with rfl | rfl | rfl
    · refine ⟨rfl, Or.inr ⟨w.heap.size + 1, n, madeInts n, rfl, by omega, ?_, Nat.zero_le _, by unfold maxLen; omega, by rw [madeInts, size_madeCells]; omega, by simp [sel3, ints]⟩⟩
      have := Go.Deep.blk_alloc_new (w.alloc (.cells (madeBools n) 4)) (.cells (madeInts n) 3)
      rwa [e1] at this
    · exact IL.nil _ _
    · exact IL.nil _ _
  · have h3 : i = 0 ∨ i = 1 ∨ i = 2 := by omega
    have h4 : j = 0 ∨ j = 1 ∨ j = 2 := by omega
    rcases h3 with rfl | rfl | rfl <;> rcases h4 with rfl | rfl | rfl <;> simp [sel3, Value.ownBlock] at e hne ⊢
  · have h3 : i = 0 ∨ i = 1 ∨ i = 2 := by omega
    rcases h3 with rfl | rfl | rfl <;> simp [sel3, Value.ownBlock] at e ⊢
    omega

end Go.Proofs.Qxb6605609a
