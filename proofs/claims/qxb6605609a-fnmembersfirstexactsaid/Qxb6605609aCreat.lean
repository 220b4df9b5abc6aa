/-
  zzCreations: the creations of one write.
-/
import Derived.Test.Qxb6605609aClone
import Derived.Deep.RegionHeld3
namespace Go.Proofs.Qxb6605609a
open Go.RowKit

theorem info50 : (Try.prog.info? 50).map (fun i => (i.zero, i.size, i.bytes)) = some (some (.agg #[.int .i64 0, .pointer none, .pointer none, .pointer none, .pointer none]), 5, 40) := by kernel_rfl

/-- n zero changes. -/
def madeChs (n : Nat) : Array Value := madeCells #[.int .i64 0, .pointer none, .pointer none, .pointer none, .pointer none] (n * 5)

theorem makeChs (n : Nat) (hn : n ≤ 4096) (w : World) : (Instr.makeSlice 37 (.int .i64 n) (.int .i64 n)).run Try.prog w = .ok (.slice (some ⟨w.heap.size, 0, none⟩) n n) (w.alloc (.cells (madeChs n) 50)) := by
  obtain ⟨i, hi, hzz⟩ := Option.map_eq_some_iff.1 info50
  simp only [Prod.mk.injEq] at hzz
  obtain ⟨hz, hs, hb⟩ := hzz
  have hr := run_make (P := Try.prog) w 37 50 i _ Try.underlying37 hi hz .i64 .i64 n n (by omega) (Int.le_refl _) (by rw [hb]; omega) (by omega)
  rw [hs] at hr
  simpa [madeChs, Value.cells] using hr

/-- Cell j of a row of creations: gb i: the block of group i. -/
def chCell (gb : Nat → Nat) (j : Nat) : Value := if j % 5 = 0 then .int .i64 0 else if j % 5 = 4 then .pointer (some ⟨gb (j / 5), 0, none⟩) else .pointer none
def zeroCh (j : Nat) : Value := if j % 5 = 0 then .int .i64 0 else .pointer none

theorem madeChs_row (w : World) (n : Nat) : (w.alloc (.cells (madeChs n) 50)).rowIs w.heap.size 50 (n * 5) zeroCh := by
  refine ⟨_, Go.Deep.blk_alloc_new _ _, size_madeCells _ _, fun i hi => ?_⟩
  have h3 : i % 5 = 0 ∨ i % 5 = 1 ∨ i % 5 = 2 ∨ i % 5 = 3 ∨ i % 5 = 4 := by omega
  rcases h3 with h | h | h | h | h <;> simp [madeChs, madeCells, hi, h, zeroCh]

/-- A group that the law makes. -/
def grpObj (s : ByteArray) (a : Option Addr) (n c : Nat) : Obj := .cells #[.string s, .slice none 0 0, .slice a n c, .slice none 0 0, .slice none 0 0] 52

/-- The creations, in the block cb. -/
structure Created (w : World) (cb n : Nat) (gb : Nat → Nat) (ss : Nat → ByteArray) (la : Nat → Option Addr) (ln lc : Nat → Nat) (ms : Nat → Nat → ByteArray) : Prop where
  row : w.rowIs cb 50 (n * 5) (chCell gb)
  grp : ∀ i, i < n → w.heap[gb i]? = some (grpObj (ss i) (la i) (ln i) (lc i))
  mem : ∀ i, i < n → SlAt w (la i) (ln i) fun j => .string (ms i j)

theorem Created.below {w w' : World} {cb n : Nat} {gb : Nat → Nat} {ss : Nat → ByteArray} {la : Nat → Option Addr} {ln lc : Nat → Nat} {ms : Nat → Nat → ByteArray} (h : Created w cb n gb ss la ln lc ms) (hb : Below w.heap.size w w') : Created w' cb n gb ss la ln lc ms :=
  ⟨h.row.of_block (hb.block cb h.row.lt), fun i hi => by
    obtain ⟨hlt, _⟩ := Array.getElem?_eq_some_iff.1 (h.grp i hi)
    rw [hb.block (gb i) hlt]
    exact h.grp i hi, fun i hi => (h.mem i hi).below hb⟩

theorem chStep (gb : Nat → Nat) (k g : Nat) (j : Nat) : (if j = k * 5 + 4 then Value.pointer (some ⟨g, 0, none⟩) else if j = k * 5 + 3 then .pointer none else if j = k * 5 + 2 then .pointer none else if j = k * 5 + 1 then .pointer none else if j = k * 5 then .int .i64 0 else (if j < k * 5 then chCell gb j else zeroCh j)) =
    (if j < (k + 1) * 5 then chCell (fun i => if i = k then g else gb i) j else zeroCh j) := by
  by_cases e4 : j = k * 5 + 4
  · subst e4
    rw [if_pos rfl, if_pos (by omega), chCell, if_neg (by omega), if_pos (by omega), show (k * 5 + 4) / 5 = k by omega, if_pos rfl]
  rw [if_neg e4]
  by_cases e3 : j = k * 5 + 3
  · subst e3
    rw [if_pos rfl, if_pos (by omega), chCell, if_neg (by omega), if_neg (by omega)]
  rw [if_neg e3]
  by_cases e2 : j = k * 5 + 2
  · subst e2
    rw [if_pos rfl, if_pos (by omega), chCell, if_neg (by omega), if_neg (by omega)]
  rw [if_neg e2]
  by_cases e1 : j = k * 5 + 1
  · subst e1
    rw [if_pos rfl, if_pos (by omega), chCell, if_neg (by omega), if_neg (by omega)]
  rw [if_neg e1]
  by_cases e0 : j = k * 5
  · subst e0
    rw [if_pos rfl, if_pos (by omega), chCell, if_pos (by omega)]
  rw [if_neg e0]
  by_cases e : j < k * 5
  · rw [if_pos e, if_pos (by omega)]
    unfold chCell
    have : j / 5 ≠ k := by omega
    simp [this]
  · rw [if_neg e, if_neg (by omega)]

/-- What zzCreations hands back. -/
def CreatRes (w w' : World) (n : Nat) (ss : Nat → ByteArray) (la : Nat → Option Addr) (ln lc : Nat → Nat) (ms : Nat → Nat → ByteArray) (e : Ending) : Prop :=
  e = .returned (.slice (some ⟨w.heap.size, 0, none⟩) n n) ∧ ∃ gb, Created w' w.heap.size n gb ss la ln lc ms ∧ ∀ i j, i < n → j < n → gb i = gb j → i = j

set_option maxRecDepth 100000 in
set_option maxHeartbeats 1000000 in
theorem creat18 (a a1 : Option Addr) (n c c1 : Nat) (ss : Nat → ByteArray) (la : Nat → Option Addr) (ln lc : Nat → Nat) (ms : Nat → Nat → ByteArray) (w : World) (hn : n ≤ 4096) (hs : SlAt w a n fun j => .string (ss j)) (hL : Lists w a1 n la ln lc ms) :
    Calls Try.prog 18 #[.slice a n c, .slice a1 n c1] w fun e w' => CreatRes w w' n ss la ln lc ms e ∧ Below w.heap.size w w' := by
  have hmk := makeChs n hn
  go_enter Try.func18, Try.ntmps18
  go_wp2
  clear hmk
  go_loopw [6] (fun i wr => ∃ (k : Nat) (gb : Nat → Nat), k ≤ n ∧ i = .int .i64 k ∧ Hid (wr.rowIs w.heap.size 50 (n * 5) (fun j => if j < k * 5 then chCell gb j else zeroCh j)) ∧
    Hid (∀ i, i < k → wr.heap[gb i]? = some (grpObj (ss i) (la i) (ln i) (lc i)) ∧ w.heap.size < gb i) ∧ Hid (∀ i j, i < k → j < k → gb i = gb j → i = j) ∧ Below w.heap.size w wr ∧ w.heap.size < wr.heap.size) (fun i _ => n - (intOf i).toNat)
  case atStart => exact ⟨0, fun _ => 0, Nat.zero_le _, rfl, (madeChs_row w n).congr (fun j _ => by simp), fun j hj => by omega, fun i j hi => by omega, (Below.refl _ _).alloc (Nat.le_refl _) _, by simp⟩
  case round =>
    obtain ⟨k, gb, hk, rfl, hrw, hgr, hinj, hbl, hsz⟩ := hrel
    by_cases hlt : k < n
    · obtain ⟨b1, o1, hb1, hix1, hc1'⟩ := hs.elem22 hlt c
      obtain ⟨b2, o2, hb2, hix2, hc2'⟩ := hL.outer.elem23 hlt c1
      have hc1 : wr.cell? ⟨b1, o1, none⟩ = some (.string (ss k)) := (hbl.cell (p := ⟨b1, o1, none⟩) hb1).trans hc1'
      have hc2 : wr.cell? ⟨b2, o2, none⟩ = some (.slice (la k) (ln k) (lc k)) := (hbl.cell (p := ⟨b2, o2, none⟩) hb2).trans hc2'
      have k0 := hrw.out.cell (i := k * 5) (by omega)
      have k1 := hrw.out.cell (i := k * 5 + 1) (by omega)
      have k2 := hrw.out.cell (i := k * 5 + 2) (by omega)
      have k3 := hrw.out.cell (i := k * 5 + 3) (by omega)
      have k4 := hrw.out.cell (i := k * 5 + 4) (by omega)
      have f0 := hrw.out.frozen (k * 5)
      have f1 := hrw.out.frozen (k * 5 + 1)
      have f2 := hrw.out.frozen (k * 5 + 2)
      have f3 := hrw.out.frozen (k * 5 + 3)
      have f4 := hrw.out.frozen (k * 5 + 4)
      clear hc1' hc2'
      have hrow2 := (((((hrw.out.set (k * 5) (.int .i64 0)).set (k * 5 + 1) (.pointer none)).set (k * 5 + 2) (.pointer none)).set (k * 5 + 3) (.pointer none)).set (k * 5 + 4) (.pointer (some ⟨wr.heap.size, 0, none⟩))).congr (g := fun j => if j < (k + 1) * 5 then chCell (fun i => if i = k then wr.heap.size else gb i) j else zeroCh j) (fun j _ => chStep gb k wr.heap.size j)
      have hbl2 := ((((hbl.setCell (p := ⟨w.heap.size, k * 5, none⟩) (Nat.le_refl _) (.int .i64 0)).setCell (p := ⟨w.heap.size, k * 5 + 1, none⟩) (Nat.le_refl _) (.pointer none)).setCell (p := ⟨w.heap.size, k * 5 + 2, none⟩) (Nat.le_refl _) (.pointer none)).setCell (p := ⟨w.heap.size, k * 5 + 3, none⟩) (Nat.le_refl _) (.pointer none)).setCell (p := ⟨w.heap.size, k * 5 + 4, none⟩) (Nat.le_refl _) (.pointer (some ⟨wr.heap.size, 0, none⟩))
      have hk2 : ∀ q, q ≠ w.heap.size → (((((wr.setCell ⟨w.heap.size, k * 5, none⟩ (.int .i64 0)).setCell ⟨w.heap.size, k * 5 + 1, none⟩ (.pointer none)).setCell ⟨w.heap.size, k * 5 + 2, none⟩ (.pointer none)).setCell ⟨w.heap.size, k * 5 + 3, none⟩ (.pointer none)).setCell ⟨w.heap.size, k * 5 + 4, none⟩ (.pointer (some ⟨wr.heap.size, 0, none⟩))).heap[q]? = wr.heap[q]? := fun q hq => by
        rw [Below.heap_setCell _ _ _ q hq, Below.heap_setCell _ _ _ q hq, Below.heap_setCell _ _ _ q hq, Below.heap_setCell _ _ _ q hq, Below.heap_setCell _ _ _ q hq]
      have hsz2 : (((((wr.setCell ⟨w.heap.size, k * 5, none⟩ (.int .i64 0)).setCell ⟨w.heap.size, k * 5 + 1, none⟩ (.pointer none)).setCell ⟨w.heap.size, k * 5 + 2, none⟩ (.pointer none)).setCell ⟨w.heap.size, k * 5 + 3, none⟩ (.pointer none)).setCell ⟨w.heap.size, k * 5 + 4, none⟩ (.pointer (some ⟨wr.heap.size, 0, none⟩))).heap.size = wr.heap.size := by simp
      generalize hws : ((((wr.setCell ⟨w.heap.size, k * 5, none⟩ (.int .i64 0)).setCell ⟨w.heap.size, k * 5 + 1, none⟩ (.pointer none)).setCell ⟨w.heap.size, k * 5 + 2, none⟩ (.pointer none)).setCell ⟨w.heap.size, k * 5 + 3, none⟩ (.pointer none)).setCell ⟨w.heap.size, k * 5 + 4, none⟩ (.pointer (some ⟨wr.heap.size, 0, none⟩)) = ws at hrow2 hbl2 hk2 hsz2
      have Hrow : Hid ((ws.alloc (grpObj (ss k) (la k) (ln k) (lc k))).rowIs w.heap.size 50 (n * 5) (fun j => if j < (k + 1) * 5 then chCell (fun i => if i = k then wr.heap.size else gb i) j else zeroCh j)) :=
        hrow2.of_block (Below.heap_alloc ws _ _ (by omega))
      have Hgr : Hid (∀ i, i < k + 1 → (ws.alloc (grpObj (ss k) (la k) (ln k) (lc k))).heap[(fun i => if i = k then wr.heap.size else gb i) i]? = some (grpObj (ss i) (la i) (ln i) (lc i)) ∧ w.heap.size < (fun i => if i = k then wr.heap.size else gb i) i) := fun i hi => by
        by_cases e : i = k
        · subst e
          simp only [if_true]
          refine ⟨?_, by omega⟩
          rw [← hsz2]
          exact Go.Deep.blk_alloc_new _ _
        · simp only [e, if_false]
          obtain ⟨h1, h2⟩ := hgr.out i (by omega)
          obtain ⟨hl', _⟩ := Array.getElem?_eq_some_iff.1 h1
          refine ⟨?_, h2⟩
          rw [Below.heap_alloc ws _ _ (by omega), hk2 _ (by omega)]
          exact h1
      have Hinj : Hid (∀ i j, i < k + 1 → j < k + 1 → (fun i => if i = k then wr.heap.size else gb i) i = (fun i => if i = k then wr.heap.size else gb i) j → i = j) := fun i j hi hj he => by
        have hlt' : ∀ i, i < k → gb i < wr.heap.size := fun i hi => by
          obtain ⟨hl', _⟩ := Array.getElem?_eq_some_iff.1 (hgr.out i hi).1
          exact hl'
        dsimp only at he
        by_cases e1 : i = k <;> by_cases e2 : j = k
        · omega
        · rw [if_pos e1, if_neg e2] at he
          have := hlt' j (by omega)
          omega
        · rw [if_neg e1, if_pos e2] at he
          have := hlt' i (by omega)
          omega
        · rw [if_neg e1, if_neg e2] at he
          exact hinj.out i j (by omega) (by omega) he
      have hbl3 : Below w.heap.size w (ws.alloc (grpObj (ss k) (la k) (ln k) (lc k))) := hbl2.alloc hbl2.size _
      have hsz3 : w.heap.size < (ws.alloc (grpObj (ss k) (la k) (ln k) (lc k))).heap.size := by simp; omega
      clear hrow2 hbl2 hk2 hsz2 hgr hinj hrw
      go_wp2_with fail
      go_region
      all_goals
        go_wp2_with fail
        go_roundw
        case rel =>
          refine ⟨k + 1, fun i => if i = k then wr.heap.size else gb i, by omega, by go_num, ?_, ?_, Hinj, ?_, ?_⟩
          · exact Hrow.out.drew
          · exact Hgr
          · exact hbl3.drew
          · exact hsz3
        case measure => simp [intOf]; omega
    · have Hrow : Hid (wr.rowIs w.heap.size 50 (n * 5) (chCell gb)) := hrw.out.congr (fun j hj => by rw [if_pos (by omega)])
      obtain rfl : k = n := by omega
      clear hrw
      go_wp2_with fail
      go_ret
      exact ⟨⟨rfl, gb, ⟨Hrow.out, fun i hi => (hgr.out i hi).1, fun i hi => (hL.inner i hi).below hbl⟩, hinj.out⟩, hbl⟩

end Go.Proofs.Qxb6605609a
