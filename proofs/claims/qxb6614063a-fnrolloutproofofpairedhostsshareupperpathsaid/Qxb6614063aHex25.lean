/-
  THE LAW'S OWN SPELLING OF A DIGEST: zzB1Hex, its argument an array by value.
-/
import Derived.Test.Qxb6614063aHex
import Derived.Deep.MidRow
namespace Go.Proofs.Qxb6614063a
open Go.RowKit

/-- A digest's cells. -/
def digList (xs : Nat → Int) : List Value := (List.range 32).map fun j => Value.int .u8 (xs j)
def digArr (xs : Nat → Int) : Array Value := (digList xs).toArray

theorem digList_length (xs : Nat → Int) : (digList xs).length = 32 := by simp [digList]
theorem digArr_size (xs : Nat → Int) : (digArr xs).size = 32 := by simp [digArr, digList]
theorem digArr_get (xs : Nat → Int) {j : Nat} (hj : j < 32) : (digArr xs)[j]? = some (.int .u8 (xs j)) := by simp [digArr, digList, hj]
theorem digRange {w : World} {b off : Nat} {xs : Nat → Int} (h : SlAt w (some ⟨b, off, none⟩) 32 (fun j => .int .u8 (xs j))) : w.rangeAt b off (digList xs) := fun j v hv => by
  obtain ⟨b', off', e, _, hc⟩ := h.spot (by omega)
  cases e
  have hj : j < 32 := by
    have := (List.getElem?_eq_some_iff.1 hv).1
    rwa [digList_length] at this
  rw [hc j hj, ← hv]
  simp [digList, hj]
theorem info60 (xs : Nat → Int) : (Try.prog.info? 60).map (·.size) = some (digList xs).length := by
  rw [digList_length]
  kernel_rfl

theorem digBox (w : World) (xs : Nat → Int) : (Instr.box 60 (.agg (digArr xs))).run Try.prog w = .ok (.pointer (some ⟨w.heap.size, 0, none⟩)) (w.alloc (.cells (digArr xs) 60)) := by
  simp [Instr.box, go_sem, Value.cells]

set_option maxRecDepth 100000 in
set_option maxHeartbeats 400000 in
theorem hex25 (xs : Nat → Int) (w : World) (hx : ∀ j, j < 32 → 0 ≤ xs j ∧ xs j < 256) :
    Calls Try.prog 25 #[.agg (digArr xs)] w fun e w' => e = .returned (.string (hexStr xs)) ∧ Below w.heap.size w w' := by
  have HX : Hid (∀ j, j < 32 → 0 ≤ xs j ∧ xs j < 256) := hx
  clear hx
  have hmk := make64
  have hbx := digBox
  have hb0 : Below (w.alloc (.cells (digArr xs) 60)).heap.size (w.alloc (.cells (digArr xs) 60)) ((w.alloc (.cells (digArr xs) 60)).alloc (.cells made64 5)) := (Below.refl _ _).alloc (Nat.le_refl _) _
  have hrow0 := made64_row (w.alloc (.cells (digArr xs) 60))
  have hbw : Below w.heap.size w (w.alloc (.cells (digArr xs) 60)) := (Below.refl _ _).alloc (Nat.le_refl _) _
  have hcell0 : ∀ j, j < 32 → (w.alloc (.cells (digArr xs) 60)).cell? ⟨w.heap.size, j, none⟩ = some (.int .u8 (xs j)) := fun j hj => by
    rw [cell_of_row _ _ j (digArr xs) 60 (0, 0) (Go.Deep.blk_alloc_new _ _)]
    exact digArr_get xs hj
  have hsz1 : (w.alloc (.cells (digArr xs) 60)).heap.size = w.heap.size + 1 := by simp
  have HC : Hid (∀ j, j < 32 → (w.alloc (.cells (digArr xs) 60)).cell? ⟨w.heap.size, j, none⟩ = some (.int .u8 (xs j))) := hcell0
  clear hcell0
  go_enter Try.func25, Try.ntmps25
  go_wp2_with fail
  clear hmk hbx
  generalize hwd : w.alloc (.cells (digArr xs) 60) = wd at hb0 hrow0 hbw hsz1 HC ⊢
  rw [hsz1] at hb0 hrow0
  clear hwd
  go_loopw [4] (fun vi wr => ∃ k : Nat, k ≤ 32 ∧ vi = .int .i64 k ∧ Hid (wr.rowIs (w.heap.size + 1) 5 64 (fun j => .int .u8 (if j < 2 * k then hexNum xs j else 0))) ∧ Below (w.heap.size + 1) wd wr) (fun vi _ => 32 - (intOf vi).toNat)
  case atStart => exact ⟨0, Nat.zero_le _, rfl, hrow0.congr (fun j _ => by simp), hb0⟩
  case round =>
    obtain ⟨k, hk, rfl, hrw, hbl⟩ := hrel
    by_cases hlt : k < 32
    · have hc : wr.cell? ⟨w.heap.size, k, none⟩ = some (.int .u8 (xs k)) := (hbl.cell (p := ⟨w.heap.size, k, none⟩) (by simp)).trans (HC.out k hlt)
      obtain ⟨hx0, hx1⟩ := HX.out k hlt
      have hlo := low4 (xs k) hx0 hx1
      have d1 := digit (xs k / 16) (by omega) (by omega)
      have d2 := digit (xs k % 16) (by omega) (by omega)
      have hf1 := hrw.out.frozen (2 * k)
      have hc1 := hrw.out.cell (i := 2 * k) (by omega)
      have hf2 := (hrw.out.set (2 * k) (.int .u8 (hexd (xs k / 16)))).frozen (2 * k + 1)
      have hc2 := (hrw.out.set (2 * k) (.int .u8 (hexd (xs k / 16)))).cell (i := 2 * k + 1) (by omega)
      have hrow2 := ((hrw.out.set (2 * k) (.int .u8 (hexd (xs k / 16)))).set (2 * k + 1) (.int .u8 (hexd (xs k % 16)))).congr (g := fun j => .int .u8 (if j < 2 * (k + 1) then hexNum xs j else 0)) (fun j _ => by
        by_cases e1 : j = 2 * k + 1
        · subst e1
          rw [if_pos rfl, if_pos (by omega), hexNum, if_neg (by omega), show (2 * k + 1) / 2 = k by omega]
        · rw [if_neg e1]
          by_cases e2 : j = 2 * k
          · subst e2
            rw [if_pos rfl, if_pos (by omega), hexNum, if_pos (by omega), show 2 * k / 2 = k by omega]
          · rw [if_neg e2]
            by_cases e3 : j < 2 * k
            · rw [if_pos e3, if_pos (by omega)]
            · rw [if_neg e3, if_neg (by omega)])
      have hbl1 := hbl.setCell (p := ⟨w.heap.size + 1, 2 * k, none⟩) (Nat.le_refl _) (.int .u8 (hexd (xs k / 16)))
      have hcb : (wr.setCell ⟨w.heap.size + 1, 2 * k, none⟩ (.int .u8 (hexd (xs k / 16)))).cell? ⟨w.heap.size, k, none⟩ = some (.int .u8 (xs k)) := (hbl1.cell (p := ⟨w.heap.size, k, none⟩) (by simp)).trans (HC.out k hlt)
      have hbl2 := hbl1.setCell (p := ⟨w.heap.size + 1, 2 * k + 1, none⟩) (Nat.le_refl _) (.int .u8 (hexd (xs k % 16)))
      go_wp2
      go_roundw
      case rel => exact ⟨k + 1, by omega, by go_num, hrow2, hbl2⟩
      case measure => simp [intOf]; omega
    · have hrow2 : wr.rowIs (w.heap.size + 1) 5 64 (fun j => .int .u8 (hexNum xs j)) := hrw.out.congr (fun j hj => by rw [if_pos (by omega)])
      have hcv := hexBack hrow2
      clear hrow2 hrw
      go_wp2
      go_ret
      exact ⟨rfl, hbw.trans (hbl.mono (Nat.le_succ _))⟩

end Go.Proofs.Qxb6614063a
