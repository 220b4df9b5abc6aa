/-
  zzB1Entries: the entries of the tree, built by the law.
-/
import Derived.Test.Qxb6614063aShape
namespace Go.Proofs.Qxb6614063a
open Go.RowKit

theorem info56 : (Try.prog.info? 56).map (fun i => (i.zero, i.size, i.bytes)) = some (some (.agg #[.string ⟨#[]⟩, .string ⟨#[]⟩, .int .i64 0]), 3, 40) := by kernel_rfl

/-- n zero entries. -/
def madeEnts (n : Nat) : Array Value := madeCells #[.string ⟨#[]⟩, .string ⟨#[]⟩, .int .i64 0] (n * 3)

theorem makeEnts (n : Nat) (hn : n ≤ 4096) (w : World) : (Instr.makeSlice 49 (.int .i64 n) (.int .i64 n)).run Try.prog w = .ok (.slice (some ⟨w.heap.size, 0, none⟩) n n) (w.alloc (.cells (madeEnts n) 56)) := by
  obtain ⟨i, hi, hzz⟩ := Option.map_eq_some_iff.1 info56
  simp only [Prod.mk.injEq] at hzz
  obtain ⟨hz, hs, hb⟩ := hzz
  have hr := run_make (P := Try.prog) w 49 56 i _ Try.underlying49 hi hz .i64 .i64 n n (by omega) (Int.le_refl _) (by rw [hb]; omega) (by omega)
  rw [hs] at hr
  simpa [madeEnts, Value.cells] using hr

def zeroEnt (j : Nat) : Value := if j % 3 = 2 then .int .i64 0 else .string ⟨#[]⟩

theorem madeEnts_row (w : World) (n : Nat) : (w.alloc (.cells (madeEnts n) 56)).rowIs w.heap.size 56 (n * 3) zeroEnt := by
  refine ⟨_, Go.Deep.blk_alloc_new _ _, size_madeCells _ _, fun i hi => ?_⟩
  have h3 : i % 3 = 0 ∨ i % 3 = 1 ∨ i % 3 = 2 := by omega
  rcases h3 with h | h | h <;> simp [madeEnts, madeCells, hi, h, zeroEnt]

set_option maxHeartbeats 400000 in
theorem entries22 (ha ca xa : Option Addr) (n hc cc xc : Nat) (ss cs : Nat → ByteArray) (xs : Nat → Int) (w : World) (hn : n ≤ 4096) (hss : SlAt w ha n fun j => .string (ss j)) (hcs : SlAt w ca n fun j => .string (cs j)) (hxs : SlAt w xa n fun j => .int .i64 (xs j)) :
    Calls Try.prog 22 #[.slice ha n hc, .slice ca n cc, .slice xa n xc] w fun e w' => e = .returned (.slice (some ⟨w.heap.size, 0, none⟩) n n) ∧ EntsAt w' w.heap.size n ss cs xs ∧ Below w.heap.size w w' := by
  have hmk := makeEnts n hn
  go_enter Try.func22, Try.ntmps22
  go_wp2
  go_loopw [8] (fun i wr => ∃ k : Nat, k ≤ n ∧ i = .int .i64 k ∧ Hid (wr.rowIs w.heap.size 56 (n * 3) (fun j => if j < k * 3 then entryCell ss cs xs j else zeroEnt j)) ∧ Below w.heap.size w wr) (fun i _ => n - (intOf i).toNat)
  case atStart => exact ⟨0, Nat.zero_le _, rfl, (madeEnts_row w n).congr (fun j _ => by simp), (Below.refl _ _).alloc (Nat.le_refl _) _⟩
  case round =>
    obtain ⟨k, hk, rfl, hrw, hbl⟩ := hrel
    by_cases hlt : k < n
    · obtain ⟨b1, o1, hb1, hix1, hc1'⟩ := hss.elem29 hlt hc
      obtain ⟨b2, o2, hb2, hix2, hc2'⟩ := hcs.elem29 hlt cc
      obtain ⟨b3, o3, hb3, hix3, hc3'⟩ := hxs.elem30 hlt xc
      have hc1 : wr.cell? ⟨b1, o1, none⟩ = some (.string (ss k)) := (hbl.cell (p := ⟨b1, o1, none⟩) hb1).trans hc1'
      have hc2 : wr.cell? ⟨b2, o2, none⟩ = some (.string (cs k)) := (hbl.cell (p := ⟨b2, o2, none⟩) hb2).trans hc2'
      have hc3 : wr.cell? ⟨b3, o3, none⟩ = some (.int .i64 (xs k)) := (hbl.cell (p := ⟨b3, o3, none⟩) hb3).trans hc3'
      have k0 := hrw.out.cell (i := k * 3) (by omega)
      have k1 := hrw.out.cell (i := k * 3 + 1) (by omega)
      have k2 := hrw.out.cell (i := k * 3 + 2) (by omega)
      have f0 := hrw.out.frozen (k * 3)
      have f1 := hrw.out.frozen (k * 3 + 1)
      have f2 := hrw.out.frozen (k * 3 + 2)
      clear hc1' hc2' hc3'
      have hrow2 := ((((hrw.out.set (k * 3) (.string (ss k))).set (k * 3 + 1) (.string (cs k))).set (k * 3 + 2) (.int .i64 (xs k))).congr (g := fun j => if j < (k + 1) * 3 then entryCell ss cs xs j else zeroEnt j) (fun j _ => by
        by_cases e2 : j = k * 3 + 2
        · subst e2
          rw [if_pos rfl, if_pos (by omega), entryCell, if_neg (by omega), if_neg (by omega), show (k * 3 + 2) / 3 = k by omega]
        rw [if_neg e2]
        by_cases e1 : j = k * 3 + 1
        · subst e1
          rw [if_pos rfl, if_pos (by omega), entryCell, if_neg (by omega), if_pos (by omega), show (k * 3 + 1) / 3 = k by omega]
        rw [if_neg e1]
        by_cases e0 : j = k * 3
        · subst e0
          rw [if_pos rfl, if_pos (by omega), entryCell, if_pos (by omega), show k * 3 / 3 = k by omega]
        rw [if_neg e0]
        by_cases e3 : j < k * 3
        · rw [if_pos e3, if_pos (by omega)]
        · rw [if_neg e3, if_neg (by omega)])).drew
      have hbl2 := (((hbl.setCell (p := ⟨w.heap.size, k * 3, none⟩) (Nat.le_refl _) (.string (ss k))).setCell (p := ⟨w.heap.size, k * 3 + 1, none⟩) (Nat.le_refl _) (.string (cs k))).setCell (p := ⟨w.heap.size, k * 3 + 2, none⟩) (Nat.le_refl _) (.int .i64 (xs k))).drew
      have Hrow2 := show Hid _ from hrow2
      clear hrow2
      go_wp2
      go_region
      all_goals
        go_wp2
        go_roundw
        case rel => exact ⟨k + 1, by omega, by go_num, Hrow2.out, hbl2⟩
        case measure => simp [intOf]; omega
    · have hrow2 : EntsAt wr w.heap.size n ss cs xs := hrw.out.congr (fun j hj => by rw [if_pos (by omega)])
      go_wp2
      go_ret
      exact ⟨rfl, hrow2, hbl⟩

end Go.Proofs.Qxb6614063a
