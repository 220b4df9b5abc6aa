/-
  (Rollout).Proof; the copy of a byte slice; the walk of FnRolloutProofFindsExactlyItsEntries.
-/
import Derived.Test.Qxb6614063aPath
import Derived.Test.Qxb6614063aRollBytes
import Derived.Laws.IdiomCopy
namespace Go.Proofs.Qxb6614063a
open Go.RowKit

theorem proof23_some (ch id : ByteArray) (ma sa : Option Addr) (mn mc sn sc : Nat) (tb eb n m : Nat) (la0 : Option Addr) (lc0 : Nat) (la : Nat → Option Addr) (ln lc : Nat → Nat) (bs : Nat → Nat → Nat → Int) (ss cs : Nat → ByteArray) (xs : Nat → Int) (q : ByteArray) (w : World)
    (hE : EntsAt w eb n ss cs xs) (hL : LevAt w la0 m la ln lc bs) (hT : TreeOk n m ln) (hn : n ≤ 4096) (hm : m ≤ 64) (ha : Asc ss n)
    (ht0 : w.cell? ⟨tb, 0, none⟩ = some (.slice (some ⟨eb, 0, none⟩) n n)) (ht1 : w.cell? ⟨tb, 1, none⟩ = some (.slice la0 m lc0)) :
    Calls Try.prog 23 #[.agg #[.string ch, .string id, .slice ma mn mc, .slice sa sn sc, .pointer (some ⟨tb, 0, none⟩)], .string q] w fun e w' => ProofRes w ss cs xs n m ln bs q e w' ∧ Below w.heap.size w w' := by
  have hb0 := (Below.refl w.heap.size w).alloc (Nat.le_refl _) (.cells #[.string ch, .string id, .slice ma mn mc, .slice sa sn sc, .pointer (some ⟨tb, 0, none⟩)] 47)
  have hE0 := hE.below hb0
  have hL0 := hL.below hb0
  have ht0' := cellOld (.cells #[.string ch, .string id, .slice ma mn mc, .slice sa sn sc, .pointer (some ⟨tb, 0, none⟩)] 47) ht0
  have ht1' := cellOld (.cells #[.string ch, .string id, .slice ma mn mc, .slice sa sn sc, .pointer (some ⟨tb, 0, none⟩)] 47) ht1
  go_enter Try.func23, Try.ntmps23
  go_wp2_with fail
  refine (proof29 tb eb n m la0 lc0 la ln lc bs ss cs xs q _ hE0 hL0 hT hn hm ha ht0' ht1').mono ?_
  rintro e w1 ⟨hres, hB⟩
  have hB1 := hb0.trans (hB.mono hb0.size)
  rcases hres with ⟨rfl, hno⟩ | ⟨i, pb, pa, pc, rfl, hi, hq, hpb, r0, r1, r2, r3, r4, r5⟩
  · have Hno : Hid (∀ k, k < n → ss k ≠ q) := hno
    clear hno
    go_wp2
    go_ret2
    exact ⟨Or.inl ⟨rfl, Hno.out⟩, hB1⟩
  · have HR : Hid (ProofRes w ss cs xs n m ln bs q (.returned (.tuple #[.pointer (some ⟨pb, 0, none⟩), .bool true])) w1) := Or.inr ⟨i, pb, pa, pc, rfl, hi, hq, Nat.le_trans hb0.size hpb, r0, r1, r2, r3, r4, r5⟩
    clear hq r0 r1 r2 r3 r4 r5
    go_wp2
    go_ret2
    exact ⟨HR.out, hB1⟩

theorem proof23_nil (ch id : ByteArray) (ma sa : Option Addr) (mn mc sn sc : Nat) (q : ByteArray) (w : World) :
    Calls Try.prog 23 #[.agg #[.string ch, .string id, .slice ma mn mc, .slice sa sn sc, .pointer none], .string q] w fun e w' => e = .returned (.tuple #[.pointer none, .bool false]) ∧ Below w.heap.size w w' := by
  go_enter Try.func23, Try.ntmps23
  go_wp2
  go_ret2
  exact ⟨rfl, (Below.refl _ _).alloc (Nat.le_refl _) _⟩

/-- n zero bytes. -/
def madeBytes (n : Nat) : Array Value := madeCells #[.int .u8 0] n
theorem makeBytes (n : Nat) (hn : n < 140737488355328) (w : World) : (Instr.makeSlice 40 (.int .i64 n) (.int .i64 n)).run Try.prog w = .ok (.slice (some ⟨w.heap.size, 0, none⟩) n n) (w.alloc (.cells (madeBytes n) 5)) :=
  run_make_row' (P := Try.prog) 40 5 (.int .u8 0) 1 Try.underlying40 info5 rfl .i64 .i64 n (by omega) (by omega) w

theorem size5 : (Try.prog.info? 5).map (·.size) = some 1 := by kernel_rfl

theorem below_setCells {B : Nat} {a w : World} (h : Below B a w) {b : Nat} (hb : B ≤ b) : ∀ (vs : List Value) (o : Nat), Below B a (w.setCells b o vs)
  | vs, o => by
    induction vs generalizing w o with
    | nil => exact h
    | cons v vs ih => exact ih (h.setCell (p := ⟨b, o, none⟩) hb v) (o + 1)

/-- 'copy(zzc, src)': zzc new, of src's length. -/
theorem copyBytes (a : Option Addr) (n c : Nat) (f : Nat → Int) (w : World) (hs : SlAt w a n fun j => .int .u8 (f j)) :
    ∃ w2, (∀ ty, (Builtin.copy_ #[40, 40] ty #[.slice (some ⟨w.heap.size, 0, none⟩) n n, .slice a n c]).run Try.prog (w.alloc (.cells (madeBytes n) 5)) = .ok (.int .i64 n) w2) ∧ Below w.heap.size w w2 := by
  have hb0 := (Below.refl w.heap.size w).alloc (Nat.le_refl _) (.cells (madeBytes n) 5)
  by_cases hn : n = 0
  · subst hn
    exact ⟨_, fun ty => run_copy_none (P := Try.prog) _ 40 40 ty 5 _ _ _ _ _ _ Try.underlying40 size5 rfl, hb0⟩
  · obtain ⟨b, off, rfl, hlt, hc⟩ := hs.spot (by omega)
    have hrow : (w.alloc (.cells (madeBytes n) 5)).rowIs w.heap.size 5 n (fun _ => .int .u8 0) := World.rowIs_made w (.int .u8 0) n 5
    refine ⟨(w.alloc (.cells (madeBytes n) 5)).setCells w.heap.size 0 ((List.range n).map fun j => .int .u8 (f j)), fun ty => ?_, below_setCells hb0 (Nat.le_refl _) _ _⟩
    have hlen : ((List.range n).map fun j => Value.int .u8 (f j)).length = n := by simp
    have := run_copy_cells (P := Try.prog) (w.alloc (.cells (madeBytes n) 5)) 40 40 ty 5 w.heap.size 0 n n ⟨b, off, none⟩ n c ((List.range n).map fun j => .int .u8 (f j)) Try.underlying40 size5 (by simp) (fun j v hj => ?_) (fun j hj => ?_) (fun j hj => ?_) (fun v hv => ?_)
    · rw [this, hlen]; rfl
    · have hjn : j < n := by
        rcases Nat.lt_or_ge j n with h | h
        · exact h
        · rw [List.getElem?_eq_none (by simpa using h)] at hj; cases hj
      rw [List.getElem?_map, List.getElem?_range hjn] at hj
      cases hj
      have hadd : (⟨b, off, none⟩ : Addr).add j = ⟨b, off + j, none⟩ := by unfold Addr.add; split <;> simp_all
      rw [hadd, hb0.cell (p := ⟨b, off + j, none⟩) hlt]
      exact hc j hjn
    · rw [Nat.zero_add, hrow.cell (by omega)]; rfl
    · exact hrow.frozen _
    · obtain ⟨j, _, rfl⟩ := List.mem_map.1 hv
      rfl

end Go.Proofs.Qxb6614063a
