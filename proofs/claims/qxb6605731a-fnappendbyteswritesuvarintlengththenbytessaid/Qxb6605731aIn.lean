/-
  WHAT THE WALKS ARE TOLD OF A BYTE SLICE; WHAT A CALL LEAVES AS IT WAS ('Kept': 'Below' without the tape).
-/
import Derived.Test.Qxb6605731aRows
import Derived.WalkKit
import Derived.WalkSpells
import Derived.WalkLawsBesides
import Derived.Deep.OwnRows
import Derived.Carry
namespace Go.Proofs.Qxb6605731a
open Go.RowKit

/-- A slice of one-cell elements of length n at address a, element j the value f j. -/
structure SlAt (w : World) (a : Option Addr) (n : Nat) (f : Nat → Value) : Prop where
  small : n < 4611686018427387904
  spot : 0 < n → ∃ b off, a = some ⟨b, off, none⟩ ∧ b < w.heap.size ∧ ∀ j, j < n → w.cell? ⟨b, off + j, none⟩ = some (f j)

/-- All blocks below B, the outside world and the output are as they were. -/
structure Kept (B : Nat) (w w' : World) : Prop where
  os : w'.os = w.os
  output : w'.output = w.output
  size : w.heap.size ≤ w'.heap.size
  block : ∀ k, k < B → w'.heap[k]? = w.heap[k]?

theorem Kept.of {B : Nat} {w w' : World} (h : Below B w w') : Kept B w w' := ⟨h.os, h.output, h.size, h.block⟩
theorem Kept.refl (B : Nat) (w : World) : Kept B w w := ⟨rfl, rfl, Nat.le_refl _, fun _ _ => rfl⟩
theorem Kept.trans {B : Nat} {a b c : World} (h : Kept B a b) (k : Kept B b c) : Kept B a c :=
  ⟨k.os.trans h.os, k.output.trans h.output, Nat.le_trans h.size k.size, fun i hi => (k.block i hi).trans (h.block i hi)⟩
theorem Kept.mono {B B' : Nat} {a b : World} (h : Kept B a b) (hB : B' ≤ B) : Kept B' a b := ⟨h.os, h.output, h.size, fun i hi => h.block i (by omega)⟩
theorem Kept.then {a b c : World} (h : Kept a.heap.size a b) (k : Kept b.heap.size b c) : Kept a.heap.size a c := h.trans (k.mono h.size)
theorem Kept.cell {B : Nat} {w w' : World} (h : Kept B w w') {p : Addr} (hp : p.block < B) : w'.cell? p = w.cell? p := World.cell?_of_block (h.block p.block hp)
theorem Kept.frame {W w' : World} (h : Kept W.heap.size W w') (may : MemPlace → Prop) : W.keptBut w' may := by
  refine ⟨h.os, h.output, fun i hi => ?_⟩
  rw [h.block i hi]
  split <;> simp_all
theorem Kept.same {W w' : World} (h : Kept W.heap.size W w') {p : MemPlace} (hp : p.block < W.heap.size) : W.sameAt w' p := by
  cases p with
  | cell b o => exact World.cell?_of_block (w := W) (h.block b hp)
  | map b => exact h.block b hp
theorem Kept.trod {H : Type} {enc : TypeId × Value → H} {P : Program} {t : TypeId} (hl : laidOutB P = true) (hr : P.readableRec t = true) (hrow : t < P.types.size) {W W' : World} {v : Value} {d : DataW H} {ps : List MemPlace}
    (h : DataW.Trod enc P W 0 (fun _ => true) true t v d ps) (hb : Kept W.heap.size W W') (hlt : ∀ x ∈ ps, x.block < W.heap.size) :
    DataW.Trod enc P W' 0 (fun b => decide (b < W.heap.size)) true t v d ps :=
  WideElems.Trod_stays hl hr hrow h (fun x hx => hb.same (hlt x hx)) (fun x hx => by simpa using hlt x hx)

theorem SlAt.kept {w w' : World} {a : Option Addr} {n : Nat} {f : Nat → Value} (h : SlAt w a n f) (hb : Kept w.heap.size w w') : SlAt w' a n f := by
  refine ⟨h.small, fun hn => ?_⟩
  obtain ⟨b, off, rfl, hlt, hc⟩ := h.spot hn
  exact ⟨b, off, rfl, Nat.lt_of_lt_of_le hlt hb.size, fun j hj => (hb.cell (p := ⟨b, off + j, none⟩) hlt).trans (hc j hj)⟩

/-- What the walk wants of element k: its address, and the cell there. -/
theorem SlAt.elem {w : World} {a : Option Addr} {n : Nat} {f : Nat → Value} (h : SlAt w a n f) {k : Nat} (hk : k < n) (c : Nat) :
    ∃ b off, b < w.heap.size ∧ (∀ w : World, (Instr.indexAt 26 (.slice a n c) (.int .i64 k)).run Try.prog w = .ok (.pointer (some ⟨b, off, none⟩)) w) ∧ w.cell? ⟨b, off, none⟩ = some (f k) := by
  obtain ⟨b, off, rfl, hlt, hc⟩ := h.spot (by omega)
  refine ⟨b, off + k, hlt, fun w => ?_, hc k hk⟩
  have h1 : (k : Int) < (n : Int) := by omega
  have h2 : (0 : Int) ≤ (k : Int) := by omega
  go_simp

/-- The call has returned some bool. -/
def AnyBool (e : Ending) : Prop := ∃ b, e = .returned (.bool b)

theorem info5 : (Try.prog.info? 5).map (fun i => (i.zero, i.size, i.bytes)) = some (some (.int .u8 0), 1, 1) := by kernel_rfl

/-- n zero bytes. -/
def madeBytes (n : Nat) : Array Value := madeCells #[.int .u8 0] n
theorem makeBytes (n : Nat) (hn : n < 140737488355328) (w : World) : (Instr.makeSlice 26 (.int .i64 n) (.int .i64 n)).run Try.prog w = .ok (.slice (some ⟨w.heap.size, 0, none⟩) n n) (w.alloc (.cells (madeBytes n) 5)) :=
  run_make_row' (P := Try.prog) 26 5 (.int .u8 0) 1 Try.underlying26 info5 rfl .i64 .i64 n (by omega) (by omega) w

/-- zzBytes_..: within bounds or not. -/
theorem bytes10 (a0 a1 : Option Addr) (n0 c0 n1 c1 : Nat) (w : World) (h0 : n0 < 4611686018427387904) (h1 : n1 < 4611686018427387904) :
    Calls Try.prog 10 #[.slice a0 n0 c0, .slice a1 n1 c1] w fun e w' => AnyBool e ∧ w' = w := by
  by_cases t1 : (1048576 : Int) < (n0 : Int)
  · go_enter Try.func10, Try.ntmps10
    go_wp2
    go_ret
    exact ⟨⟨_, rfl⟩, rfl⟩
  by_cases t2 : (1048576 : Int) < (n1 : Int)
  · go_enter Try.func10, Try.ntmps10
    go_wp2
    go_ret
    exact ⟨⟨_, rfl⟩, rfl⟩
  by_cases t3 : (1048576 : Int) < (n0 : Int) + (n1 : Int)
  · go_enter Try.func10, Try.ntmps10
    go_wp2
    go_ret
    exact ⟨⟨_, rfl⟩, rfl⟩
  · go_enter Try.func10, Try.ntmps10
    go_wp2
    go_ret
    exact ⟨⟨_, rfl⟩, rfl⟩

/-- A fresh copy of a byte slice, with no room behind it; nil stays nil. -/
def Clone (w w' : World) (a : Option Addr) (n : Nat) (xs : Nat → Int) (e : Ending) : Prop :=
  (a = none ∧ n = 0 ∧ e = .returned (.slice none 0 0)) ∨ (e = .returned (.slice (some ⟨w.heap.size, 0, none⟩) n n) ∧ w'.rowIs w.heap.size 5 n (fun j => .int .u8 (xs j)))

set_option maxHeartbeats 400000 in
theorem clone8 (a : Option Addr) (n c : Nat) (xs : Nat → Int) (w : World) (hs : SlAt w a n fun j => .int .u8 (xs j)) (hn : n ≤ 1048576) :
    Calls Try.prog 8 #[.slice a n c] w fun e w' => Clone w w' a n xs e ∧ Below w.heap.size w w' := by
  have hmk := makeBytes n (by omega)
  have hnil := fun (w : World) (a : Option Addr) (n c : Nat) => Lib.run_eql_slice_nil (P := Try.prog) w 26 5 a n c 0 0 Try.underlying26
  cases a with
  | none =>
    have h0 : n = 0 := by
      by_cases e : n = 0
      · exact e
      · obtain ⟨b, off, h, _⟩ := hs.spot (by omega)
        cases h
    subst h0
    go_enter Try.func8, Try.ntmps8
    go_wp2
    go_ret
    exact ⟨Or.inl ⟨rfl, rfl, rfl⟩, Below.refl _ _⟩
  | some ad =>
    have hrow0 : (w.alloc (.cells (madeBytes n) 5)).rowIs w.heap.size 5 n (fun _ => .int .u8 0) := World.rowIs_made w (.int .u8 0) n 5
    have hb0 := (Below.refl w.heap.size w).alloc (Nat.le_refl _) (.cells (madeBytes n) 5)
    go_enter Try.func8, Try.ntmps8
    go_wp2
    clear hmk hnil
    go_loopw [4] (fun vi wr => ∃ k : Nat, k ≤ n ∧ vi = .int .i64 k ∧ Hid (wr.rowIs w.heap.size 5 n (fun j => .int .u8 (if j < k then xs j else 0))) ∧ Below w.heap.size w wr) (fun vi _ => n - (intOf vi).toNat)
    case atStart => exact ⟨0, Nat.zero_le _, rfl, hrow0.congr (fun j _ => by simp), hb0⟩
    case round =>
      obtain ⟨k, hk, rfl, hrw, hbl⟩ := hrel
      by_cases hlt : k < n
      · obtain ⟨b, off, hb, hix, hc'⟩ := hs.elem hlt c
        have hc : wr.cell? ⟨b, off, none⟩ = some (.int .u8 (xs k)) := (hbl.cell (p := ⟨b, off, none⟩) hb).trans hc'
        have hf1 := hrw.out.frozen k
        have hc1 := hrw.out.cell (i := k) hlt
        have hrow2 := (hrw.out.set k (.int .u8 (xs k))).congr (g := fun j => .int .u8 (if j < k + 1 then xs j else 0)) (fun j _ => by
          by_cases e1 : j = k
          · subst e1
            rw [if_pos rfl, if_pos (by omega)]
          · rw [if_neg e1]
            by_cases e3 : j < k
            · rw [if_pos e3, if_pos (by omega)]
            · rw [if_neg e3, if_neg (by omega)])
        have hbl2 := hbl.setCell (p := ⟨w.heap.size, k, none⟩) (Nat.le_refl _) (.int .u8 (xs k))
        go_wp2
        go_roundw
        case rel => exact ⟨k + 1, by omega, by go_num, hrow2, hbl2⟩
        case measure => simp [intOf]; omega
      · have hrow2 : Hid (wr.rowIs w.heap.size 5 n (fun j => .int .u8 (xs j))) := hrw.out.congr (fun j hj => by rw [if_pos (by omega)])
        clear hrw
        go_wp2
        go_ret
        exact ⟨Or.inr ⟨rfl, hrow2.out⟩, hbl⟩

end Go.Proofs.Qxb6605731a
