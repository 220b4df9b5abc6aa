/-
  COPIES: zzCloneStrings, zzCloneLists; zzSameList.
-/
import Derived.Test.Qxb6605609aIn
import Derived.Laws.IdiomCopy
import Derived.Laws.CopyOwn
namespace Go.Proofs.Qxb6605609a
open Go.RowKit

theorem info9 : (Try.prog.info? 9).map (fun i => (i.zero, i.size, i.bytes)) = some (some (.string ⟨#[]⟩), 1, 16) := by kernel_rfl
theorem info22 : (Try.prog.info? 22).map (fun i => (i.zero, i.size, i.bytes)) = some (some (.slice none 0 0), 1, 24) := by kernel_rfl
theorem size9 : (Try.prog.info? 9).map (·.size) = some 1 := by kernel_rfl

/-- n empty strings; n nil slices. -/
def madeStrs (n : Nat) : Array Value := madeCells #[.string ⟨#[]⟩] n
def madeNils (n : Nat) : Array Value := madeCells #[.slice none 0 0] n
theorem makeStrs (n : Nat) (hn : n ≤ 1048576) (w : World) : (Instr.makeSlice 22 (.int .i64 n) (.int .i64 n)).run Try.prog w = .ok (.slice (some ⟨w.heap.size, 0, none⟩) n n) (w.alloc (.cells (madeStrs n) 9)) :=
  run_make_row' (P := Try.prog) 22 9 (.string ⟨#[]⟩) 16 Try.underlying22 info9 rfl .i64 .i64 n (by omega) (by omega) w
theorem makeNils (n : Nat) (hn : n ≤ 1048576) (w : World) : (Instr.makeSlice 23 (.int .i64 n) (.int .i64 n)).run Try.prog w = .ok (.slice (some ⟨w.heap.size, 0, none⟩) n n) (w.alloc (.cells (madeNils n) 22)) :=
  run_make_row' (P := Try.prog) 23 22 (.slice none 0 0) 24 Try.underlying23 info22 rfl .i64 .i64 n (by omega) (by omega) w

theorem below_setCells {B : Nat} {a w : World} (h : Below B a w) {b : Nat} (hb : B ≤ b) : ∀ (vs : List Value) (o : Nat), Below B a (w.setCells b o vs)
  | vs, o => by
    induction vs generalizing w o with
    | nil => exact h
    | cons v vs ih => exact ih (h.setCell (p := ⟨b, o, none⟩) hb v) (o + 1)

/-- 'copy(c, s)': c new, of s's length. -/
theorem copyStrs (a : Option Addr) (n c : Nat) (f : Nat → ByteArray) (w : World) (hs : SlAt w a n fun j => .string (f j)) :
    ∃ w2, (∀ ty, (Builtin.copy_ #[22, 22] ty #[.slice (some ⟨w.heap.size, 0, none⟩) n n, .slice a n c]).run Try.prog (w.alloc (.cells (madeStrs n) 9)) = .ok (.int .i64 n) w2) ∧ SlAt w2 (some ⟨w.heap.size, 0, none⟩) n (fun j => .string (f j)) ∧ Below w.heap.size w w2 := by
  have hb0 := (Below.refl w.heap.size w).alloc (Nat.le_refl _) (.cells (madeStrs n) 9)
  have hsm := hs.small
  by_cases hn : n = 0
  · subst hn
    exact ⟨_, fun ty => run_copy_none (P := Try.prog) _ 22 22 ty 9 _ _ _ _ _ _ Try.underlying22 size9 rfl, ⟨by omega, fun h => by omega⟩, hb0⟩
  · obtain ⟨b, off, rfl, hlt, hc⟩ := hs.spot (by omega)
    have hrow : (w.alloc (.cells (madeStrs n) 9)).rowIs w.heap.size 9 n (fun _ => .string ⟨#[]⟩) := World.rowIs_made w (.string ⟨#[]⟩) n 9
    have hlen : ((List.range n).map fun j => Value.string (f j)).length = n := by simp
    have hbl := below_setCells hb0 (Nat.le_refl _) ((List.range n).map fun j => Value.string (f j)) 0
    refine ⟨(w.alloc (.cells (madeStrs n) 9)).setCells w.heap.size 0 ((List.range n).map fun j => .string (f j)), fun ty => ?_, ⟨hsm, fun _ => ⟨w.heap.size, 0, rfl, ?_, fun j hj => ?_⟩⟩, hbl⟩
    · have := run_copy_cells (P := Try.prog) (w.alloc (.cells (madeStrs n) 9)) 22 22 ty 9 w.heap.size 0 n n ⟨b, off, none⟩ n c ((List.range n).map fun j => .string (f j)) Try.underlying22 size9 (by simp) (fun j v hj => ?_) (fun j hj => ?_) (fun j hj => ?_) (fun v hv => ?_)
      · rw [this, hlen]; rfl
      · have hjn : j < n := by
          rcases Nat.lt_or_ge j n with h | h
          · exact h
          · rw [List.getElem?_eq_none (by simpa using h)] at hj; cases hj
        rw [List.getElem?_map, List.getElem?_range hjn] at hj
        cases hj
        have hadd : (⟨b, off, none⟩ : Addr).add j = ⟨b, off + j, none⟩ := by unfold Addr.add; split <;> simp_all
        rw [hadd, hb0.cell (p := ⟨b, off + j, none⟩) hlt]
        exact hc j hjn
      · rw [Nat.zero_add, hrow.cell (by omega)]; rfl
      · exact hrow.frozen _
      · obtain ⟨j, _, rfl⟩ := List.mem_map.1 hv
        rfl
    · have hc0 := World.cell?_setCells_in w.heap.size ((List.range n).map fun j => Value.string (f j)) 0 (w.alloc (.cells (madeStrs n) 9)) (fun i hi => by rw [Nat.zero_add, hrow.cell (by rw [hlen] at hi; exact hi)]; rfl) 0 (by omega)
      exact World.block_lt_of_cell? _ _ hc0
    · have := World.cell?_setCells_in w.heap.size ((List.range n).map fun j => Value.string (f j)) 0 (w.alloc (.cells (madeStrs n) 9)) (fun i hi => by rw [Nat.zero_add, hrow.cell (by rw [hlen] at hi; exact hi)]; rfl) j (by omega)
      rw [this]
      simp

/-- A copy of a list of strings: nil, or a new block. -/
def CloneRes (w w' : World) (n : Nat) (ss : Nat → ByteArray) (e : Ending) : Prop :=
  ∃ a c, e = .returned (.slice a n c) ∧ SlAt w' a n (fun j => .string (ss j)) ∧ ∀ x, a = some x → x.block = w.heap.size

theorem clone10 (a : Option Addr) (n c : Nat) (ss : Nat → ByteArray) (w : World) (hs : SlAt w a n fun j => .string (ss j)) (hn : n ≤ 1048576) :
    Calls Try.prog 10 #[.slice a n c] w fun e w' => CloneRes w w' n ss e ∧ Below w.heap.size w w' := by
  have hmk := makeStrs n hn
  have hnil := fun (w : World) (a : Option Addr) (n c : Nat) => Lib.run_eql_slice_nil (P := Try.prog) w 22 9 a n c 0 0 Try.underlying22
  obtain ⟨w2, hcp, hs2, hb2⟩ := copyStrs a n c ss w hs
  cases a with
  | none =>
    have h0 : n = 0 := by
      by_cases e : n = 0
      · exact e
      · obtain ⟨b, off, h, _⟩ := hs.spot (by omega)
        cases h
    subst h0
    go_enter Try.func10, Try.ntmps10
    go_wp2
    go_ret
    exact ⟨⟨none, 0, rfl, ⟨by omega, fun h => by omega⟩, fun x h => by cases h⟩, Below.refl _ _⟩
  | some ad =>
    have Hs : Hid (SlAt w2 (some ⟨w.heap.size, 0, none⟩) n (fun j => .string (ss j))) := hs2
    clear hs2
    go_enter Try.func10, Try.ntmps10
    go_wp2
    go_ret
    exact ⟨⟨_, _, rfl, Hs.out, fun x h => by cases h; rfl⟩, hb2⟩

theorem SlAt.setOther {w : World} {a : Option Addr} {n : Nat} {f : Nat → Value} (h : SlAt w a n f) {p : Addr} (hp : ∀ x, a = some x → x.block ≠ p.block) (v : Value) : SlAt (w.setCell p v) a n f := by
  refine ⟨h.small, fun hn => ?_⟩
  obtain ⟨b, off, rfl, hlt, hc⟩ := h.spot hn
  refine ⟨b, off, rfl, by simpa using hlt, fun j hj => ?_⟩
  rw [World.cell?_of_block (Below.heap_setCell w p v b (hp _ rfl))]
  exact hc j hj

/-- A deep copy of a list of lists. -/
def ListsRes (w' : World) (n : Nat) (ln : Nat → Nat) (ms : Nat → Nat → ByteArray) (e : Ending) : Prop :=
  ∃ a c la lc, e = .returned (.slice a n c) ∧ Lists w' a n la ln lc ms

set_option maxHeartbeats 400000 in
theorem cloneLists11 (a : Option Addr) (n c : Nat) (la : Nat → Option Addr) (ln lc : Nat → Nat) (ms : Nat → Nat → ByteArray) (w : World) (hs : Lists w a n la ln lc ms) (hn : n ≤ 1048576) (hl : ∀ k, k < n → ln k ≤ 1048576) :
    Calls Try.prog 11 #[.slice a n c] w fun e w' => ListsRes w' n ln ms e ∧ Below w.heap.size w w' := by
  have hmk := makeNils n hn
  have hnil := fun (w : World) (a : Option Addr) (n c : Nat) => Lib.run_eql_slice_nil (P := Try.prog) w 23 22 a n c 0 0 Try.underlying23
  cases a with
  | none =>
    have h0 : n = 0 := by
      by_cases e : n = 0
      · exact e
      · obtain ⟨b, off, h, _⟩ := hs.outer.spot (by omega)
        cases h
    subst h0
    go_enter Try.func11, Try.ntmps11
    go_wp2
    go_ret
    exact ⟨⟨none, 0, fun _ => none, fun _ => 0, rfl, ⟨by omega, fun h => by omega⟩, fun k hk => by omega⟩, Below.refl _ _⟩
  | some ad =>
    have hrow0 : (w.alloc (.cells (madeNils n) 22)).rowIs w.heap.size 22 n (fun _ => .slice none 0 0) := World.rowIs_made w (.slice none 0 0) n 22
    have hb0 := (Below.refl w.heap.size w).alloc (Nat.le_refl _) (.cells (madeNils n) 22)
    go_enter Try.func11, Try.ntmps11
    go_wp2
    clear hmk hnil
    go_loopw [4] (fun vi wr => ∃ (k : Nat) (la' : Nat → Option Addr) (lc' : Nat → Nat), k ≤ n ∧ vi = .int .i64 k ∧ Hid (wr.rowIs w.heap.size 22 n (fun j => if j < k then .slice (la' j) (ln j) (lc' j) else .slice none 0 0)) ∧
      Hid (∀ j, j < k → SlAt wr (la' j) (ln j) (fun i => .string (ms j i)) ∧ ∀ x, la' j = some x → w.heap.size < x.block) ∧ Below w.heap.size w wr ∧ w.heap.size < wr.heap.size) (fun vi _ => n - (intOf vi).toNat)
    case atStart => exact ⟨0, fun _ => none, fun _ => 0, Nat.zero_le _, rfl, hrow0.congr (fun j _ => by simp), fun j hj => by omega, hb0, by simp⟩
    case round =>
      obtain ⟨k, la', lc', hk, rfl, hrw, hin, hbl, hsz⟩ := hrel
      by_cases hlt : k < n
      · obtain ⟨b, off, hb, hix, hc'⟩ := hs.outer.elem23 hlt c
        have hc : wr.cell? ⟨b, off, none⟩ = some (.slice (la k) (ln k) (lc k)) := (hbl.cell (p := ⟨b, off, none⟩) hb).trans hc'
        go_wp2_with fail
        refine (clone10 (la k) (ln k) (lc k) (ms k) _ ((hs.inner k hlt).below hbl) (hl k hlt)).mono ?_
        rintro e w2 ⟨⟨a2, c2, rfl, hs2, hx2⟩, hb2⟩
        have hbl2 := hbl.trans (hb2.mono hbl.size)
        have hrw2 := hrw.out.of_block (w' := w2) (hb2.block _ hsz)
        have hf1 := hrw2.frozen k
        have hc1 := hrw2.cell (i := k) hlt
        have Hrow := show Hid (World.rowIs _ _ _ _ _) from (hrw2.set k (.slice a2 (ln k) c2)).congr (g := fun j => if j < k + 1 then .slice (if j = k then a2 else la' j) (ln j) (if j = k then c2 else lc' j) else .slice none 0 0) (fun j _ => by
          by_cases e1 : j = k
          · subst e1
            simp
          · rw [if_neg e1]
            by_cases e3 : j < k
            · rw [if_pos e3, if_pos (by omega), if_neg e1, if_neg e1]
            · rw [if_neg e3, if_neg (by omega)])
        have Hin : Hid (∀ j, j < k + 1 → SlAt (w2.setCell ⟨w.heap.size, k, none⟩ (.slice a2 (ln k) c2)) (if j = k then a2 else la' j) (ln j) (fun i => .string (ms j i)) ∧ ∀ x, (if j = k then a2 else la' j) = some x → w.heap.size < x.block) := fun j hj => by
          by_cases e1 : j = k
          · subst e1
            rw [if_pos rfl]
            have hx : ∀ x, a2 = some x → w.heap.size < x.block := fun x hx => by rw [hx2 x hx]; exact hsz
            exact ⟨hs2.setOther (fun x he => by have := hx x he; show x.block ≠ w.heap.size; omega) _, hx⟩
          · rw [if_neg e1]
            obtain ⟨h1, h2⟩ := hin.out j (by omega)
            exact ⟨(h1.below hb2).setOther (fun x he => by have := h2 x he; show x.block ≠ w.heap.size; omega) _, h2⟩
        have hbl3 := hbl2.setCell (p := ⟨w.heap.size, k, none⟩) (Nat.le_refl _) (.slice a2 (ln k) c2)
        have hsz3 : w.heap.size < (w2.setCell ⟨w.heap.size, k, none⟩ (.slice a2 (ln k) c2)).heap.size := by have := hb2.size; simp; omega
        clear hs2 hin hrw hrw2
        go_wp2_with fail
        go_roundw
        case rel => exact ⟨k + 1, fun j => if j = k then a2 else la' j, fun j => if j = k then c2 else lc' j, by omega, by go_num, Hrow, Hin, hbl3, hsz3⟩
        case measure => simp [intOf]; omega
      · have Hrow : Hid (wr.rowIs w.heap.size 22 n (fun j => .slice (la' j) (ln j) (lc' j))) := hrw.out.congr (fun j hj => by rw [if_pos (by omega)])
        clear hrw
        go_wp2_with fail
        go_ret
        exact ⟨⟨_, _, la', lc', rfl, ⟨by omega, fun h => ⟨w.heap.size, 0, rfl, hsz, fun j hj => by rw [Nat.zero_add]; exact Hrow.out.cell hj⟩⟩, fun j hj => (hin.out j (by omega)).1⟩, hbl⟩

set_option maxHeartbeats 400000 in
/-- Two lists of the same strings. -/
theorem same13 (a1 a2 : Option Addr) (n c1 c2 : Nat) (ss : Nat → ByteArray) (w : World) (h1 : SlAt w a1 n fun j => .string (ss j)) (h2 : SlAt w a2 n fun j => .string (ss j)) :
    Calls Try.prog 13 #[.slice a1 n c1, .slice a2 n c2] w fun e w' => e = .returned (.bool true) ∧ Below w.heap.size w w' := by
  have hn0 := h1.small
  go_enter Try.func13, Try.ntmps13
  go_wp2_with fail
  go_loopw [5] (fun v wr => ∃ t : Nat, t ≤ n ∧ v = .int .i64 t ∧ Below w.heap.size w wr) (fun v _ => n - (intOf v).toNat)
  case atStart => exact ⟨0, Nat.zero_le _, rfl, Below.refl _ _⟩
  case round =>
    obtain ⟨t, ht, rfl, hbl⟩ := hrel
    by_cases hlt : t < n
    · obtain ⟨b1, o1, _, hix1, hc1⟩ := (h1.below hbl).elem22 hlt c1
      obtain ⟨b2, o2, _, hix2, hc2⟩ := (h2.below hbl).elem22 hlt c2
      generalize ss t = s at hc1 hc2
      go_wp2_with fail
      go_quiet (fail)
      go_wp2_with fail
      go_roundw
      case rel => exact ⟨t + 1, by omega, by go_num, below_drewN hbl _⟩
      case measure => simp [intOf]; omega
    · go_wp2
      go_ret
      exact ⟨rfl, hbl⟩

end Go.Proofs.Qxb6605609a
