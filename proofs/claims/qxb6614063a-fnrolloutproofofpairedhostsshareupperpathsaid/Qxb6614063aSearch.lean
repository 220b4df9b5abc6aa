/-
  THE SEARCH: strings.Compare, the comparison of an entry with a name, slices.BinarySearchFunc over the entries.
-/
import Derived.Test.Qxb6614063aIn
import Derived.Test.Qxb6614063aOrder
import Derived.Lib.Walk
import Derived.Deep.OwnRows
import Derived.Outline
namespace Go.Proofs.Qxb6614063a
open Go.RowKit

set_option maxHeartbeats 1000000 in
set_option maxRecDepth 100000 in
theorem compareString36 (a b : ByteArray) (w : World) :
    Calls Try.prog 36 #[.string a, .string b] w fun e w' => e = .returned (.int .i64 (Lib.compareBytes a.data.toList b.data.toList)) ∧ w' = w := by
  go_enter Try.func36, Try.ntmps36
  go_wp2
  rw [run_callFunc_extern Try.func39 (by kernel_rfl) (by kernel_rfl) (by kernel_rfl) (e := Extern.BytealgCompare.compare) (by kernel_rfl), Lib.run_compareString]
  simp only [Result.andThen]
  rw [Oper.upon_value]
  go_wp2
  go_ret
  exact ⟨rfl, rfl⟩

theorem compare34 (a b : ByteArray) (w : World) :
    Calls Try.prog 34 #[.string a, .string b] w fun e w' => e = .returned (.int .i64 (Lib.compareBytes a.data.toList b.data.toList)) ∧ w' = w := by
  go_enter Try.func34, Try.ntmps34
  go_wp2_with fail
  refine (compareString36 _ _ _).mono ?_
  rintro e w' ⟨rfl, rfl⟩
  go_wp2
  go_ret
  exact ⟨rfl, rfl⟩

theorem cmpEntry33 (h c : ByteArray) (x : Int) (q : ByteArray) (w : World) :
    Calls Try.prog 33 #[.agg #[.string h, .string c, .int .i64 x], .string q] w fun e w' => e = .returned (.int .i64 (Lib.compareBytes h.data.toList q.data.toList)) ∧ Below w.heap.size w w' := by
  go_enter Try.func33, Try.ntmps33
  go_wp2_with fail
  refine (compare34 _ _ _).mono ?_
  rintro e w' ⟨rfl, rfl⟩
  go_wp2
  go_ret
  exact ⟨rfl, (Below.refl _ _).alloc (Nat.le_refl _) _⟩

/-- The cells of the entries: three an entry: host, closure, wave. -/
def entryCell (ss cs : Nat → ByteArray) (xs : Nat → Int) (j : Nat) : Value :=
  if j % 3 = 0 then .string (ss (j / 3)) else if j % 3 = 1 then .string (cs (j / 3)) else .int .i64 (xs (j / 3))

/-- Block eb holds n entries. -/
def EntsAt (w : World) (eb n : Nat) (ss cs : Nat → ByteArray) (xs : Nat → Int) : Prop := w.rowIs eb 56 (n * 3) (entryCell ss cs xs)

theorem EntsAt.below {w w' : World} {eb n : Nat} {ss cs : Nat → ByteArray} {xs : Nat → Int} (h : EntsAt w eb n ss cs xs) (hb : Below w.heap.size w w') : EntsAt w' eb n ss cs xs :=
  World.rowIs.of_block h (hb.block _ h.lt)

theorem EntsAt.cells {w : World} {eb n : Nat} {ss cs : Nat → ByteArray} {xs : Nat → Int} (h : EntsAt w eb n ss cs xs) {k : Nat} (hk : k < n) :
    w.cell? ⟨eb, k * 3, none⟩ = some (.string (ss k)) ∧ w.cell? ⟨eb, k * 3 + 1, none⟩ = some (.string (cs k)) ∧ w.cell? ⟨eb, k * 3 + 2, none⟩ = some (.int .i64 (xs k)) := by
  refine ⟨?_, ?_, ?_⟩
  · rw [World.rowIs.cell h (by omega), entryCell, if_pos (by omega), show k * 3 / 3 = k by omega]
  · rw [World.rowIs.cell h (by omega), entryCell, if_neg (by omega), if_pos (by omega), show (k * 3 + 1) / 3 = k by omega]
  · rw [World.rowIs.cell h (by omega), entryCell, if_neg (by omega), if_neg (by omega), show (k * 3 + 2) / 3 = k by omega]

/-- What the search answers. -/
def FoundRes (ss : Nat → ByteArray) (n : Nat) (q : ByteArray) (e : Ending) : Prop :=
  ∃ (i : Nat) (b : Bool), e = .returned (.tuple #[.int .i64 i, .bool b]) ∧ i ≤ n ∧ (b = true → i < n ∧ ss i = q) ∧ (b = false → ∀ k, k < n → ss k ≠ q)

theorem search32 (eb n : Nat) (ss cs : Nat → ByteArray) (xs : Nat → Int) (q : ByteArray) (w : World) (hE : EntsAt w eb n ss cs xs) (hn : n ≤ 4096) (ha : Asc ss n) :
    Calls Try.prog 32 #[.slice (some ⟨eb, 0, none⟩) n n, .string q, .func (.func 33) #[] #[]] w fun e w' => FoundRes ss n q e ∧ Below w.heap.size w w' := by
  go_enter Try.func32, Try.ntmps32
  go_wp2
  go_loopw [9, 10, 11] (fun a b _ wr => Below w.heap.size w wr ∧ ∃ i j : Nat, i ≤ j ∧ j ≤ n ∧ a = .int .i64 i ∧ b = .int .i64 j ∧ (∀ k, k < i → Op.bytesLess (ss k).toList q.toList = true) ∧ ∀ k, j ≤ k → k < n → Op.bytesLess (ss k).toList q.toList = false) (fun a b _ _ => (intOf b - intOf a).toNat)
  case atStart => exact ⟨Below.refl _ _, 0, n, Nat.zero_le _, Nat.le_refl _, rfl, rfl, fun k h => absurd h (Nat.not_lt_zero _), fun k h1 h2 => by omega⟩
  case round =>
    obtain ⟨hbl, i, j, hij, hjn, rfl, rfl, hlo, hhi⟩ := hrel
    have Hlo : Hid (∀ k, k < i → Op.bytesLess (ss k).toList q.toList = true) := hlo
    have Hhi : Hid (∀ k, j ≤ k → k < n → Op.bytesLess (ss k).toList q.toList = false) := hhi
    clear hlo hhi
    have hEr := hE.below hbl
    by_cases hlt : i < j
    · obtain ⟨c0, c1, c2⟩ := hEr.cells (k := (i + j) / 2) (by omega)
      go_wp2_with fail
      refine (cmpEntry33 _ _ _ _ _).mono ?_
      rintro e w1 ⟨rfl, hb1'⟩
      have hb1 := hbl.trans (hb1'.mono hbl.size)
      clear hb1' c0 c1 c2 hEr
      have hL := cmp_neg (ss ((i + j) / 2)).data.toList q.data.toList
      rw [← ByteArray.toList_eq, ← ByteArray.toList_eq] at hL
      have HL : Hid (Lib.compareBytes (ss ((i + j) / 2)).toList q.toList < 0 ↔ Op.bytesLess (ss ((i + j) / 2)).toList q.toList = true) := hL
      clear hL
      rw [← ByteArray.toList_eq, ← ByteArray.toList_eq]
      generalize Lib.compareBytes (ss ((i + j) / 2)).toList q.toList = z at HL ⊢
      by_cases hz : z < 0
      · go_wp2_with fail
        go_roundw
        case rel =>
          refine ⟨hb1, (i + j) / 2 + 1, j, by omega, hjn, by go_num, rfl, fun k hk => ?_, Hhi.out⟩
          by_cases e : k = (i + j) / 2
          · subst e; exact HL.out.1 hz
          · exact less_trans (ha.lt (show k < (i + j) / 2 by omega) (by omega)) (HL.out.1 hz)
        case measure => simp [intOf]; omega
      · go_wp2_with fail
        go_roundw
        case rel =>
          have h0 : Op.bytesLess (ss ((i + j) / 2)).toList q.toList = false := by
            cases hb : Op.bytesLess (ss ((i + j) / 2)).toList q.toList
            · rfl
            · have := HL.out.2 hb; omega
          refine ⟨hb1, i, (i + j) / 2, by omega, by omega, rfl, by go_num, Hlo.out, fun k hk1 hk2 => ?_⟩
          by_cases e : k = (i + j) / 2
          · subst e; exact h0
          · cases hb : Op.bytesLess (ss k).toList q.toList
            · rfl
            · rw [less_trans (ha.lt (show (i + j) / 2 < k by omega) hk2) hb] at h0
              cases h0
        case measure => simp [intOf]; omega
    · obtain rfl : i = j := by omega
      have Hno : Hid (∀ k, k < n → k ≠ i → ss k ≠ q) := fun k hk hne e => by
        rcases Nat.lt_or_ge k i with h | h
        · have h1 := Hlo.out k h
          rw [e, less_irrefl] at h1
          cases h1
        · have h1 := Hhi.out i (Nat.le_refl _) (by omega)
          have h2 := ha.lt (show i < k by omega) hk
          rw [e, h1] at h2
          cases h2
      by_cases hin : i < n
      · obtain ⟨c0, c1, c2⟩ := hEr.cells hin
        go_wp2_with fail
        refine (cmpEntry33 _ _ _ _ _).mono ?_
        rintro e w1 ⟨rfl, hb1'⟩
        have hb1 := hbl.trans (hb1'.mono hbl.size)
        clear hb1' c0 c1 c2 hEr
        have HZ : Hid (Lib.compareBytes (ss i).data.toList q.data.toList = 0 ↔ (ss i).data.toList = q.data.toList) := cmp_zero _ _
        generalize Lib.compareBytes (ss i).data.toList q.data.toList = z at HZ ⊢
        by_cases hz : z = 0
        · have hz1 : (z == 0) = true := beq_iff_eq.2 hz
          have he : ss i = q := WideShapes.bytes_inj (HZ.out.1 hz)
          have He : Hid (ss i = q) := he
          clear he hz
          go_wp2
          go_ret2
          exact ⟨⟨i, true, rfl, by omega, fun _ => ⟨hin, He.out⟩, fun h => by cases h⟩, hb1⟩
        · have hz1 : (z == 0) = false := beq_eq_false_iff_ne.2 hz
          have He : Hid (ss i ≠ q) := fun e => hz (HZ.out.2 (by rw [e]))
          go_wp2
          go_ret2
          refine ⟨⟨i, false, rfl, by omega, (fun h => by cases h), fun _ k hk => ?_⟩, hb1⟩
          by_cases e : k = i
          · subst e; exact He.out
          · exact Hno.out k hk e
      · go_wp2
        go_ret2
        exact ⟨⟨i, false, rfl, by omega, (fun h => by cases h), fun _ k hk => Hno.out k hk (by omega)⟩, hbl⟩

end Go.Proofs.Qxb6614063a
