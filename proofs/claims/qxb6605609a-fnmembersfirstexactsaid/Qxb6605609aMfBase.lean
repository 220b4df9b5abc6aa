/-
  membersFirst: its code in parts; what it is handed.
-/
import Derived.Test.Qxb6605609aHeapP
import Derived.Test.Qxb6605609aCreat
import Derived.Test.Qxb6605609aRc
import Derived.Deep.CutRange
import Derived.Deep.RegionHeld3
namespace Go.Proofs.Qxb6605609a
open Go.RowKit

/-- Does the code begin with region k? -/
def begins (k : Nat) : Code → Bool
  | .region n _ _ => n == k
  | .seq a _ => begins k a
  | _ => false
/-- The code from region k on. -/
def tailAt (k : Nat) : Code → Option Code
  | .seq a b => if begins k a then some (.seq a b) else tailAt k b
  | .scope c => tailAt k c
  | .region n o d => if n == k then some (.region n o d) else none
  | _ => none
noncomputable def code25 (k : Nat) : Code := (Try.f25.body.bind (tailAt k)).getD .skip

noncomputable def head25 (k : Nat) : Code := match code25 k with
  | .seq a _ => a
  | c => c
noncomputable def rest25 (k : Nat) : Code := match code25 k with
  | .seq _ b => b
  | _ => .skip
/-- From region k on. -/
def From25 (k : Nat) (Post : Ending → World → Prop) (a : Act) (w : World) : Prop :=
  ∀ K : Act → World → Prop, (∀ a w, (rest25 k).wp Try.prog (bodyPost Try.prog Try.f25 Post) a w → K a w) → (head25 k).wp Try.prog (Exit.then K (bodyPost Try.prog Try.f25 Post)) a w

/-- What membersFirst is handed: the creations in block cb of the world w. -/
structure MF (w : World) (cb n : Nat) (gb : Nat → Nat) (ss : Nat → ByteArray) (la : Nat → Option Addr) (ln lc : Nat → Nat) (ms : Nat → Nat → ByteArray) : Prop where
  nle : n ≤ 4096
  cr : Created w cb n gb ss la ln lc ms
  ssz : ∀ i, (ss i).size ≤ maxLen
  msz : ∀ i j, (ms i j).size ≤ maxLen
  len : ∀ i, i < n → ln i ≤ 131072
  inj : ∀ i j, i < n → j < n → ss i = ss j → i = j
  mono : ∀ i j, i < n → j < n → i ≤ j → (ss i).data.toList ≤ (ss j).data.toList
  mono' : ∀ i j, i < n → j < n → (ss i).data.toList ≤ (ss j).data.toList → i ≤ j

theorem elem37 {cb n i : Nat} (hi : i < n) (w : World) : (Instr.indexAt 37 (.slice (some ⟨cb, 0, none⟩) n n) (.int .i64 (i : Int))).run Try.prog w = .ok (.pointer (some ⟨cb, i * 5, none⟩)) w := by
  have h1 : (i : Int) < (n : Int) := by omega
  have h2 : (0 : Int) ≤ (i : Int) := by omega
  go_simp

section
variable {w : World} {cb n : Nat} {gb : Nat → Nat} {ss : Nat → ByteArray} {la : Nat → Option Addr} {ln lc : Nat → Nat} {ms : Nat → Nat → ByteArray}
theorem chCell0 (gb : Nat → Nat) (i : Nat) : chCell gb (i * 5) = .int .i64 0 := by simp [chCell]
theorem chCell1 (gb : Nat → Nat) (i : Nat) : chCell gb (i * 5 + 1) = .pointer none := by
  unfold chCell; rw [if_neg (by omega), if_neg (by omega)]
theorem chCell2 (gb : Nat → Nat) (i : Nat) : chCell gb (i * 5 + 2) = .pointer none := by
  unfold chCell; rw [if_neg (by omega), if_neg (by omega)]
theorem chCell3 (gb : Nat → Nat) (i : Nat) : chCell gb (i * 5 + 3) = .pointer none := by
  unfold chCell; rw [if_neg (by omega), if_neg (by omega)]
theorem chCell4 (gb : Nat → Nat) (i : Nat) : chCell gb (i * 5 + 4) = .pointer (some ⟨gb i, 0, none⟩) := by
  unfold chCell; rw [if_neg (by omega), if_pos (by omega), show (i * 5 + 4) / 5 = i by omega]

/-- The cells of creation i and of its group, in a later world. -/
theorem MF.cells (h : MF w cb n gb ss la ln lc ms) {wx : World} (hb : Below w.heap.size w wx) {i : Nat} (hi : i < n) :
    wx.cell? ⟨cb, i * 5, none⟩ = some (.int .i64 0) ∧ wx.cell? ⟨cb, i * 5 + 1, none⟩ = some (.pointer none) ∧ wx.cell? ⟨cb, i * 5 + 2, none⟩ = some (.pointer none) ∧ wx.cell? ⟨cb, i * 5 + 3, none⟩ = some (.pointer none) ∧ wx.cell? ⟨cb, i * 5 + 4, none⟩ = some (.pointer (some ⟨gb i, 0, none⟩)) ∧
    wx.cell? ⟨gb i, 0, none⟩ = some (.string (ss i)) ∧ wx.cell? ⟨gb i, 2, none⟩ = some (.slice (la i) (ln i) (lc i)) := by
  have hc := h.cr.below hb
  have r := hc.row
  have g := hc.grp i hi
  have c : ∀ f, f < 5 → wx.cell? ⟨cb, i * 5 + f, none⟩ = some (chCell gb (i * 5 + f)) := fun f hf => r.cell (by omega)
  have c0 := c 0 (by omega)
  rw [Nat.add_zero, chCell0] at c0
  have c1 := c 1 (by omega)
  rw [chCell1] at c1
  have c2 := c 2 (by omega)
  rw [chCell2] at c2
  have c3 := c 3 (by omega)
  rw [chCell3] at c3
  have c4 := c 4 (by omega)
  rw [chCell4] at c4
  exact ⟨c0, c1, c2, c3, c4, by simp [World.cell?, g, grpObj], by simp [World.cell?, g, grpObj]⟩
end

end Go.Proofs.Qxb6605609a
