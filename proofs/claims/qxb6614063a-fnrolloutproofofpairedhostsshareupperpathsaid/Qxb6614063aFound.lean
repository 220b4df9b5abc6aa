/-
  Proof(hosts[k]) of a derived rollout: found, at k, with its path.
-/
import Derived.Test.Qxb6614063aLaw8
import Derived.Test.Qxb6614063aProofIs
import Derived.Test.Qxb6614063aTwins
import Derived.Deep.RegionHeld3
namespace Go.Proofs.Qxb6614063a
open Go.RowKit

/-- What Proof(hosts[k]) hands back. -/
def HereRes (h : Nat) (ss cs : Nat → ByteArray) (xs : Nat → Int) (L : List ByteArray) (k : Nat) (e : Ending) (w' : World) : Prop :=
  ∃ (pb : Nat) (pa : Option Addr) (pc : Nat), e = .returned (.tuple #[.pointer (some ⟨pb, 0, none⟩), .bool true]) ∧ h ≤ pb ∧
    w'.cell? ⟨pb, 0, none⟩ = some (.string (ss k)) ∧ w'.cell? ⟨pb, 1, none⟩ = some (.string (cs k)) ∧ w'.cell? ⟨pb, 2, none⟩ = some (.int .i64 (xs k)) ∧ w'.cell? ⟨pb, 3, none⟩ = some (.int .i64 k) ∧
    w'.cell? ⟨pb, 4, none⟩ = some (.slice pa L.length pc) ∧ SlAt w' pa L.length (fun j => .string (L.getD j ByteArray.empty))

theorem here23 (ch id : ByteArray) (ma sa : Option Addr) (mn mc sn sc : Nat) (tb eb n m : Nat) (la0 : Option Addr) (lc0 : Nat) (la : Nat → Option Addr) (ln lc : Nat → Nat) (bs : Nat → Nat → Nat → Int) (ss cs : Nat → ByteArray) (xs : Nat → Int) (k : Nat) (w : World)
    (hk : k < n) (hE : EntsAt w eb n ss cs xs) (hL : LevAt w la0 m la ln lc bs) (hT : TreeOk n m ln) (hn : n ≤ 4096) (hm : m ≤ 64) (ha : Asc ss n)
    (ht0 : w.cell? ⟨tb, 0, none⟩ = some (.slice (some ⟨eb, 0, none⟩) n n)) (ht1 : w.cell? ⟨tb, 1, none⟩ = some (.slice la0 m lc0)) :
    Calls Try.prog 23 #[.agg #[.string ch, .string id, .slice ma mn mc, .slice sa sn sc, .pointer (some ⟨tb, 0, none⟩)], .string (ss k)] w fun e w' => HereRes w.heap.size ss cs xs (pathTo ln bs k (m - 1)) k e w' ∧ Below w.heap.size w w' := by
  refine (proof23_some ch id ma sa mn mc sn sc tb eb n m la0 lc0 la ln lc bs ss cs xs (ss k) w hE hL hT hn hm ha ht0 ht1).mono ?_
  rintro e w' ⟨hres, hB⟩
  refine ⟨?_, hB⟩
  rcases hres with ⟨_, hno⟩ | ⟨i, pb, pa, pc, rfl, hi, hq, hpb, p0, p1, p2, p3, p4, p5⟩
  · exact absurd rfl (hno k hk)
  · obtain rfl : i = k := ha.ne hi hk hq
    exact ⟨pb, pa, pc, rfl, hpb, p0, p1, p2, p3, p4, p5⟩

/-- The rollout's own variable, just made. -/
theorem structAt (w : World) (v0 v1 v2 v3 v4 : Value) : ∃ Wb, w.alloc (.cells #[v0, v1, v2, v3, v4] 47) = Wb ∧ Wb.cell? ⟨w.heap.size, 0, none⟩ = some v0 ∧ Wb.cell? ⟨w.heap.size, 1, none⟩ = some v1 ∧ Wb.cell? ⟨w.heap.size, 2, none⟩ = some v2 ∧ Wb.cell? ⟨w.heap.size, 3, none⟩ = some v3 ∧ Wb.cell? ⟨w.heap.size, 4, none⟩ = some v4 ∧
    Below w.heap.size w Wb ∧ w.heap.size < Wb.heap.size := by
  refine ⟨_, rfl, ?_, ?_, ?_, ?_, ?_, (Below.refl _ _).alloc (Nat.le_refl _) _, by simp⟩
  all_goals
    rw [cell_of_row _ _ _ _ 47 (0, 0) (Go.Deep.blk_alloc_new _ _)]
    rfl

/-- The two paths, by index. -/
theorem twins_at {n m : Nat} {ln : Nat → Nat} (bs : Nat → Nat → Nat → Int) {k : Nat} (hT : TreeOk n m ln) (hm : m ≤ 64) (hk : k < n) (hs : sib k < n) :
    ∃ (N : Nat) (fp fq : Nat → ByteArray), 0 < N ∧ N ≤ 64 ∧ (pathTo ln bs k (m - 1)).length = N ∧ (pathTo ln bs (sib k) (m - 1)).length = N ∧ (∀ j, (pathTo ln bs k (m - 1)).getD j ByteArray.empty = fp j) ∧ (∀ j, (pathTo ln bs (sib k) (m - 1)).getD j ByteArray.empty = fq j) ∧
      fp 0 = hexStr (bs 0 (sib k)) ∧ fq 0 = hexStr (bs 0 k) ∧ ∀ s, fp (s + 1) = fq (s + 1) := by
  have hne : sib k ≠ k := fun e => ((sib_iff k (sib k)).1 rfl).1 e
  obtain ⟨t, ht⟩ := tree_two hT (by omega)
  obtain ⟨T, h1, h2⟩ := paths_twin ln bs k (by rw [hT.leaves]; exact hk) (by rw [hT.leaves]; exact hs) t
  have hl := pathTo_length ln bs k (m - 1)
  rw [ht] at hl ⊢
  rw [h1] at hl
  rw [h1, h2]
  simp only [List.length_cons] at hl
  exact ⟨T.length + 1, fun j => (hexStr (bs 0 (sib k)) :: T).getD j ByteArray.empty, fun j => (hexStr (bs 0 k) :: T).getD j ByteArray.empty, by omega, by omega, rfl, rfl, fun _ => rfl, fun _ => rfl, rfl, rfl, fun _ => rfl⟩

end Go.Proofs.Qxb6614063a
