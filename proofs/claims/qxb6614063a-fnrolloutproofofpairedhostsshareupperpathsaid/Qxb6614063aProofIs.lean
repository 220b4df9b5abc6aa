/-
  zzB1ProofIs: is p that host's entry at its index, with that path?
-/
import Derived.Test.Qxb6614063aSib
import Derived.Test.Qxb6614063aFind
namespace Go.Proofs.Qxb6614063a
open Go.RowKit

set_option maxHeartbeats 1000000 in
set_option maxRecDepth 100000 in
theorem proofIs24 (pb : Nat) (pa ha ca xa la0 : Option Addr) (pc n hc cc xc m lc0 : Nat) (la : Nat → Option Addr) (ln lc : Nat → Nat) (bs : Nat → Nat → Nat → Int) (ss cs : Nat → ByteArray) (xs : Nat → Int) (i : Nat) (w : World)
    (hL : LevAt w la0 m la ln lc bs) (hm : m ≤ 64) (hm1 : 1 ≤ m) (hn : n ≤ 4096) (hi : i < n)
    (hss : SlAt w ha n fun j => .string (ss j)) (hcs : SlAt w ca n fun j => .string (cs j)) (hxs : SlAt w xa n fun j => .int .i64 (xs j))
    (p0 : w.cell? ⟨pb, 0, none⟩ = some (.string (ss i))) (p1 : w.cell? ⟨pb, 1, none⟩ = some (.string (cs i))) (p2 : w.cell? ⟨pb, 2, none⟩ = some (.int .i64 (xs i))) (p3 : w.cell? ⟨pb, 3, none⟩ = some (.int .i64 i))
    (p4 : w.cell? ⟨pb, 4, none⟩ = some (.slice pa (pathTo ln bs i (m - 1)).length pc)) (p5 : SlAt w pa (pathTo ln bs i (m - 1)).length (fun j => .string ((pathTo ln bs i (m - 1)).getD j ByteArray.empty))) :
    Calls Try.prog 24 #[.pointer (some ⟨pb, 0, none⟩), .slice ha n hc, .slice ca n cc, .slice xa n xc, .slice la0 m lc0, .int .i64 i] w fun e w' => e = .returned (.bool true) ∧ Below w.heap.size w w' := by
  obtain ⟨b1, o1, hb1, hix1, hc1⟩ := hss.elem29 hi hc
  obtain ⟨b2, o2, hb2, hix2, hc2⟩ := hcs.elem29 hi cc
  obtain ⟨b3, o3, hb3, hix3, hc3⟩ := hxs.elem30 hi xc
  have hplt := World.block_lt_of_cell? _ _ p0
  have hlen := pathTo_length ln bs i (m - 1)
  generalize hLL : pathTo ln bs i (m - 1) = L at p4 p5 hlen
  go_enter Try.func24, Try.ntmps24
  go_wp2_with fail
  go_quiet (fail)
  go_wp2_with fail
  refine (sibPath30 la0 m lc0 la ln lc bs i _ (hL.below (below_drewN (Below.refl _ _) _)) hm hm1 (by omega)).mono ?_
  rintro e w2 ⟨⟨qa, qc, rfl, hq⟩, hB2'⟩
  have hB2 : Below w.heap.size w w2 := (below_drewN (Below.refl _ _) _).trans hB2'
  rw [hLL] at hq
  rw [hLL]
  have q4 := (hB2.cell (p := ⟨pb, 4, none⟩) hplt).trans p4
  have q5 := p5.below hB2
  clear p0 p1 p2 p3 p4 p5 hix1 hix2 hix3 hc1 hc2 hc3 hss hcs hxs hL hB2'
  go_wp2_with fail
  have hplt2 := World.block_lt_of_cell? _ _ q4
  go_loopw [14] (fun v wr => ∃ t : Nat, t ≤ L.length ∧ v = .int .i64 t ∧ Below w2.heap.size w2 wr) (fun v _ => L.length - (intOf v).toNat)
  case atStart => exact ⟨0, Nat.zero_le _, rfl, Below.refl _ _⟩
  case round =>
    obtain ⟨t, ht, rfl, hbl⟩ := hrel
    have hbw := hB2.trans (hbl.mono hB2.size)
    by_cases hlt : t < L.length
    · obtain ⟨b1, o1, _, hix1, hc1⟩ := (hq.below hbl).elem29 hlt qc
      obtain ⟨b2, o2, _, hix2, hc2⟩ := (q5.below hbl).elem29 hlt pc
      have q4' := (hbl.cell (p := ⟨pb, 4, none⟩) hplt2).trans q4
      generalize L.getD t ByteArray.empty = s at hc1 hc2
      clear hq q4 q5
      go_wp2_with fail
      go_quiet (fail)
      go_wp2_with fail
      go_roundw
      case rel => exact ⟨t + 1, by omega, by go_num, below_drewN hbl _⟩
      case measure => simp [intOf]; omega
    · go_wp2
      go_ret
      exact ⟨rfl, hbw⟩

end Go.Proofs.Qxb6614063a
