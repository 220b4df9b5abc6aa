/-
  THE VARINT'S BYTES, AS THE LAW READS THEM. No Go in sight.
-/
import Derived.Lib.Varint
import Derived.Lib.VarintBits
namespace Go.Proofs.Qxb6605731a

/-- The header's bytes as numbers. -/
def hdr (x : Nat) : List Int := (Lib.uvarint x).map fun b => (b.toNat : Int)
/-- What 7-bit groups, the least first, spell. -/
def val7 : List Int → Int
  | [] => 0
  | b :: r => b % 128 + 128 * val7 r

theorem hdr_small {x : Nat} (h : x < 128) : hdr x = [(x : Int)] := by
  rw [hdr, Lib.uvarint_small h]
  simp
  omega
theorem hdr_big {x : Nat} (h : 128 ≤ x) : hdr x = ((x % 128 + 128 : Nat) : Int) :: hdr (x / 128) := by
  rw [hdr, Lib.uvarint_big h, List.map_cons, hdr]
  congr 1
  simp
  omega

/-- What the law asks of a header that spells x. -/
structure HdrOk (x : Nat) (l : List Int) : Prop where
  pos : 1 ≤ l.length
  byte : ∀ i, 0 ≤ l.getD i 0 ∧ l.getD i 0 < 256
  more : ∀ i, i + 1 < l.length → 128 ≤ l.getD i 0
  last : l.getD (l.length - 1) 0 < 128
  lead : 1 < l.length → l.getD (l.length - 1) 0 ≠ 0
  spells : val7 l = x

theorem hdrOk (x : Nat) : HdrOk x (hdr x) := by
  by_cases h : x < 128
  · rw [hdr_small h]
    refine ⟨by simp, fun i => ?_, fun i hi => ?_, ?_, fun hi => ?_, ?_⟩
    · cases i with
      | zero => exact ⟨by simp, by simp; omega⟩
      | succ i => exact ⟨by simp, by simp⟩
    · simp at hi
    · simp; omega
    · simp at hi
    · simp [val7]; omega
  · have ih := hdrOk (x / 128)
    have hp := ih.pos
    rw [hdr_big (by omega)]
    have e1 : (((x % 128 + 128 : Nat) : Int) :: hdr (x / 128)).length - 1 = ((hdr (x / 128)).length - 1) + 1 := by simp; omega
    refine ⟨by simp, fun i => ?_, fun i hi => ?_, ?_, fun hi => ?_, ?_⟩
    · cases i with
      | zero => exact ⟨by simp; omega, by simp; omega⟩
      | succ i => exact ih.byte i
    · cases i with
      | zero => simp; omega
      | succ i => exact ih.more i (by simpa using hi)
    · rw [e1]; exact ih.last
    · rw [e1]
      show (hdr (x / 128)).getD ((hdr (x / 128)).length - 1) 0 ≠ 0
      by_cases h1 : 1 < (hdr (x / 128)).length
      · exact ih.lead h1
      · by_cases h2 : x / 128 < 128
        · rw [hdr_small h2]
          simp
          omega
        · rw [hdr_big (by omega)] at h1
          have := (hdrOk (x / 128 / 128)).pos
          simp at h1
          rw [h1] at this
          simp at this
    · show ((x % 128 + 128 : Nat) : Int) % 128 + 128 * val7 (hdr (x / 128)) = x
      rw [ih.spells]
      omega
termination_by x
decreasing_by all_goals omega

theorem hdr_length {x : Nat} (h : x ≤ 1048576) : (hdr x).length ≤ 3 := by
  rw [hdr, List.length_map]
  exact Lib.uvarint_length 2 x (by omega)

/-- The rest's value, group by group. -/
theorem val7_drop : ∀ (l : List Int) (i : Nat), i < l.length → val7 (l.drop i) = l.getD i 0 % 128 + 128 * val7 (l.drop (i + 1))
  | b :: r, 0, _ => by simp [val7]
  | b :: r, i + 1, h => by
    have := val7_drop r i (by simpa using h)
    simpa using this
  | [], i, h => by simp at h

theorem val7_nonneg : ∀ (l : List Int), 0 ≤ val7 l
  | [] => by simp [val7]
  | b :: r => by
    have := val7_nonneg r
    simp only [val7]
    omega

theorem val7_drop_le : ∀ (l : List Int) (i : Nat), val7 (l.drop i) ≤ val7 l
  | l, 0 => by simp
  | [], i + 1 => by simp
  | b :: r, i + 1 => by
    have h1 := val7_drop_le r i
    have h2 := val7_nonneg r
    simp only [List.drop_succ_cons, val7]
    omega

theorem val7_end (l : List Int) : val7 (l.drop l.length) = 0 := by simp [val7]

theorem or7 (v y : Int) (hv0 : 0 ≤ v) (hv : v < 144115188075855872) (hy0 : 0 ≤ y) (hy : y < 128) : bits .or .u64 (v * 128) y = v * 128 + y := by
  have h := u64_orv7 y (v * 128) hy0 hy (by omega) (by omega) (by omega)
  obtain ⟨n, rfl⟩ := Int.eq_ofNat_of_zero_le hv0
  obtain ⟨m, rfl⟩ := Int.eq_ofNat_of_zero_le hy0
  have e1 := (bits_nat .u64 64 (by decide) wraps_u64 (n * 128) m (by omega) (by omega)).2
  have e2 := (bits_nat .u64 64 (by decide) wraps_u64 m (n * 128) (by omega) (by omega)).2
  rw [show ((n * 128 : Nat) : Int) = (n : Int) * 128 by omega] at e1 e2
  rw [e2] at h
  rw [e1, Nat.or_comm, h]
  omega

end Go.Proofs.Qxb6605731a
