/-
  THE HEX TEXT OF A DIGEST: encoding/hex.EncodedLen, Encode, EncodeToString at 32 bytes; the law's own zzB1Hex.
-/
import Derived.Test.Qxb6614063aIn
import Derived.Deep.OwnRows
import Derived.Laws.BytesArg
import Derived.Laws.BitsAllLaws
import Derived.Outline
namespace Go.Proofs.Qxb6614063a
open Go.RowKit

/-- One hex digit, as a byte's number. -/
def hexd (x : Int) : Int := if x < 10 then 48 + x else 87 + x
/-- Digit j of the hex text. -/
def hexNum (xs : Nat → Int) (j : Nat) : Int := if j % 2 = 0 then hexd (xs (j / 2) / 16) else hexd (xs (j / 2) % 16)
/-- The hex text of 32 bytes. -/
def hexStr (xs : Nat → Int) : ByteArray := strOfNums ((List.range 64).map (hexNum xs))

theorem encodedLen37 (w : World) : Calls Try.prog 37 #[.int .i64 32] w fun e w' => e = .returned (.int .i64 64) ∧ w' = w := by
  go_enter Try.func37, Try.ntmps37
  go_wp2
  go_ret
  exact ⟨rfl, rfl⟩

theorem low4 (x : Int) (h0 : 0 ≤ x) (h1 : x < 256) : bits .and .u8 x 15 = x % 16 := by
  rw [u8_and x 15 h0 h1 (by decide) (by decide)]
  obtain ⟨n, rfl⟩ := Int.eq_ofNat_of_zero_le h0
  have : (n : Int).toNat &&& (15 : Int).toNat = n % 16 := by
    show n &&& (2 ^ 4 - 1) = n % 2 ^ 4
    exact Nat.and_two_pow_sub_one_eq_mod n 4
  rw [this]
  omega

theorem digit0 (w : World) : (Instr.index 9 (.string ⟨#[48, 49, 50, 51, 52, 53, 54, 55, 56, 57, 97, 98, 99, 100, 101, 102]⟩) (.int .u8 0)).run Try.prog w = .ok (.int .u8 (hexd 0)) w := by kernel_rfl
theorem digit1 (w : World) : (Instr.index 9 (.string ⟨#[48, 49, 50, 51, 52, 53, 54, 55, 56, 57, 97, 98, 99, 100, 101, 102]⟩) (.int .u8 1)).run Try.prog w = .ok (.int .u8 (hexd 1)) w := by kernel_rfl
theorem digit2 (w : World) : (Instr.index 9 (.string ⟨#[48, 49, 50, 51, 52, 53, 54, 55, 56, 57, 97, 98, 99, 100, 101, 102]⟩) (.int .u8 2)).run Try.prog w = .ok (.int .u8 (hexd 2)) w := by kernel_rfl
theorem digit3 (w : World) : (Instr.index 9 (.string ⟨#[48, 49, 50, 51, 52, 53, 54, 55, 56, 57, 97, 98, 99, 100, 101, 102]⟩) (.int .u8 3)).run Try.prog w = .ok (.int .u8 (hexd 3)) w := by kernel_rfl
theorem digit4 (w : World) : (Instr.index 9 (.string ⟨#[48, 49, 50, 51, 52, 53, 54, 55, 56, 57, 97, 98, 99, 100, 101, 102]⟩) (.int .u8 4)).run Try.prog w = .ok (.int .u8 (hexd 4)) w := by kernel_rfl
theorem digit5 (w : World) : (Instr.index 9 (.string ⟨#[48, 49, 50, 51, 52, 53, 54, 55, 56, 57, 97, 98, 99, 100, 101, 102]⟩) (.int .u8 5)).run Try.prog w = .ok (.int .u8 (hexd 5)) w := by kernel_rfl
theorem digit6 (w : World) : (Instr.index 9 (.string ⟨#[48, 49, 50, 51, 52, 53, 54, 55, 56, 57, 97, 98, 99, 100, 101, 102]⟩) (.int .u8 6)).run Try.prog w = .ok (.int .u8 (hexd 6)) w := by kernel_rfl
theorem digit7 (w : World) : (Instr.index 9 (.string ⟨#[48, 49, 50, 51, 52, 53, 54, 55, 56, 57, 97, 98, 99, 100, 101, 102]⟩) (.int .u8 7)).run Try.prog w = .ok (.int .u8 (hexd 7)) w := by kernel_rfl
theorem digit8 (w : World) : (Instr.index 9 (.string ⟨#[48, 49, 50, 51, 52, 53, 54, 55, 56, 57, 97, 98, 99, 100, 101, 102]⟩) (.int .u8 8)).run Try.prog w = .ok (.int .u8 (hexd 8)) w := by kernel_rfl
theorem digit9 (w : World) : (Instr.index 9 (.string ⟨#[48, 49, 50, 51, 52, 53, 54, 55, 56, 57, 97, 98, 99, 100, 101, 102]⟩) (.int .u8 9)).run Try.prog w = .ok (.int .u8 (hexd 9)) w := by kernel_rfl
theorem digit10 (w : World) : (Instr.index 9 (.string ⟨#[48, 49, 50, 51, 52, 53, 54, 55, 56, 57, 97, 98, 99, 100, 101, 102]⟩) (.int .u8 10)).run Try.prog w = .ok (.int .u8 (hexd 10)) w := by kernel_rfl
theorem digit11 (w : World) : (Instr.index 9 (.string ⟨#[48, 49, 50, 51, 52, 53, 54, 55, 56, 57, 97, 98, 99, 100, 101, 102]⟩) (.int .u8 11)).run Try.prog w = .ok (.int .u8 (hexd 11)) w := by kernel_rfl
theorem digit12 (w : World) : (Instr.index 9 (.string ⟨#[48, 49, 50, 51, 52, 53, 54, 55, 56, 57, 97, 98, 99, 100, 101, 102]⟩) (.int .u8 12)).run Try.prog w = .ok (.int .u8 (hexd 12)) w := by kernel_rfl
theorem digit13 (w : World) : (Instr.index 9 (.string ⟨#[48, 49, 50, 51, 52, 53, 54, 55, 56, 57, 97, 98, 99, 100, 101, 102]⟩) (.int .u8 13)).run Try.prog w = .ok (.int .u8 (hexd 13)) w := by kernel_rfl
theorem digit14 (w : World) : (Instr.index 9 (.string ⟨#[48, 49, 50, 51, 52, 53, 54, 55, 56, 57, 97, 98, 99, 100, 101, 102]⟩) (.int .u8 14)).run Try.prog w = .ok (.int .u8 (hexd 14)) w := by kernel_rfl
theorem digit15 (w : World) : (Instr.index 9 (.string ⟨#[48, 49, 50, 51, 52, 53, 54, 55, 56, 57, 97, 98, 99, 100, 101, 102]⟩) (.int .u8 15)).run Try.prog w = .ok (.int .u8 (hexd 15)) w := by kernel_rfl
theorem digit (x : Int) (h0 : 0 ≤ x) (h1 : x < 16) (w : World) : (Instr.index 9 (.string ⟨#[48, 49, 50, 51, 52, 53, 54, 55, 56, 57, 97, 98, 99, 100, 101, 102]⟩) (.int .u8 x)).run Try.prog w = .ok (.int .u8 (hexd x)) w := by
  have hx : x = 0 ∨ x = 1 ∨ x = 2 ∨ x = 3 ∨ x = 4 ∨ x = 5 ∨ x = 6 ∨ x = 7 ∨ x = 8 ∨ x = 9 ∨ x = 10 ∨ x = 11 ∨ x = 12 ∨ x = 13 ∨ x = 14 ∨ x = 15 := by omega
  rcases hx with rfl | rfl | rfl | rfl | rfl | rfl | rfl | rfl | rfl | rfl | rfl | rfl | rfl | rfl | rfl | rfl
  · exact digit0 w
  · exact digit1 w
  · exact digit2 w
  · exact digit3 w
  · exact digit4 w
  · exact digit5 w
  · exact digit6 w
  · exact digit7 w
  · exact digit8 w
  · exact digit9 w
  · exact digit10 w
  · exact digit11 w
  · exact digit12 w
  · exact digit13 w
  · exact digit14 w
  · exact digit15 w

/-- The law's own spelling of a byte's two digits is within a byte. -/
theorem hexd_bd (x : Int) (h0 : 0 ≤ x) (h1 : x < 16) : 0 ≤ hexd x ∧ hexd x < 256 := by
  unfold hexd
  split <;> omega

theorem slice40 {w : World} {a : Option Addr} {n : Nat} {f : Nat → Value} (h : SlAt w a n f) {k : Nat} (hk : k < n) (c : Nat) :
    ∃ b off, b < w.heap.size ∧ (∀ w : World, (Instr.indexAt 40 (.slice a n c) (.int .i64 k)).run Try.prog w = .ok (.pointer (some ⟨b, off, none⟩)) w) ∧ w.cell? ⟨b, off, none⟩ = some (f k) := by
  obtain ⟨b, off, rfl, hlt, hc⟩ := h.spot (by omega)
  refine ⟨b, off + k, hlt, fun w => ?_, hc k hk⟩
  have h1 : (k : Int) < (n : Int) := by omega
  have h2 : (0 : Int) ≤ (k : Int) := by omega
  go_simp

set_option maxHeartbeats 400000 in
theorem encode38 (a : Option Addr) (c : Nat) (xs : Nat → Int) (w0 w : World) (hs : SlAt w0 a 32 fun j => .int .u8 (xs j)) (hx : ∀ j, j < 32 → 0 ≤ xs j ∧ xs j < 256) (hb0 : Below w0.heap.size w0 w) (hrow : w.rowIs w0.heap.size 5 64 fun _ => .int .u8 0) :
    Calls Try.prog 38 #[.slice (some ⟨w0.heap.size, 0, none⟩) 64 64, .slice a 32 c] w fun e w' => AnyInt e ∧ w'.rowIs w0.heap.size 5 64 (fun j => .int .u8 (hexNum xs j)) ∧ Below w0.heap.size w0 w' := by
  have HX : Hid (∀ j, j < 32 → 0 ≤ xs j ∧ xs j < 256) := hx
  clear hx
  go_enter Try.func38, Try.ntmps38
  go_wp2
  go_loopw [5, 7, 10] (fun vj _ vi wr => ∃ k : Nat, k ≤ 32 ∧ vi = .int .i64 k ∧ vj = .int .i64 ((2 * k : Nat) : Int) ∧ Hid (wr.rowIs w0.heap.size 5 64 (fun j => .int .u8 (if j < 2 * k then hexNum xs j else 0))) ∧ Below w0.heap.size w0 wr) (fun _ _ vi _ => 32 - (intOf vi).toNat)
  case atStart => exact ⟨0, Nat.zero_le _, rfl, rfl, hrow.congr (fun j _ => by simp), hb0⟩
  case round =>
    obtain ⟨k, hk, rfl, rfl, hrw, hbl⟩ := hrel
    by_cases hlt : k < 32
    · obtain ⟨b, off, hb, hix, hc'⟩ := slice40 hs hlt c
      have hc : wr.cell? ⟨b, off, none⟩ = some (.int .u8 (xs k)) := (hbl.cell (p := ⟨b, off, none⟩) hb).trans hc'
      obtain ⟨hx0, hx1⟩ := HX.out k hlt
      have hlo := low4 (xs k) hx0 hx1
      have d1 := digit (xs k / 16) (by omega) (by omega)
      have d2 := digit (xs k % 16) (by omega) (by omega)
      have hf1 := hrw.out.frozen (2 * k)
      have hc1 := hrw.out.cell (i := 2 * k) (by omega)
      have hf2 := (hrw.out.set (2 * k) (.int .u8 (hexd (xs k / 16)))).frozen (2 * k + 1)
      have hc2 := (hrw.out.set (2 * k) (.int .u8 (hexd (xs k / 16)))).cell (i := 2 * k + 1) (by omega)
      have hrow2 := ((hrw.out.set (2 * k) (.int .u8 (hexd (xs k / 16)))).set (2 * k + 1) (.int .u8 (hexd (xs k % 16)))).congr (g := fun j => .int .u8 (if j < 2 * (k + 1) then hexNum xs j else 0)) (fun j _ => by
        by_cases e1 : j = 2 * k + 1
        · subst e1
          rw [if_pos rfl, if_pos (by omega), hexNum, if_neg (by omega), show (2 * k + 1) / 2 = k by omega]
        · rw [if_neg e1]
          by_cases e2 : j = 2 * k
          · subst e2
            rw [if_pos rfl, if_pos (by omega), hexNum, if_pos (by omega), show 2 * k / 2 = k by omega]
          · rw [if_neg e2]
            by_cases e3 : j < 2 * k
            · rw [if_pos e3, if_pos (by omega)]
            · rw [if_neg e3, if_neg (by omega)])
      have hbl2 := (hbl.setCell (p := ⟨w0.heap.size, 2 * k, none⟩) (Nat.le_refl _) (.int .u8 (hexd (xs k / 16)))).setCell (p := ⟨w0.heap.size, 2 * k + 1, none⟩) (Nat.le_refl _) (.int .u8 (hexd (xs k % 16)))
      go_wp2
      go_roundw
      case rel => exact ⟨k + 1, by omega, by go_num, by first | go_num | (congr 1; omega), hrow2, hbl2⟩
      case measure => simp [intOf]; omega
    · have hrow2 : wr.rowIs w0.heap.size 5 64 (fun j => .int .u8 (hexNum xs j)) := hrw.out.congr (fun j hj => by rw [if_pos (by omega)])
      go_wp2
      go_ret
      exact ⟨⟨_, rfl⟩, hrow2, hbl⟩

theorem info5 : (Try.prog.info? 5).map (fun i => (i.zero, i.size, i.bytes)) = some (some (.int .u8 0), 1, 1) := by kernel_rfl

/-- 64 zero bytes. -/
def made64 : Array Value := madeCells #[.int .u8 0] 64
theorem make64 (w : World) : (Instr.makeSlice 40 (.int .i64 64) (.int .i64 64)).run Try.prog w = .ok (.slice (some ⟨w.heap.size, 0, none⟩) 64 64) (w.alloc (.cells made64 5)) :=
  run_make_row' (P := Try.prog) 40 5 (.int .u8 0) 1 Try.underlying40 info5 rfl .i64 .i64 64 (by omega) (by omega) w
theorem made64_row (w : World) : (w.alloc (.cells made64 5)).rowIs w.heap.size 5 64 (fun _ => .int .u8 0) := World.rowIs_made w (.int .u8 0) 64 5

/-- A row of the hex digits, turned into a string. -/
theorem hexBack {w : World} {b : Nat} {xs : Nat → Int} (h : w.rowIs b 5 64 (fun j => .int .u8 (hexNum xs j))) : (convert 40 9 (.slice (some ⟨b, 0, none⟩) 64 64)).run Try.prog w = .ok (.string (hexStr xs)) w := by
  refine run_convert_bytes_arg (P := Try.prog) w 40 5 Try.underlying40 Try.underlying5 b 0 64 64 ((List.range 64).map (hexNum xs)) (by simp) (fun i hi => ?_) 9 Try.underlying9
  rw [Nat.zero_add, h.cell hi]
  congr 2
  rw [List.getD_eq_getElem?_getD, List.getElem?_map, List.getElem?_range hi]
  rfl

theorem encodeToString35 (a : Option Addr) (c : Nat) (xs : Nat → Int) (w : World) (hs : SlAt w a 32 fun j => .int .u8 (xs j)) (hx : ∀ j, j < 32 → 0 ≤ xs j ∧ xs j < 256) :
    Calls Try.prog 35 #[.slice a 32 c] w fun e w' => e = .returned (.string (hexStr xs)) ∧ Below w.heap.size w w' := by
  have hmk := make64
  go_enter Try.func35, Try.ntmps35
  go_wp2_with fail
  refine (encodedLen37 _).mono ?_
  rintro e w1 ⟨rfl, rfl⟩
  go_wp2_with fail
  refine (encode38 a c xs w1 _ hs hx ((Below.refl _ _).alloc (Nat.le_refl _) _) (made64_row w1)).mono ?_
  rintro e w2 ⟨⟨z, rfl⟩, hrow, hb⟩
  have hcv := hexBack hrow
  clear hrow hmk
  go_wp2
  go_ret
  exact ⟨rfl, hb⟩

end Go.Proofs.Qxb6614063a
