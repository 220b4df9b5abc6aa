/-
  zzB1SiblingPath: the law's own search for the siblings' hashes.
-/
import Derived.Test.Qxb6614063aPath
import Derived.Test.Qxb6614063aHex25
import Derived.OwnWalk
namespace Go.Proofs.Qxb6614063a
open Go.RowKit

/-- The path with level k's nodes below j looked at. -/
def pathJ (ln : Nat → Nat) (bs : Nat → Nat → Nat → Int) (i k a j : Nat) : List ByteArray := pathTo ln bs i k ++ (if sib a < j then [hexStr (bs k (sib a))] else [])

theorem pathJ_length (ln : Nat → Nat) (bs : Nat → Nat → Nat → Int) (i k a j : Nat) : (pathJ ln bs i k a j).length ≤ k + 1 := by
  have := pathTo_length ln bs i k
  unfold pathJ
  rw [List.length_append]
  split <;> simp <;> omega

theorem sib_iff (a j : Nat) : j = sib a ↔ (j ≠ a ∧ j / 2 = a / 2) := by
  unfold sib
  split <;> omega

theorem pathJ_zero (ln : Nat → Nat) (bs : Nat → Nat → Nat → Int) (i k a : Nat) : pathJ ln bs i k a 0 = pathTo ln bs i k := by simp [pathJ]
theorem pathJ_other (ln : Nat → Nat) (bs : Nat → Nat → Nat → Int) (i k a j : Nat) (h : j ≠ sib a) : pathJ ln bs i k a (j + 1) = pathJ ln bs i k a j := by
  unfold pathJ
  by_cases e : sib a < j
  · rw [if_pos e, if_pos (by omega)]
  · rw [if_neg e, if_neg (by omega)]
theorem pathJ_sib (ln : Nat → Nat) (bs : Nat → Nat → Nat → Int) (i k a j : Nat) (h : j = sib a) : pathJ ln bs i k a (j + 1) = pathJ ln bs i k a j ++ [hexStr (bs k j)] := by
  unfold pathJ
  rw [if_pos (by omega), if_neg (by omega), h, List.append_nil]
theorem pathJ_end (ln : Nat → Nat) (bs : Nat → Nat → Nat → Int) (i k a : Nat) (h : a = i / 2 ^ k) : pathJ ln bs i k a (ln k) = pathTo ln bs i (k + 1) := by
  rw [pathTo, pathJ, h]

/-- A row of strings that the call owns, read by its index. -/
theorem ownsRow_slAt {w : World} {base : Nat} {v : Value} {L : List ByteArray} (hL : L.length < 4611686018427387904) (h : w.ownsRow base 9 1 v L.length (L.map Value.string)) :
    ∃ pa pc, v = .slice pa L.length pc ∧ SlAt w pa L.length (fun j => .string (L.getD j ByteArray.empty)) := by
  obtain ⟨h1, h2⟩ := h
  rcases h2 with ⟨rfl, h2⟩ | ⟨g, cap, cur, rfl, hg, hh, hc, hcm, hcs, hct⟩
  · exact ⟨none, 0, by rw [h2], ⟨by omega, fun h => by omega⟩⟩
  · refine ⟨_, _, rfl, ⟨by omega, fun _ => ⟨g, 0, rfl, ?_, fun j hj => ?_⟩⟩⟩
    · obtain ⟨hlt', _⟩ := Array.getElem?_eq_some_iff.1 hh
      exact hlt'
    · have e1 : cur[j]? = some (.string (L.getD j ByteArray.empty)) := by
        have e2 : (cur.toList.take (L.length * 1))[j]? = some (.string (L.getD j ByteArray.empty)) := by
          rw [hct, List.getElem?_map, List.getElem?_eq_getElem hj, List.getD_eq_getElem?_getD, List.getElem?_eq_getElem hj]
          rfl
        rw [List.getElem?_take_of_lt (by omega)] at e2
        simpa using e2
      simp [World.cell?, hh, e1]

/-- What zzB1SiblingPath hands back. -/
def SibRes (L : List ByteArray) (e : Ending) (w' : World) : Prop := ∃ pa pc, e = .returned (.slice pa L.length pc) ∧ SlAt w' pa L.length (fun j => .string (L.getD j ByteArray.empty))

set_option maxHeartbeats 1000000 in
set_option maxRecDepth 100000 in
theorem sibPath30 (la0 : Option Addr) (m lc0 : Nat) (la : Nat → Option Addr) (ln lc : Nat → Nat) (bs : Nat → Nat → Nat → Int) (i : Nat) (w : World) (hL : LevAt w la0 m la ln lc bs) (hm : m ≤ 64) (hm1 : 1 ≤ m) (hi : i < 4096) :
    Calls Try.prog 30 #[.slice la0 m lc0, .int .i64 i] w fun e w' => SibRes (pathTo ln bs i (m - 1)) e w' ∧ Below w.heap.size w w' := by
  have how0 : (w.alloc (.cells #[] 9)).ownsRow w.heap.size 9 1 (.slice (some ⟨w.heap.size, 0, none⟩) 0 0) 0 [] :=
    ⟨rfl, Or.inr ⟨w.heap.size, 0, #[], rfl, Nat.le_refl _, Go.Deep.blk_alloc_new _ _, Nat.le_refl _, Nat.zero_le _, rfl, rfl⟩⟩
  have hB0 : Below w.heap.size w (w.alloc (.cells #[] 9)) := (Below.refl _ _).alloc (Nat.le_refl _) _
  obtain ⟨i0, hi0, hz0, hz1, hz2⟩ := info_parts info9
  go_enter Try.func30, Try.ntmps30
  go_wp2_with fail
  go_loopw [5, 6, 7, 8] (fun v va vk _ wr => ∃ k a : Nat, k + 1 ≤ m ∧ vk = .int .i64 k ∧ va = .int .i64 a ∧ Hid (a = i / 2 ^ k) ∧ a < 4096 ∧ Hid (wr.ownsRow w.heap.size 9 1 v (pathTo ln bs i k).length ((pathTo ln bs i k).map Value.string)) ∧ Below w.heap.size w wr) (fun _ _ vk _ _ => m - (intOf vk).toNat)
  case atStart => exact ⟨0, i, by omega, rfl, rfl, show i = i / 2 ^ 0 by simp, hi, how0, hB0⟩
  case round =>
    obtain ⟨k, a, hk, rfl, rfl, Ha, ha4, Ho, hbl⟩ := hrel
    by_cases hlt : k + 1 < m
    · obtain ⟨b1, o1, hb1, hix1, hc1'⟩ := hL.outer.elem41 (k := k) (by omega) lc0
      have hs1 := hL.small k
      have Hnext : Hid (a / 2 = i / 2 ^ (k + 1)) := by
        show a / 2 = i / 2 ^ (k + 1)
        rw [Ha.out, Nat.div_div_eq_div_mul, Nat.pow_succ]
      have Ho0 : Hid (wr.ownsRow w.heap.size 9 1 u5 (pathJ ln bs i k a 0).length ((pathJ ln bs i k a 0).map Value.string)) := by
        rw [pathJ_zero]
        exact Ho
      clear Ho
      have hkd : decide ((k : Int) + 1 < (m : Int)) = true := by simp; omega
      go_wp2_with fail
      go_loopw [5, 8] (fun v vj wr => ∃ j : Nat, j ≤ ln k ∧ vj = .int .i64 j ∧ Hid (wr.ownsRow w.heap.size 9 1 v (pathJ ln bs i k a j).length ((pathJ ln bs i k a j).map Value.string)) ∧ Below w.heap.size w wr) (fun _ vj _ => ln k - (intOf vj).toNat)
      case atStart => exact ⟨0, Nat.zero_le _, rfl, Ho0, hbl⟩
      case round =>
        obtain ⟨j, hj, rfl, Ho, hbl2⟩ := hrel
        have hc1 : wr.cell? ⟨b1, o1, none⟩ = some (.slice (la k) (ln k) (lc k)) := (hbl2.cell (p := ⟨b1, o1, none⟩) hb1).trans hc1'
        by_cases hjl : j < ln k
        · by_cases hjs : j = sib a
          · obtain ⟨hne, heq⟩ := (sib_iff a j).1 hjs
            have hne' : ((j : Int) != (a : Int)) = true := by rw [bne_iff_ne]; omega
            have heq' : ((j : Int) / 2 == (a : Int) / 2) = true := by rw [beq_iff_eq]; omega
            obtain ⟨db, do', hdb, hix2, hdig⟩ := hL.digest (k := k) (s := j) (by omega) hjl
            have hrg := digRange (hdig.below hbl2)
            have hx1 : Hid (∀ q, q < 32 → 0 ≤ bs k j q ∧ bs k j q < 256) := fun q _ => hL.bytes k j q
            have Hlen := pathJ_length ln bs i k a j
            have Hpath := show Hid _ from pathJ_sib ln bs i k a j hjs
            clear hne heq hjs
            go_wp2_with (first
              | (refine wpList_load_mid (by rfl) 60 _ (by rfl) db do' (by rfl) (digList (bs k j)) (.array 32 5) hrg Try.underlying60 rfl (info60 _) ?_)
              | (go_at_call 25; refine (hex25 (bs k j) _ hx1.out).mono ?_; rintro e w2 ⟨rfl, hb2⟩; have Ho2 := show Hid _ from (ownsRow_below Ho.out hb2).alloc (.cells #[.string (hexStr (bs k j))] 9); have hb2' := hbl2.trans (hb2.mono hbl2.size))
              | (at_builtin; refine wpList_append_lies _ (by rfl) _ _ _ (by rfl) w.heap.size 9 i0 _ 1 16 Try.underlying29 hi0 hz0 hz1 hz2 rfl (by omega) u5 (pathJ ln bs i k a j).length ((pathJ ln bs i k a j).map Value.string) (by rfl) Ho2.out ⟨w2.heap.size, 0, none⟩ 1 1 [.string (hexStr (bs k j))] (by rfl) (by rfl) (World.news_of_block (cs := #[.string (hexStr (bs k j))]) (t := 9) (fr := (0, 0)) (heap_alloc_new w2 _)) (by simp [Value.oneCell']) (by omega) (by unfold maxLen; omega) (by omega) (by have := hb2'.size; simp; omega) (w2.heap.size + 1) (by simp) ?_; intro g cap w3 hown3 hgrow hat hlt3; have hb3 := (hb2'.alloc hb2'.size (.cells #[.string (hexStr (bs k j))] 9)).grown hgrow (by have := hb2'.size; simp; omega) (fun z hz => (Ho.out.lt z hz).1); have Ho3 := show Hid _ from hown3; clear hown3 hgrow hat))
            go_roundw
            case rel =>
              refine ⟨j + 1, by omega, by go_num, ?_, hb3⟩
              show World.ownsRow _ _ _ _ _ _ _
              rw [Hpath.out, List.length_append, List.map_append]
              exact Ho3.out
            case measure => simp [intOf]; omega
          · have Hpath := show Hid _ from pathJ_other ln bs i k a j hjs
            have hor : j = a ∨ (j ≠ a ∧ j / 2 ≠ a / 2) := by
              by_cases e : j = a
              · exact .inl e
              · exact .inr ⟨e, fun e2 => hjs ((sib_iff a j).2 ⟨e, e2⟩)⟩
            rcases hor with hor | ⟨hne, hq⟩
            · have hne' : ((j : Int) != (a : Int)) = false := by subst hor; simp
              clear hor hjs
              go_wp2_with fail
              go_roundw
              case rel => exact ⟨j + 1, by omega, by go_num, by rw [Hpath.out]; exact Ho, hbl2⟩
              case measure => simp [intOf]; omega
            · have hne' : ((j : Int) != (a : Int)) = true := by rw [bne_iff_ne]; omega
              have heq' : ((j : Int) / 2 == (a : Int) / 2) = false := by rw [beq_eq_false_iff_ne]; omega
              clear hne hq hjs
              go_wp2_with fail
              go_roundw
              case rel => exact ⟨j + 1, by omega, by go_num, by rw [Hpath.out]; exact Ho, hbl2⟩
              case measure => simp [intOf]; omega
        · have hjk : j = ln k := by omega
          subst hjk
          have Hpath := show Hid _ from pathJ_end ln bs i k a Ha.out
          go_wp2_with fail
          go_roundw
          case rel =>
            refine ⟨k + 1, a / 2, by omega, by go_num, by go_num, Hnext, by omega, ?_, hbl2⟩
            rw [← Hpath.out]
            exact Ho
          case measure => simp [intOf]; omega
    · have Hkm : Hid (m - 1 = k) := by show m - 1 = k; omega
      have hlen := pathTo_length ln bs i k
      obtain ⟨pa, pc, rfl, hsl⟩ := ownsRow_slAt (by omega) Ho.out
      have Hsl : Hid (SlAt wr pa (pathTo ln bs i k).length (fun j => .string ((pathTo ln bs i k).getD j ByteArray.empty))) := hsl
      clear hsl Ho
      go_wp2
      go_ret
      refine ⟨?_, hbl⟩
      rw [Hkm.out]
      exact ⟨pa, pc, rfl, Hsl.out⟩

end Go.Proofs.Qxb6614063a
