/-
  (*hostTree).proof: the search, then the path of the siblings' hashes.
-/
import Derived.Test.Qxb6614063aRollout
import Derived.Test.Qxb6614063aHex
import Derived.Deep.RegionLaw
import Derived.Deep.AppendLies
import Derived.Deep.DrawnRows
namespace Go.Proofs.Qxb6614063a
open Go.RowKit

/-- The other child of node a's parent. -/
def sib (a : Nat) : Nat := if a % 2 = 0 then a + 1 else a - 1
/-- The hashes of the siblings on the way up from leaf i, below level k. -/
def pathTo (ln : Nat → Nat) (bs : Nat → Nat → Nat → Int) (i : Nat) : Nat → List ByteArray
  | 0 => []
  | k + 1 => pathTo ln bs i k ++ (if sib (i / 2 ^ k) < ln k then [hexStr (bs k (sib (i / 2 ^ k)))] else [])

theorem pathTo_length (ln : Nat → Nat) (bs : Nat → Nat → Nat → Int) (i : Nat) : ∀ k, (pathTo ln bs i k).length ≤ k
  | 0 => Nat.le_refl _
  | k + 1 => by
    have := pathTo_length ln bs i k
    unfold pathTo
    rw [List.length_append]
    split <;> simp <;> omega

theorem nat_xor1 (a : Nat) : a ^^^ 1 = sib a := by
  have h1 : (a ^^^ 1) / 2 = a / 2 := by rw [Nat.xor_div_two]; simp
  have h2 : (a ^^^ 1) % 2 = 1 ↔ ¬ (a % 2 = 1 ↔ 1 % 2 = 1) := Nat.xor_mod_two_eq_one
  unfold sib
  split <;> omega

theorem xor1 (a : Nat) (h : a < 4096) : bits .xor .i64 (a : Int) 1 = (sib a : Int) := by
  have hx : a ^^^ 1 < 2 ^ 12 := Nat.xor_lt_two_pow (by omega) (by omega)
  show IntKind.i64.wrap ((BitVec.ofInt 64 (a : Int) ^^^ BitVec.ofInt 64 ((1 : Nat) : Int)).toNat : Int) = _
  rw [BitVec.toNat_xor, ofInt_u64 a (by omega), ofInt_u64 1 (by omega), IntKind.wrap_i64, nat_xor1]
  rw [nat_xor1] at hx
  omega

theorem SlAt.drew {w : World} {a : Option Addr} {n : Nat} {f : Nat → Value} (h : SlAt w a n f) : SlAt w.drew a n f := ⟨h.small, h.spot⟩

theorem ownsRow_below {w w' : World} {base : Nat} {e : TypeId} {size : Nat} {v : Value} {n : Nat} {xs : List Value} (h : w.ownsRow base e size v n xs) (hb : Below w.heap.size w w') : w'.ownsRow base e size v n xs := by
  obtain ⟨h1, h2⟩ := h
  refine ⟨h1, ?_⟩
  rcases h2 with h2 | ⟨g, cap, cur, hv, hg, hh, r⟩
  · exact Or.inl h2
  · refine Or.inr ⟨g, cap, cur, hv, hg, ?_, r⟩
    rw [hb.block g (by obtain ⟨hlt, _⟩ := Array.getElem?_eq_some_iff.1 hh; exact hlt)]
    exact hh

theorem cellOld {w : World} {a : Addr} {v : Value} (o : Obj) (h : w.cell? a = some v) : (w.alloc o).cell? a = some v :=
  (((Below.refl _ w).alloc (Nat.le_refl _) o).cell (p := a) (World.block_lt_of_cell? _ _ h)).trans h

theorem ownsRow_setOther {w : World} {base : Nat} {e : TypeId} {size : Nat} {v : Value} {n : Nat} {xs : List Value} (h : w.ownsRow base e size v n xs) {a : Addr} (ha : v.ownBlock ≠ some a.block) (u : Value) : (w.setCell a u).ownsRow base e size v n xs := by
  obtain ⟨h1, h2⟩ := h
  refine ⟨h1, ?_⟩
  rcases h2 with h2 | ⟨g, cap, cur, rfl, hg, hh, r⟩
  · exact Or.inl h2
  · refine Or.inr ⟨g, cap, cur, rfl, hg, ?_, r⟩
    rw [Below.heap_setCell _ _ _ _ (fun e => ha (by rw [← e]; rfl))]
    exact hh

/-- The five cells of a HostProof. -/
def pcell (h c : ByteArray) (x : Int) (i : Nat) (v : Value) : Nat → Value
  | 0 => .string h
  | 1 => .string c
  | 2 => .int .i64 x
  | 3 => .int .i64 i
  | _ => v

theorem pcell_row (w : World) (h c : ByteArray) (x : Int) (i : Nat) (v : Value) : (w.alloc (.cells #[.string h, .string c, .int .i64 x, .int .i64 i, v] 58)).rowIs w.heap.size 58 5 (pcell h c x i v) := by
  refine World.rowIs_alloc w _ 58 _ (fun j hj => ?_)
  have : j = 0 ∨ j = 1 ∨ j = 2 ∨ j = 3 ∨ j = 4 := by simp at hj; omega
  rcases this with rfl | rfl | rfl | rfl | rfl <;> rfl

theorem pcell_set {w : World} {b : Nat} {h c : ByteArray} {x : Int} {i : Nat} {v : Value} (hr : w.rowIs b 58 5 (pcell h c x i v)) (v' : Value) : (w.setCell ⟨b, 4, none⟩ v').rowIs b 58 5 (pcell h c x i v') := by
  refine (hr.set 4 v').congr (fun j hj => ?_)
  have : j = 0 ∨ j = 1 ∨ j = 2 ∨ j = 3 ∨ j = 4 := by omega
  rcases this with rfl | rfl | rfl | rfl | rfl <;> rfl

/-- What lies at digest s of level k. -/
theorem LevAt.digest {w : World} {a : Option Addr} {n : Nat} {la : Nat → Option Addr} {ln lc : Nat → Nat} {bs : Nat → Nat → Nat → Int} (h : LevAt w a n la ln lc bs) {k s : Nat} (hk : k < n) (hs : s < ln k) :
    ∃ b off, b < w.heap.size ∧ (∀ w : World, (Instr.indexAt 61 (.slice (la k) (ln k) (lc k)) (.int .i64 s)).run Try.prog w = .ok (.pointer (some ⟨b, off, none⟩)) w) ∧ SlAt w (some ⟨b, off, none⟩) 32 (fun j => .int .u8 (bs k s j)) := by
  obtain ⟨b, off, e, hlt, hc⟩ := h.inner k hk (by omega)
  refine ⟨b, off + s * 32, hlt, fun w => ?_, ⟨by omega, fun _ => ⟨b, off + s * 32, rfl, hlt, fun j hj => hc s j hs hj⟩⟩⟩
  have h1 : (s : Int) < (ln k : Int) := by omega
  have h2 : (0 : Int) ≤ (s : Int) := by omega
  rw [e]
  go_simp

/-- What (*hostTree).proof answers. -/
def ProofRes (w : World) (ss cs : Nat → ByteArray) (xs : Nat → Int) (n m : Nat) (ln : Nat → Nat) (bs : Nat → Nat → Nat → Int) (q : ByteArray) (e : Ending) (w' : World) : Prop :=
  (e = .returned (.tuple #[.pointer none, .bool false]) ∧ ∀ k, k < n → ss k ≠ q) ∨
  ∃ (i pb : Nat) (pa : Option Addr) (pc : Nat), e = .returned (.tuple #[.pointer (some ⟨pb, 0, none⟩), .bool true]) ∧ i < n ∧ ss i = q ∧ w.heap.size ≤ pb ∧
    w'.cell? ⟨pb, 0, none⟩ = some (.string (ss i)) ∧ w'.cell? ⟨pb, 1, none⟩ = some (.string (cs i)) ∧ w'.cell? ⟨pb, 2, none⟩ = some (.int .i64 (xs i)) ∧ w'.cell? ⟨pb, 3, none⟩ = some (.int .i64 i) ∧
    w'.cell? ⟨pb, 4, none⟩ = some (.slice pa (pathTo ln bs i (m - 1)).length pc) ∧ SlAt w' pa (pathTo ln bs i (m - 1)).length (fun j => .string ((pathTo ln bs i (m - 1)).getD j ByteArray.empty))

/-- What an append to p.Path and the store behind it leave. -/
theorem path_step {w wr w2 w3 : World} {pb g cap L i : Nat} {h c : ByteArray} {x : Int} {v : Value} {xs : List Value} {hx : ByteArray} (hp : wr.rowIs pb 58 5 (pcell h c x i v)) (ho : wr.ownsRow w.heap.size 9 1 v L xs) (hne : v.ownBlock ≠ some pb) (hbl : Below w.heap.size w wr)
    (hpb : w.heap.size ≤ pb) (hb2 : Below wr.drew.heap.size wr.drew w2) (hown3 : w3.ownsRow w.heap.size 9 1 (.slice (some ⟨g, 0, none⟩) (L + 1) cap) (L + 1) (xs ++ [.string hx])) (hgrow : (w2.alloc (.cells #[.string hx] 9)).grownBy w3 v.ownBlock) (hat : v.ownBlock = some g ∨ g = w2.heap.size + 1) :
    (w3.setCell ⟨pb, 4, none⟩ (.slice (some ⟨g, 0, none⟩) (L + 1) cap)).rowIs pb 58 5 (pcell h c x i (.slice (some ⟨g, 0, none⟩) (L + 1) cap)) ∧
    (w3.setCell ⟨pb, 4, none⟩ (.slice (some ⟨g, 0, none⟩) (L + 1) cap)).ownsRow w.heap.size 9 1 (.slice (some ⟨g, 0, none⟩) (L + 1) cap) (L + 1) (xs ++ [.string hx]) ∧
    Value.ownBlock (.slice (some ⟨g, 0, none⟩) (L + 1) cap) ≠ some pb ∧ Below w.heap.size w (w3.setCell ⟨pb, 4, none⟩ (.slice (some ⟨g, 0, none⟩) (L + 1) cap)) := by
  have hplt := hp.lt
  have hs2 : wr.heap.size ≤ w2.heap.size := hb2.size
  have hgp : g ≠ pb := by
    rcases hat with e | e
    · intro e2; subst e2; exact hne e
    · omega
  have hg' : Value.ownBlock (.slice (some ⟨g, 0, none⟩) (L + 1) cap) ≠ some pb := fun e => hgp (by simpa [Value.ownBlock] using e)
  have hvB : ∀ k, v.ownBlock = some k → w.heap.size ≤ k := by
    intro k hk
    rcases ho.2 with ⟨rfl, _⟩ | ⟨g', cap', cur, rfl, hgb, _⟩
    · simp [Value.ownBlock] at hk
    · simp [Value.ownBlock] at hk
      omega
  have hb2' : Below w.heap.size w w2 := hbl.drew.trans (hb2.mono hbl.size)
  have hb2a := hb2'.alloc hb2'.size (.cells #[.string hx] 9)
  have hb3 : Below w.heap.size w w3 := hb2a.grown hgrow hb2a.size hvB
  have hp3 : w3.rowIs pb 58 5 (pcell h c x i v) := by
    refine hp.of_block ?_
    rw [hgrow.block pb (by simp; omega) (fun e => hne e.symm), Go.Deep.blk_alloc_lt _ _ _ (by omega)]
    exact hb2.block pb hplt
  exact ⟨pcell_set hp3 _, ownsRow_setOther hown3 hg' _, hg', hb3.setCell hpb _⟩

theorem info9 : (Try.prog.info? 9).map (fun i => (i.zero, i.size, i.bytes)) = some (some (.string ⟨#[]⟩), 1, 16) := by kernel_rfl

attribute [local go_sem ↓] Go.wp_at_zero Go.wp_at_succ

set_option maxHeartbeats 1000000 in
set_option maxRecDepth 100000 in
theorem proof29 (tb eb n m : Nat) (la0 : Option Addr) (lc0 : Nat) (la : Nat → Option Addr) (ln lc : Nat → Nat) (bs : Nat → Nat → Nat → Int) (ss cs : Nat → ByteArray) (xs : Nat → Int) (q : ByteArray) (w : World)
    (hE : EntsAt w eb n ss cs xs) (hL : LevAt w la0 m la ln lc bs) (hT : TreeOk n m ln) (hn : n ≤ 4096) (hm : m ≤ 64) (ha : Asc ss n)
    (ht0 : w.cell? ⟨tb, 0, none⟩ = some (.slice (some ⟨eb, 0, none⟩) n n)) (ht1 : w.cell? ⟨tb, 1, none⟩ = some (.slice la0 m lc0)) :
    Calls Try.prog 29 #[.pointer (some ⟨tb, 0, none⟩), .string q] w fun e w' => ProofRes w ss cs xs n m ln bs q e w' ∧ Below w.heap.size w w' := by
  go_enter Try.func29, Try.ntmps29
  go_wp2_with fail
  refine (search32 eb n ss cs xs q _ hE hn ha).mono ?_
  rintro e w1 ⟨⟨i, b, rfl, hin, hyes, hno⟩, hB1⟩
  cases b with
  | false =>
    have Hno : Hid (∀ k, k < n → ss k ≠ q) := hno rfl
    clear hno hyes
    go_wp2
    go_ret2
    exact ⟨Or.inl ⟨rfl, Hno.out⟩, hB1⟩
  | true =>
  obtain ⟨hi, hq⟩ := hyes rfl
  have Hq : Hid (ss i = q) := hq
  clear hno hyes hq
  obtain ⟨c0, c1, c2⟩ := (hE.below hB1).cells hi
  have htb := World.block_lt_of_cell? _ _ ht0
  have ht0' : w1.cell? ⟨tb, 0, none⟩ = some (.slice (some ⟨eb, 0, none⟩) n n) := (hB1.cell (p := ⟨tb, 0, none⟩) htb).trans ht0
  have ht1' : w1.cell? ⟨tb, 1, none⟩ = some (.slice la0 m lc0) := (hB1.cell (p := ⟨tb, 1, none⟩) htb).trans ht1
  have hE0 : Hid (EntsAt w eb n ss cs xs) := hE
  clear hE
  have hpr0 := pcell_row (w1.alloc (.cells #[] 9)) (ss i) (cs i) (xs i) i (.slice (some ⟨w1.heap.size, 0, none⟩) 0 0)
  have how0 : ((w1.alloc (.cells #[] 9)).alloc (.cells #[.string (ss i), .string (cs i), .int .i64 (xs i), .int .i64 i, .slice (some ⟨w1.heap.size, 0, none⟩) 0 0] 58)).ownsRow w.heap.size 9 1 (.slice (some ⟨w1.heap.size, 0, none⟩) 0 0) 0 [] := by
    refine ⟨rfl, Or.inr ⟨w1.heap.size, 0, #[], rfl, hB1.size, ?_, Nat.le_refl _, Nat.zero_le _, rfl, rfl⟩⟩
    rw [Go.Deep.blk_alloc_lt _ _ _ (by simp)]
    exact Go.Deep.blk_alloc_new _ _
  have hpsz : (w1.alloc (.cells #[] 9)).heap.size = w1.heap.size + 1 := by simp
  rw [hpsz] at hpr0
  have hB2 := (hB1.alloc hB1.size (.cells #[] 9)).alloc (by have := hB1.size; simp; omega) (.cells #[.string (ss i), .string (cs i), .int .i64 (xs i), .int .i64 i, .slice (some ⟨w1.heap.size, 0, none⟩) 0 0] 58)
  have hm1 := hT.m1
  go_wp2_with fail
  go_loopw [9, 10, 11] (fun vi vl _ wr => ∃ (k a : Nat) (v : Value), k + 1 ≤ m ∧ vl = .int .i64 k ∧ vi = .int .i64 a ∧ Hid (a = i / 2 ^ k) ∧ a < 4096 ∧ Hid (wr.rowIs (w1.heap.size + 1) 58 5 (pcell (ss i) (cs i) (xs i) i v)) ∧
      Hid (wr.ownsRow w.heap.size 9 1 v (pathTo ln bs i k).length ((pathTo ln bs i k).map Value.string)) ∧ Hid (v.ownBlock ≠ some (w1.heap.size + 1)) ∧ Below w.heap.size w wr) (fun _ vl _ _ => m - (intOf vl).toNat)
  case atStart =>
    refine ⟨0, i, _, by omega, rfl, rfl, ?_, by omega, hpr0, how0, ?_, hB2⟩
    · show i = i / 2 ^ 0
      simp
    · show Value.ownBlock _ ≠ _
      simp [Value.ownBlock]
  case round =>
    obtain ⟨k, a, v, hk, rfl, rfl, Ha, ha4, Hp, Ho, Hne, hbl⟩ := hrel
    have ht1r : wr.cell? ⟨tb, 1, none⟩ = some (.slice la0 m lc0) := (hbl.cell (p := ⟨tb, 1, none⟩) htb).trans ht1
    by_cases hlt : k + 1 < m
    · have hxor := xor1 a ha4
      obtain ⟨b1, o1, hb1, hix1, hc1'⟩ := hL.outer.elem41 (k := k) (by omega) lc0
      have hc1 : wr.cell? ⟨b1, o1, none⟩ = some (.slice (la k) (ln k) (lc k)) := (hbl.cell (p := ⟨b1, o1, none⟩) hb1).trans hc1'
      have hs1 := hL.small k
      have Hnext : Hid (a / 2 = i / 2 ^ (k + 1)) := by
        show a / 2 = i / 2 ^ (k + 1)
        rw [Ha.out, Nat.div_div_eq_div_mul, Nat.pow_succ]
      by_cases hsb : sib a < ln k
      · obtain ⟨db, do', hdb, hix2, hdig⟩ := hL.digest (k := k) (s := sib a) (by omega) hsb
        have hdr := (hdig.below hbl).drew
        have hcp : wr.cell? ⟨w1.heap.size + 1, 4, none⟩ = some v := Hp.out.cell (i := 4) (by omega)
        have hfp := Hp.out.frozen 4
        have hplt := Hp.out.lt
        have hsb' : (sib a : Int) < (ln k : Int) := by omega
        have hs0 : (0 : Int) ≤ (sib a : Int) := by omega
        obtain ⟨i0, hi0, hz0, hz1, hz2⟩ := info_parts info9
        go_wp2_with fail
        have Hlen := pathTo_length ln bs i k
        have hbsz := hbl.size
        have hx1 : Hid (∀ j, j < 32 → 0 ≤ bs k (sib a) j ∧ bs k (sib a) j < 256) := fun j _ => hL.bytes k (sib a) j
        go_region_law (first
            | (go_simp; go_at_call 35; refine (encodeToString35 (some ⟨db, do', none⟩) 32 (bs k (sib a)) _ ?_ ?_).mono ?_; exact hdr; exact hx1.out; rintro e w2 ⟨rfl, hb2⟩; have y1 : w2.cell? ⟨w1.heap.size + 1, 4, none⟩ = some v := (hb2.cell (p := ⟨w1.heap.size + 1, 4, none⟩) hplt).trans hcp; have y2 : ∀ o, (w2.alloc o).frozen? ⟨w1.heap.size + 1, 4, none⟩ = false := fun o => (((Below.refl _ w2).alloc (Nat.le_refl _) o).frozen (p := ⟨w1.heap.size + 1, 4, none⟩) (Nat.lt_of_lt_of_le hplt hb2.size)).trans ((hb2.frozen (p := ⟨w1.heap.size + 1, 4, none⟩) hplt).trans hfp); have y3 : w1.heap.size + 1 < w2.heap.size := Nat.lt_of_lt_of_le hplt hb2.size; have Ho2 : Hid (w2.ownsRow w.heap.size 9 1 v (pathTo ln bs i k).length ((pathTo ln bs i k).map Value.string)) := ownsRow_below (w := wr.drew) Ho.out hb2)
            | (refine step_append_lies _ (by rfl) _ _ _ (by rfl) w.heap.size 9 i0 _ 1 16 Try.underlying29 hi0 hz0 hz1 hz2 rfl (by omega) v (pathTo ln bs i k).length ((pathTo ln bs i k).map Value.string) (by rfl) (Ho2.out.alloc _) ⟨w2.heap.size, 0, none⟩ 1 1 [.string (hexStr (bs k (sib a)))] (by rfl) (by rfl) (World.news_of_block (cs := #[.string (hexStr (bs k (sib a)))]) (t := 9) (fr := (0, 0)) (heap_alloc_new w2 _)) (by simp [Value.oneCell']) (by omega) (by unfold maxLen; omega) (by omega) (by have := hb2.size; simp at this ⊢; omega) (w2.heap.size + 1) (by simp) ?_; intro g cap w3 hown3 hgrow hat hlt3; have z1 : w3.cell? ⟨w1.heap.size + 1, 4, none⟩ = some v := (hgrow.cell_far ⟨w1.heap.size + 1, 4, none⟩ (by simp; omega) (Ne.symm Hne.out)).trans (cellOld _ y1); have z2 : w3.frozen? ⟨w1.heap.size + 1, 4, none⟩ = false := (hgrow.frozen_far ⟨w1.heap.size + 1, 4, none⟩ (by simp; omega) (Ne.symm Hne.out)).trans (y2 _)))
        all_goals
          have Hstep := show Hid _ from path_step Hp.out Ho.out Hne.out hbl (by have := hB1.size; omega) hb2 hown3 hgrow hat
          have Hpath : Hid (pathTo ln bs i (k + 1) = pathTo ln bs i k ++ [hexStr (bs k (sib a))]) := by
            show pathTo ln bs i (k + 1) = _
            have e : sib (i / 2 ^ k) < ln k := by rw [← Ha.out]; exact hsb
            rw [pathTo, if_pos e, ← Ha.out]
          clear y1 y2 y3 z1 z2 hown3 hgrow hat hlt3 Ho2 Ho hb2 hdr
          go_wp2_with fail
          go_roundw
          case rel =>
            obtain ⟨r1, r2, r3, r4⟩ := Hstep.out
            refine ⟨k + 1, a / 2, _, by omega, by go_num, by go_num, Hnext, by omega, r1, ?_, r3, r4⟩
            show World.ownsRow _ _ _ _ _ _ _
            rw [Hpath.out, List.length_append, List.map_append]
            exact r2
          case measure => simp [intOf]; omega
      · have hsb' : ¬ ((sib a : Int) < (ln k : Int)) := by omega
        have Hpath : Hid (pathTo ln bs i (k + 1) = pathTo ln bs i k) := by
          show pathTo ln bs i (k + 1) = pathTo ln bs i k
          have e : ¬ sib (i / 2 ^ k) < ln k := by rw [← Ha.out]; exact hsb
          rw [pathTo, if_neg e, List.append_nil]
        go_wp2_with fail
        go_roundw
        case rel => exact ⟨k + 1, a / 2, v, by omega, by go_num, by go_num, Hnext, by omega, Hp, by rw [Hpath.out]; exact Ho, Hne, hbl⟩
        case measure => simp [intOf]; omega
    · have hkm : m - 1 = k := by omega
      have Hkm : Hid (m - 1 = k) := hkm
      clear hkm
      obtain ⟨pa, pc, hv, hsl⟩ : ∃ pa pc, v = .slice pa (pathTo ln bs i k).length pc ∧ SlAt wr pa (pathTo ln bs i k).length (fun j => .string ((pathTo ln bs i k).getD j ByteArray.empty)) := by
        have hlen := pathTo_length ln bs i k
        obtain ⟨h1, h2⟩ := Ho.out
        rcases h2 with ⟨rfl, h2⟩ | ⟨g, cap, cur, rfl, hg, hh, hc, hcm, hcs, hct⟩
        · exact ⟨none, 0, by rw [h2], ⟨by omega, fun h => by omega⟩⟩
        · refine ⟨_, _, rfl, ⟨by omega, fun _ => ⟨g, 0, rfl, ?_, fun j hj => ?_⟩⟩⟩
          · obtain ⟨hlt', _⟩ := Array.getElem?_eq_some_iff.1 hh
            exact hlt'
          · have e1 : cur[j]? = some (.string ((pathTo ln bs i k).getD j ByteArray.empty)) := by
              have e2 : (cur.toList.take ((pathTo ln bs i k).length * 1))[j]? = some (.string ((pathTo ln bs i k).getD j ByteArray.empty)) := by
                rw [hct, List.getElem?_map, List.getElem?_eq_getElem hj, List.getD_eq_getElem?_getD, List.getElem?_eq_getElem hj]
                rfl
              rw [List.getElem?_take_of_lt (by omega)] at e2
              simpa using e2
            simp [World.cell?, hh, e1]
      have HP2 : Hid (wr.rowIs (w1.heap.size + 1) 58 5 (pcell (ss i) (cs i) (xs i) i (.slice pa (pathTo ln bs i k).length pc))) := by
        rw [← hv]; exact Hp
      have Hsl : Hid (SlAt wr pa (pathTo ln bs i k).length (fun j => .string ((pathTo ln bs i k).getD j ByteArray.empty))) := hsl
      clear hv hsl Hp Ho Hne
      go_wp2
      go_ret2
      refine ⟨Or.inr ⟨i, w1.heap.size + 1, pa, pc, rfl, hi, Hq.out, by have := hB1.size; omega, HP2.out.cell (by omega), HP2.out.cell (by omega), HP2.out.cell (by omega), HP2.out.cell (by omega), ?_, ?_⟩, hbl⟩
      · rw [Hkm.out]; exact HP2.out.cell (by omega)
      · rw [Hkm.out]; exact Hsl.out

end Go.Proofs.Qxb6614063a
