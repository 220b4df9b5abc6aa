/-
  THE WALK OF FnRolloutProofOfPairedHostsShareUpperPath, where no guard says no.
-/
import Derived.Test.Qxb6614063aFound
namespace Go.Proofs.Qxb6614063a
open Go.RowKit

set_option linter.unusedSimpArgs false in
set_option maxRecDepth 100000 in
set_option maxHeartbeats 4000000 in
theorem law7_core (ch id : ByteArray) (k : Nat) (ma sa ha ca xa la0 : Option Addr) (mn mc sn sc n hc cc xc m lc0 : Nat) (mb sb : Nat → Int) (ss cs : Nat → ByteArray) (xs : Nat → Int) (la : Nat → Option Addr) (ln lc : Nat → Nat) (bs : Nat → Nat → Nat → Int) (w : World)
    (hma : SlAt w ma mn fun j => .int .u8 (mb j)) (hsa : SlAt w sa sn fun j => .int .u8 (sb j)) (hmn : mn < 140737488355328) (hsn : sn < 140737488355328)
    (hss : SlAt w ha n fun j => .string (ss j)) (hcs : SlAt w ca n fun j => .string (cs j)) (hxs : SlAt w xa n fun j => .int .i64 (xs j)) (hL : LevAt w la0 m la ln lc bs) (hsb : ∀ j, (ss j).size ≤ maxLen) (hcb : ∀ j, (cs j).size ≤ maxLen)
    (hn : n ≤ 4096) (hm : m ≤ 64) (hk : k < n) :
    Calls Try.prog 7 #[.string ch, .string id, .slice ma mn mc, .slice sa sn sc, .slice ha n hc, .slice ca n cc, .slice xa n xc, .slice la0 m lc0, .int .i64 k] w fun e w' => e = .returned (.bool true) ∧ Below w.heap.size w w' := by
  have hd0 : decide ((k : Int) < 0) = false := by simp
  have hd3 : decide ((n : Int) ≤ (k : Int)) = false := by simp; omega
  have hd1 : decide ((4096 : Int) < (n : Int)) = false := by simp; omega
  have hd2 : decide ((64 : Int) < (m : Int)) = false := by simp; omega
  have hmk1 := makeBytes mn hmn
  have hmk2 := makeBytes sn hsn
  have hnil := fun (w : World) (a : Option Addr) (n c : Nat) => run_neq_slice_nil_any (P := Try.prog) w 40 5 a n c 0 0 Try.underlying40
  go_enter Try.func7, Try.ntmps7
  go_wp2_with fail
  refine (bytes17 ch id k ma sa ha ca xa la0 mn mc sn sc n hc n cc n xc m lc0 ss cs la ln lc bs _ hss hcs hL hsb hcb).mono ?_
  rintro e w' ⟨⟨b, rfl⟩, rfl⟩
  cases b with
  | false =>
    go_wp2
    go_ret
    exact ⟨rfl, Below.refl _ _⟩
  | true =>
  go_wp2_with fail
  refine (rolloutBytes18 ch id ⟨#[]⟩ ma sa ha ca xa la0 mn mc sn sc n hc n cc n xc m lc0 ss cs la ln lc bs _ hss hcs hL).mono ?_
  rintro e w' ⟨⟨t, rfl⟩, rfl⟩
  by_cases ht : 1048576 < t
  · go_wp2
    go_ret
    exact ⟨rfl, Below.refl _ _⟩
  have hd4 : decide ((1048576 : Int) < t) = false := by simp; omega
  obtain ⟨w2, hcp, hB2⟩ := copyBytes ma mn mc mb _ hma
  obtain ⟨w3, hcp3, hB3'⟩ := copyBytes sa sn sc sb _ (hsa.below hB2)
  obtain ⟨w4, hcp4, hB4⟩ := copyBytes sa sn sc sb _ hsa
  have hB3 := hB2.trans (hB3'.mono hB2.size)
  have hB0 := Below.refl w'.heap.size w'
  clear hB3'
  cases ma <;> cases sa
  case' none.none =>
    have hBW := hB0
    have hst := fun (w8 : World) (pv : Value) => structAt w8 (.string ch) (.string id) (.slice none mn mc) (.slice none sn sc) pv
  case' none.some =>
    have hBW := hB4
    have hst := fun (w8 : World) (pv : Value) => structAt w8 (.string ch) (.string id) (.slice none mn mc) (.slice (some ⟨w'.heap.size, 0, none⟩) sn sn) pv
  case' some.none =>
    have hBW := hB2
    have hst := fun (w8 : World) (pv : Value) => structAt w8 (.string ch) (.string id) (.slice (some ⟨w'.heap.size, 0, none⟩) mn mn) (.slice none sn sc) pv
  case' some.some =>
    have hBW := hB3
    have hst := fun (w8 : World) (pv : Value) => structAt w8 (.string ch) (.string id) (.slice (some ⟨w'.heap.size, 0, none⟩) mn mn) (.slice (some ⟨w2.heap.size, 0, none⟩) sn sn) pv
  all_goals
    have hss1 := hss.below hBW
    have hcs1 := hcs.below hBW
    have hxs1 := hxs.below hBW
    have hL1 := hL.below hBW
    go_wp2_with fail
    clear hB0 hB2 hB3 hB4 hcp hcp3 hcp4 hmk1 hmk2 hnil
    refine (ascending19 ha n hc ss _ hss1).mono ?_
    rintro e w5 ⟨⟨b, rfl, hasc⟩, hB5'⟩
    have hB5 := hBW.trans (hB5'.mono hBW.size)
    have hL5 := hL1.below hB5'
    cases b with
    | false =>
      go_wp2
      go_ret
      exact ⟨rfl, hB5⟩
    | true =>
    have Hasc : Hid (Asc ss n) := hasc rfl
    clear hasc
    go_wp2_with fail
    refine (treeShaped20 la0 n m lc0 la ln lc bs _ hn hL5).mono ?_
    rintro e w6 ⟨⟨b, rfl, htree⟩, hB6'⟩
    have hB6 := hB5.trans (hB6'.mono hB5.size)
    cases b with
    | false =>
      go_wp2
      go_ret
      exact ⟨rfl, hB6⟩
    | true =>
    have HT : Hid (TreeOk n m ln) := htree rfl
    clear htree
    have hss6 := hss.below hB6
    have hcs6 := hcs.below hB6
    have hxs6 := hxs.below hB6
    go_wp2_with fail
    refine (entries22 ha ca xa n hc cc xc ss cs xs _ hn hss6 hcs6 hxs6).mono ?_
    rintro e w7 ⟨rfl, hE7, hB7'⟩
    have hB7 := hB6.trans (hB7'.mono hB6.size)
    go_wp2_with fail
    refine (derived21 _ _ _ _ _ _ _ _ _ _ _ _ _ _ _).mono ?_
    rintro e w8 ⟨rfl, ht0, ht1, htl, hB8'⟩
    have hB8 := hB7.trans (hB8'.mono hB7.size)
    have hE8 := hE7.below hB8'
    have hL8 := hL.below hB8
    clear hss1 hcs1 hxs1 hL1 hL5 hss6 hcs6 hxs6 hE7
    have hmT := HT.out.m1
    have hk4 : k < 4096 := by omega
    have hxor := xor1 k hk4
    obtain ⟨Wb, hWb, r0, r1, r2, r3, r4, hBs, hlt8⟩ := hst w8 (.pointer (some ⟨w7.heap.size + 1, 0, none⟩))
    have hB9 := hB8.trans (hBs.mono hB8.size)
    have hr0 := fun w' (h : Below Wb.heap.size Wb w') => (h.cell (p := ⟨w8.heap.size, 0, none⟩) hlt8).trans r0
    have hr1 := fun w' (h : Below Wb.heap.size Wb w') => (h.cell (p := ⟨w8.heap.size, 1, none⟩) hlt8).trans r1
    have hr2 := fun w' (h : Below Wb.heap.size Wb w') => (h.cell (p := ⟨w8.heap.size, 2, none⟩) hlt8).trans r2
    have hr3 := fun w' (h : Below Wb.heap.size Wb w') => (h.cell (p := ⟨w8.heap.size, 3, none⟩) hlt8).trans r3
    have hr4 := fun w' (h : Below Wb.heap.size Wb w') => (h.cell (p := ⟨w8.heap.size, 4, none⟩) hlt8).trans r4
    have hE9 := fun w' (h : Below Wb.heap.size Wb w') => (hE8.below hBs).below h
    have hL9 := fun w' (h : Below Wb.heap.size Wb w') => (hL8.below hBs).below h
    have htb9 := Nat.lt_of_lt_of_le htl hBs.size
    have ht09 := fun w' (h : Below Wb.heap.size Wb w') => (h.cell (p := ⟨w7.heap.size + 1, 0, none⟩) htb9).trans ((hBs.cell (p := ⟨w7.heap.size + 1, 0, none⟩) htl).trans ht0)
    have ht19 := fun w' (h : Below Wb.heap.size Wb w') => (h.cell (p := ⟨w7.heap.size + 1, 1, none⟩) htb9).trans ((hBs.cell (p := ⟨w7.heap.size + 1, 1, none⟩) htl).trans ht1)
    obtain ⟨hkb, hko, hkl, hkx, hkc'⟩ := (hss.below hB9).elem29 hk hc
    have hkc := fun w' (h : Below Wb.heap.size Wb w') => (h.cell (p := ⟨hkb, hko, none⟩) hkl).trans hkc'
    have hmono : ∀ wa wb, Below Wb.heap.size Wb wa → Below wa.heap.size wa wb → Below Wb.heap.size Wb wb := fun wa wb h1 h2 => h1.trans (h2.mono h1.size)
    have hE8' : Hid (∀ w', Below Wb.heap.size Wb w' → EntsAt w' w6.heap.size n ss cs xs) := hE9
    have hL8' : Hid (∀ w', Below Wb.heap.size Wb w' → LevAt w' la0 m la ln lc bs) := hL9
    have hmono' : Hid (∀ wa wb, Below Wb.heap.size Wb wa → Below wa.heap.size wa wb → Below Wb.heap.size Wb wb) := hmono
    clear hE8 hL8 ht0 ht1 r0 r1 r2 r3 r4 hE9 hL9 hmono hst hkc' hBs
    go_wp2_with fail
    go_region_held3 (fun w' => Below Wb.heap.size Wb w') (first | assumption | exact (Below.refl _ _).drew) (first
      | (go_at_call 23; refine (here23 _ _ _ _ _ _ _ _ (w7.heap.size + 1) w6.heap.size n m la0 lc0 la ln lc bs ss cs xs k _ hk (hE8'.out _ (by assumption)) (hL8'.out _ (by assumption)) HT.out hn hm Hasc.out (ht09 _ (by assumption)) (ht19 _ (by assumption))).mono ?_; rintro e w10 ⟨⟨pb, pa, pc, rfl, hpb, p0, p1, p2, p3, p4, p5⟩, hB10'⟩; have hS10 : Below Wb.heap.size Wb w10 := hmono'.out _ _ (by assumption) hB10'))
    have hB10 := hB9.trans (hS10.mono hB9.size)
    go_wp2_with fail
    refine (proofIs24 pb pa ha ca xa la0 pc n hc cc xc m lc0 la ln lc bs ss cs xs k _ (hL.below hB10) hm hmT hn hk (hss.below hB10) (hcs.below hB10) (hxs.below hB10) p0 p1 p2 p3 p4 p5).mono ?_
    rintro e w12 ⟨rfl, hB12'⟩
    have hB12 := hB10.trans (hB12'.mono hB10.size)
    have hS12 : Below Wb.heap.size Wb w12 := hmono'.out _ _ hS10 hB12'
    have hplt := World.block_lt_of_cell? _ _ p0
    have p4' := (hB12'.cell (p := ⟨pb, 4, none⟩) hplt).trans p4
    have p5' := p5.below hB12'
    have hplt12 := Nat.lt_of_lt_of_le hplt hB12'.size
    clear p0 p1 p2 p3 p4 p5 hkx hkc
    by_cases hs : sib k < n
    case neg =>
      have hd5 : decide ((n : Int) ≤ (sib k : Int)) = true := by simp; omega
      clear hr0 hr1 hr2 hr3 hr4 ht09 ht19
      go_wp2
      go_ret
      exact ⟨rfl, hB12⟩
    have hd5 : decide ((n : Int) ≤ (sib k : Int)) = false := by simp; omega
    have gr0 := fun w' (h : Below w12.heap.size w12 w') => hr0 w' (hmono'.out _ _ hS12 h)
    have gr1 := fun w' (h : Below w12.heap.size w12 w') => hr1 w' (hmono'.out _ _ hS12 h)
    have gr2 := fun w' (h : Below w12.heap.size w12 w') => hr2 w' (hmono'.out _ _ hS12 h)
    have gr3 := fun w' (h : Below w12.heap.size w12 w') => hr3 w' (hmono'.out _ _ hS12 h)
    have gr4 := fun w' (h : Below w12.heap.size w12 w') => hr4 w' (hmono'.out _ _ hS12 h)
    have gt0 := fun w' (h : Below w12.heap.size w12 w') => ht09 w' (hmono'.out _ _ hS12 h)
    have gt1 := fun w' (h : Below w12.heap.size w12 w') => ht19 w' (hmono'.out _ _ hS12 h)
    have gE : Hid (∀ w', Below w12.heap.size w12 w' → EntsAt w' w6.heap.size n ss cs xs) := fun w' h => hE8'.out _ (hmono'.out _ _ hS12 h)
    have gL : Hid (∀ w', Below w12.heap.size w12 w' → LevAt w' la0 m la ln lc bs) := fun w' h => hL8'.out _ (hmono'.out _ _ hS12 h)
    have gm : Hid (∀ wa wb, Below w12.heap.size w12 wa → Below wa.heap.size wa wb → Below w12.heap.size w12 wb) := fun wa wb h1 h2 => h1.trans (h2.mono h1.size)
    obtain ⟨gkb, gko, gkl, gkx, gkc'⟩ := (hss.below hB12).elem29 hs hc
    have gkc := fun w' (h : Below w12.heap.size w12 w') => (h.cell (p := ⟨gkb, gko, none⟩) gkl).trans gkc'
    clear hr0 hr1 hr2 hr3 hr4 ht09 ht19 hE8' hL8' hmono' gkc' hWb
    go_wp2_with fail
    go_region_held3 (fun w' => Below w12.heap.size w12 w') (first | assumption | exact (Below.refl _ _).drew) (first
      | (go_at_call 23; refine (here23 _ _ _ _ _ _ _ _ (w7.heap.size + 1) w6.heap.size n m la0 lc0 la ln lc bs ss cs xs (sib k) _ hs (gE.out _ (by assumption)) (gL.out _ (by assumption)) HT.out hn hm Hasc.out (gt0 _ (by assumption)) (gt1 _ (by assumption))).mono ?_; rintro e w13 ⟨⟨ob, oa, oc, rfl, hob, q0, q1, q2, q3, q4, q5⟩, hB13'⟩; have hS13 : Below w12.heap.size w12 w13 := gm.out _ _ (by assumption) hB13'))
    have hB13 := hB12.trans (hS13.mono hB12.size)
    have p4 := (hS13.cell (p := ⟨pb, 4, none⟩) hplt12).trans p4'
    have p5 := p5'.below hS13
    have hplt13 := Nat.lt_of_lt_of_le hplt12 hS13.size
    have holt := World.block_lt_of_cell? _ _ q0
    have hL13 := hL.below hB13
    clear gr0 gr1 gr2 gr3 gr4 gt0 gt1 gE gL gm gkc gkx p4' p5' q0 q1 q2
    obtain ⟨N, fp, fq, hN, hN64, e1, e2, e3, e4, hp0, hq0, hpq⟩ := twins_at bs HT.out hm hk hs
    rw [e1] at p4 p5
    rw [e2] at q4 q5
    simp only [e3] at p5
    simp only [e4] at q5
    clear e1 e2 e3 e4
    have Hpq : Hid (∀ s, fp (s + 1) = fq (s + 1)) := hpq
    have Hp0 : Hid (fp 0 = hexStr (bs 0 (sib k))) := hp0
    have Hq0 : Hid (fq 0 = hexStr (bs 0 k)) := hq0
    clear hpq hp0 hq0
    have hN0 : ((N : Int) == 0) = false := by rw [beq_eq_false_iff_ne]; omega
    go_wp2_with fail
    go_quiet (fail)
    obtain ⟨lb, lo, hlb, hlx', hlc'⟩ := hL13.outer.elem41 (k := 0) (by omega) lc0
    have hlx : ∀ w : World, (Instr.indexAt 41 (.slice la0 m lc0) (.int .i64 0)).run Try.prog w = .ok (.pointer (some ⟨lb, lo, none⟩)) w := hlx'
    have hlc := fun w' (h : Below w13.heap.size w13 w') => (h.cell (p := ⟨lb, lo, none⟩) hlb).trans hlc'
    have hln0 := HT.out.leaves
    obtain ⟨d1, f1, hd1b, hdx1, hdg1⟩ := hL13.digest (k := 0) (s := sib k) (by omega) (by rw [hln0]; exact hs)
    obtain ⟨d2, f2, hd2b, hdx2, hdg2⟩ := hL13.digest (k := 0) (s := k) (by omega) (by rw [hln0]; exact hk)
    obtain ⟨eb1, eo1, heb1, hex1', hec1'⟩ := p5.elem29 (k := 0) hN pc
    obtain ⟨eb2, eo2, heb2, hex2', hec2'⟩ := q5.elem29 (k := 0) hN oc
    have hex1 : ∀ w : World, (Instr.indexAt 29 (.slice pa N pc) (.int .i64 0)).run Try.prog w = .ok (.pointer (some ⟨eb1, eo1, none⟩)) w := hex1'
    have hex2 : ∀ w : World, (Instr.indexAt 29 (.slice oa N oc) (.int .i64 0)).run Try.prog w = .ok (.pointer (some ⟨eb2, eo2, none⟩)) w := hex2'
    rw [Hp0.out] at hec1'
    rw [Hq0.out] at hec2'
    have hec1 := fun w' (h : Below w13.heap.size w13 w') => (h.cell (p := ⟨eb1, eo1, none⟩) heb1).trans hec1'
    have hec2 := fun w' (h : Below w13.heap.size w13 w') => (h.cell (p := ⟨eb2, eo2, none⟩) heb2).trans hec2'
    have p4c := fun w' (h : Below w13.heap.size w13 w') => (h.cell (p := ⟨pb, 4, none⟩) hplt13).trans p4
    have q4c := fun w' (h : Below w13.heap.size w13 w') => (h.cell (p := ⟨ob, 4, none⟩) holt).trans q4
    have hu60 := Try.underlying60
    have hi1 := info60 (bs 0 (sib k))
    have hi2 := info60 (bs 0 k)
    have HB : Hid (∀ s q, 0 ≤ bs 0 s q ∧ bs 0 s q < 256) := fun s q => hL.bytes 0 s q
    have hdgr1 := fun w' (h : Below w13.heap.size w13 w') => digRange (hdg1.below h)
    have hdgr2 := fun w' (h : Below w13.heap.size w13 w') => digRange (hdg2.below h)
    have hm13 : Hid (∀ wa wb : World, Below w13.heap.size w13 wa → Below wa.heap.size wa wb → Below w13.heap.size w13 wb) := fun wa wb h1 h2 => h1.trans (h2.mono h1.size)
    clear hln0 hlx' hlc' hex1' hex2' hec1' hec2' hdg1 hdg2 p4 q4 q3 hN0 hL13
    go_wp2_with fail
    refine wp_region_noPanic ?_
    refine wp_region_held_drew (S := fun w' => Below w13.heap.size w13 w') (by kernel_rfl) (Below.drew (below_drewN (Below.refl _ _) _)) (fun hHeld => ?_)
    refine wpAnyH_take (i := 0) (by simp only [List.getElem?_toArray, List.getElem?_cons_zero, List.getElem?_cons_succ]; rfl) (by kernel_rfl) (by kernel_rfl) (by kernel_rfl) (fun _ _ _ h => h) (Or.inl ⟨by rfl, fun w (hSw : Below w13.heap.size w13 w) => by go_simp <;> rfl⟩) hHeld ?_
    simp only [Act.put, List.setIfInBounds_toArray, List.set_cons_zero, List.set_cons_succ]
    refine wpAnyH_take (i := 1) (by simp only [List.getElem?_toArray, List.getElem?_cons_zero, List.getElem?_cons_succ]; rfl) (by kernel_rfl) (by kernel_rfl) (by kernel_rfl) (fun _ _ _ h => h) (Or.inl ⟨by rfl, fun w (hSw : Below w13.heap.size w13 w) => by go_simp <;> rfl⟩) hHeld ?_
    simp only [Act.put, List.setIfInBounds_toArray, List.set_cons_zero, List.set_cons_succ]
    refine wpAnyH_take (i := 2) (by simp only [List.getElem?_toArray, List.getElem?_cons_zero, List.getElem?_cons_succ]; rfl) (by kernel_rfl) (by kernel_rfl) (by kernel_rfl) (fun _ _ _ h => h) (Or.inl ⟨by rfl, fun w (hSw : Below w13.heap.size w13 w) => by go_simp <;> rfl⟩) hHeld ?_
    simp only [Act.put, List.setIfInBounds_toArray, List.set_cons_zero, List.set_cons_succ]
    refine wpAnyH_take (i := 3) (by simp only [List.getElem?_toArray, List.getElem?_cons_zero, List.getElem?_cons_succ]; rfl) (by kernel_rfl) (by kernel_rfl) (by kernel_rfl) (fun _ _ _ h => h) (Or.inl ⟨by rfl, fun w (hSw : Below w13.heap.size w13 w) => by go_simp <;> rfl⟩) hHeld ?_
    simp only [Act.put, List.setIfInBounds_toArray, List.set_cons_zero, List.set_cons_succ]
    refine wpAnyH_take (i := 4) (by simp only [List.getElem?_toArray, List.getElem?_cons_zero, List.getElem?_cons_succ]; rfl) (by kernel_rfl) (by kernel_rfl) (by kernel_rfl) (fun _ _ _ h => h) (Or.inl ⟨by rfl, fun w (hSw : Below w13.heap.size w13 w) => by go_simp <;> rfl⟩) hHeld ?_
    simp only [Act.put, List.setIfInBounds_toArray, List.set_cons_zero, List.set_cons_succ]
    refine wpAnyH_take (i := 5) (by simp only [List.getElem?_toArray, List.getElem?_cons_zero, List.getElem?_cons_succ]; rfl) (by kernel_rfl) (by kernel_rfl) (by kernel_rfl) (fun _ _ _ h => h) (Or.inl ⟨by rfl, fun w (hSw : Below w13.heap.size w13 w) => by go_simp <;> rfl⟩) hHeld ?_
    simp only [Act.put, List.setIfInBounds_toArray, List.set_cons_zero, List.set_cons_succ]
    refine wpAnyH_take (i := 6) (by simp only [List.getElem?_toArray, List.getElem?_cons_zero, List.getElem?_cons_succ]; rfl) (by kernel_rfl) (by kernel_rfl) (by kernel_rfl) (fun _ _ _ h => h) (Or.inl ⟨by rfl, fun w (hSw : Below w13.heap.size w13 w) => by go_simp <;> rfl⟩) hHeld ?_
    simp only [Act.put, List.setIfInBounds_toArray, List.set_cons_zero, List.set_cons_succ]
    refine wpAnyH_take (i := 7) (by simp only [List.getElem?_toArray, List.getElem?_cons_zero, List.getElem?_cons_succ]; rfl) (by kernel_rfl) (by kernel_rfl) (by kernel_rfl) (fun _ _ _ h => h) (Or.inl ⟨by rfl, fun w (hSw : Below w13.heap.size w13 w) => by go_simp <;> rfl⟩) hHeld ?_
    simp only [Act.put, List.setIfInBounds_toArray, List.set_cons_zero, List.set_cons_succ]
    refine wpAnyH_take (i := 8) (by simp only [List.getElem?_toArray, List.getElem?_cons_zero, List.getElem?_cons_succ]; rfl) (by kernel_rfl) (by kernel_rfl) (by kernel_rfl) (fun _ _ _ h => h) (Or.inl ⟨by rfl, fun w (hSw : Below w13.heap.size w13 w) => by go_simp <;> rfl⟩) hHeld ?_
    simp only [Act.put, List.setIfInBounds_toArray, List.set_cons_zero, List.set_cons_succ]
    refine wpAnyH_take (i := 9) (by simp only [List.getElem?_toArray, List.getElem?_cons_zero, List.getElem?_cons_succ]; rfl) (by kernel_rfl) (by kernel_rfl) (by kernel_rfl) (fun _ _ _ h => h) (Or.inl ⟨by rfl, fun w (hSw : Below w13.heap.size w13 w) => by go_simp <;> rfl⟩) hHeld ?_
    simp only [Act.put, List.setIfInBounds_toArray, List.set_cons_zero, List.set_cons_succ]
    refine wpAnyH_take (i := 10) (by simp only [List.getElem?_toArray, List.getElem?_cons_zero, List.getElem?_cons_succ]; rfl) (by kernel_rfl) (by kernel_rfl) (by kernel_rfl) (fun _ _ _ h => h) (Or.inl ⟨by rfl, fun w (hSw : Below w13.heap.size w13 w) => by go_simp <;> rfl⟩) hHeld ?_
    simp only [Act.put, List.setIfInBounds_toArray, List.set_cons_zero, List.set_cons_succ]
    refine wpAnyH_take (i := 11) (by simp only [List.getElem?_toArray, List.getElem?_cons_zero, List.getElem?_cons_succ]; rfl) (by kernel_rfl) (by kernel_rfl) (by kernel_rfl) (fun _ _ _ h => h) (yieldsIf_load_mid (by rfl) _ _ rfl _ _ rfl _ _ hdgr1 hu60 rfl hi1) hHeld ?_
    simp only [Act.put, List.setIfInBounds_toArray, List.set_cons_zero, List.set_cons_succ]
    refine wpAnyH_ready (rs := [12]) (by kernel_rfl) (by simp) ?_
    refine AllReadyH.cons (o := _) (by simp only [List.getElem?_toArray, List.getElem?_cons_zero, List.getElem?_cons_succ]; rfl) (fun K hK => ?_) AllReadyH.nil
    go_simp
    refine (hex25 _ _ (fun q _ => HB.out _ q)).mono ?_
    rintro e wx12 ⟨rfl, hBx'⟩
    try go_simp
    refine hK.out _ _ (hm13.out _ _ hHeld hBx') (fun hHeld12 => ?_)
    clear hK K hHeld
    have hHeld := hHeld12
    clear hHeld12
    try simp only [Act.put, List.setIfInBounds_toArray, List.set_cons_zero, List.set_cons_succ]
    refine wpAnyH_take (i := 13) (by simp only [List.getElem?_toArray, List.getElem?_cons_zero, List.getElem?_cons_succ]; rfl) (by kernel_rfl) (by kernel_rfl) (by kernel_rfl) (fun _ _ _ h => h) (Or.inl ⟨by rfl, fun w (hSw : Below w13.heap.size w13 w) => by go_simp <;> rfl⟩) hHeld ?_
    simp only [Act.put, List.setIfInBounds_toArray, List.set_cons_zero, List.set_cons_succ]
    refine wpAnyH_take (i := 14) (by simp only [List.getElem?_toArray, List.getElem?_cons_zero, List.getElem?_cons_succ]; rfl) (by kernel_rfl) (by kernel_rfl) (by kernel_rfl) (fun _ _ _ h => h) (Or.inl ⟨by rfl, fun w (hSw : Below w13.heap.size w13 w) => by go_simp <;> rfl⟩) hHeld ?_
    simp only [Act.put, List.setIfInBounds_toArray, List.set_cons_zero, List.set_cons_succ]
    refine wpAnyH_take (i := 15) (by simp only [List.getElem?_toArray, List.getElem?_cons_zero, List.getElem?_cons_succ]; rfl) (by kernel_rfl) (by kernel_rfl) (by kernel_rfl) (fun _ _ _ h => h) (Or.inl ⟨by rfl, fun w (hSw : Below w13.heap.size w13 w) => by go_simp <;> rfl⟩) hHeld ?_
    simp only [Act.put, List.setIfInBounds_toArray, List.set_cons_zero, List.set_cons_succ]
    refine wpAnyH_take (i := 16) (by simp only [List.getElem?_toArray, List.getElem?_cons_zero, List.getElem?_cons_succ]; rfl) (by kernel_rfl) (by kernel_rfl) (by kernel_rfl) (fun _ _ _ h => h) (Or.inl ⟨by rfl, fun w (hSw : Below w13.heap.size w13 w) => by go_simp <;> rfl⟩) hHeld ?_
    simp only [Act.put, List.setIfInBounds_toArray, List.set_cons_zero, List.set_cons_succ]
    refine wpAnyH_take (i := 17) (by simp only [List.getElem?_toArray, List.getElem?_cons_zero, List.getElem?_cons_succ]; rfl) (by kernel_rfl) (by kernel_rfl) (by kernel_rfl) (fun _ _ _ h => h) (Or.inl ⟨by rfl, fun w (hSw : Below w13.heap.size w13 w) => by go_simp <;> rfl⟩) hHeld ?_
    simp only [Act.put, List.setIfInBounds_toArray, List.set_cons_zero, List.set_cons_succ]
    refine wpAnyH_take (i := 18) (by simp only [List.getElem?_toArray, List.getElem?_cons_zero, List.getElem?_cons_succ]; rfl) (by kernel_rfl) (by kernel_rfl) (by kernel_rfl) (fun _ _ _ h => h) (Or.inl ⟨by rfl, fun w (hSw : Below w13.heap.size w13 w) => by go_simp <;> rfl⟩) hHeld ?_
    simp only [Act.put, List.setIfInBounds_toArray, List.set_cons_zero, List.set_cons_succ]
    refine wpAnyH_take (i := 19) (by simp only [List.getElem?_toArray, List.getElem?_cons_zero, List.getElem?_cons_succ]; rfl) (by kernel_rfl) (by kernel_rfl) (by kernel_rfl) (fun _ _ _ h => h) (Or.inl ⟨by rfl, fun w (hSw : Below w13.heap.size w13 w) => by go_simp <;> rfl⟩) hHeld ?_
    simp only [Act.put, List.setIfInBounds_toArray, List.set_cons_zero, List.set_cons_succ]
    refine wpAnyH_take (i := 20) (by simp only [List.getElem?_toArray, List.getElem?_cons_zero, List.getElem?_cons_succ]; rfl) (by kernel_rfl) (by kernel_rfl) (by kernel_rfl) (fun _ _ _ h => h) (Or.inl ⟨by rfl, fun w (hSw : Below w13.heap.size w13 w) => by go_simp <;> rfl⟩) hHeld ?_
    simp only [Act.put, List.setIfInBounds_toArray, List.set_cons_zero, List.set_cons_succ]
    refine wpAnyH_take (i := 21) (by simp only [List.getElem?_toArray, List.getElem?_cons_zero, List.getElem?_cons_succ]; rfl) (by kernel_rfl) (by kernel_rfl) (by kernel_rfl) (fun _ _ _ h => h) (Or.inl ⟨by rfl, fun w (hSw : Below w13.heap.size w13 w) => by go_simp <;> rfl⟩) hHeld ?_
    simp only [Act.put, List.setIfInBounds_toArray, List.set_cons_zero, List.set_cons_succ]
    refine wpAnyH_take (i := 22) (by simp only [List.getElem?_toArray, List.getElem?_cons_zero, List.getElem?_cons_succ]; rfl) (by kernel_rfl) (by kernel_rfl) (by kernel_rfl) (fun _ _ _ h => h) (Or.inl ⟨by rfl, fun w (hSw : Below w13.heap.size w13 w) => by go_simp <;> rfl⟩) hHeld ?_
    simp only [Act.put, List.setIfInBounds_toArray, List.set_cons_zero, List.set_cons_succ]
    refine wpAnyH_take (i := 23) (by simp only [List.getElem?_toArray, List.getElem?_cons_zero, List.getElem?_cons_succ]; rfl) (by kernel_rfl) (by kernel_rfl) (by kernel_rfl) (fun _ _ _ h => h) (Or.inl ⟨by rfl, fun w (hSw : Below w13.heap.size w13 w) => by go_simp <;> rfl⟩) hHeld ?_
    simp only [Act.put, List.setIfInBounds_toArray, List.set_cons_zero, List.set_cons_succ]
    refine wpAnyH_take (i := 24) (by simp only [List.getElem?_toArray, List.getElem?_cons_zero, List.getElem?_cons_succ]; rfl) (by kernel_rfl) (by kernel_rfl) (by kernel_rfl) (fun _ _ _ h => h) (Or.inl ⟨by rfl, fun w (hSw : Below w13.heap.size w13 w) => by go_simp <;> rfl⟩) hHeld ?_
    simp only [Act.put, List.setIfInBounds_toArray, List.set_cons_zero, List.set_cons_succ]
    refine wpAnyH_take (i := 25) (by simp only [List.getElem?_toArray, List.getElem?_cons_zero, List.getElem?_cons_succ]; rfl) (by kernel_rfl) (by kernel_rfl) (by kernel_rfl) (fun _ _ _ h => h) (Or.inl ⟨by rfl, fun w (hSw : Below w13.heap.size w13 w) => by go_simp <;> rfl⟩) hHeld ?_
    simp only [Act.put, List.setIfInBounds_toArray, List.set_cons_zero, List.set_cons_succ]
    refine wpAnyH_take (i := 26) (by simp only [List.getElem?_toArray, List.getElem?_cons_zero, List.getElem?_cons_succ]; rfl) (by kernel_rfl) (by kernel_rfl) (by kernel_rfl) (fun _ _ _ h => h) (yieldsIf_load_mid (by rfl) _ _ rfl _ _ rfl _ _ hdgr2 hu60 rfl hi2) hHeld ?_
    simp only [Act.put, List.setIfInBounds_toArray, List.set_cons_zero, List.set_cons_succ]
    refine wpAnyH_ready (rs := [27]) (by kernel_rfl) (by simp) ?_
    refine AllReadyH.cons (o := _) (by simp only [List.getElem?_toArray, List.getElem?_cons_zero, List.getElem?_cons_succ]; rfl) (fun K hK => ?_) AllReadyH.nil
    go_simp
    refine (hex25 _ _ (fun q _ => HB.out _ q)).mono ?_
    rintro e wx27 ⟨rfl, hBx'⟩
    try go_simp
    refine hK.out _ _ (hm13.out _ _ hHeld hBx') (fun hHeld27 => ?_)
    clear hK K hHeld
    have hHeld := hHeld27
    clear hHeld27
    try simp only [Act.put, List.setIfInBounds_toArray, List.set_cons_zero, List.set_cons_succ]
    refine wpAnyH_take (i := 28) (by simp only [List.getElem?_toArray, List.getElem?_cons_zero, List.getElem?_cons_succ]; rfl) (by kernel_rfl) (by kernel_rfl) (by kernel_rfl) (fun _ _ _ h => h) (Or.inl ⟨by rfl, fun w (hSw : Below w13.heap.size w13 w) => by go_simp <;> rfl⟩) hHeld ?_
    simp only [Act.put, List.setIfInBounds_toArray, List.set_cons_zero, List.set_cons_succ]
    refine wpAnyH_take (i := 29) (by simp only [List.getElem?_toArray, List.getElem?_cons_zero, List.getElem?_cons_succ]; rfl) (by kernel_rfl) (by kernel_rfl) (by kernel_rfl) (fun _ _ _ h => h) (Or.inl ⟨by rfl, fun w (hSw : Below w13.heap.size w13 w) => by go_simp <;> rfl⟩) hHeld ?_
    simp only [Act.put, List.setIfInBounds_toArray, List.set_cons_zero, List.set_cons_succ]
    refine wpAnyH_done (by kernel_rfl) ?_ _
    refine NoPanic.normal ?_
    have p4x := p4c _ hHeld
    have p5x := p5.below hHeld
    have q4x := q4c _ hHeld
    have q5x := q5.below hHeld
    have hB14 := hB13.trans (hHeld.mono hB13.size)
    have hpx := World.block_lt_of_cell? _ _ p4x
    have hqx := World.block_lt_of_cell? _ _ q4x
    clear hex1 hex2 hec1 hec2 p4c q4c hlx hlc hdx1 hdx2 hdgr1 hdgr2 hm13
    go_wp2_with fail
    go_loopw [28] (fun v wr => ∃ t : Nat, 1 ≤ t ∧ t ≤ N ∧ v = .int .i64 t ∧ Below wx27.heap.size wx27 wr) (fun v _ => N - (intOf v).toNat)
    case atStart => exact ⟨1, by omega, by omega, rfl, Below.refl _ _⟩
    case round =>
      obtain ⟨t, ht1, ht, rfl, hbl⟩ := hrel
      have hbw := hB14.trans (hbl.mono hB14.size)
      have p4y := (hbl.cell (p := ⟨pb, 4, none⟩) hpx).trans p4x
      have q4y := (hbl.cell (p := ⟨ob, 4, none⟩) hqx).trans q4x
      by_cases hlt : t < N
      · obtain ⟨b1, o1, _, hix1, hc1⟩ := (p5x.below hbl).elem29 hlt pc
        obtain ⟨b2, o2, _, hix2, hc2⟩ := (q5x.below hbl).elem29 hlt oc
        have hpq : fp t = fq t := by
          have := Hpq.out (t - 1)
          rwa [show t - 1 + 1 = t by omega] at this
        rw [hpq] at hc1
        generalize fq t = s at hc1 hc2
        clear hpq p4x q4x p5x q5x
        go_wp2_with fail
        go_quiet (fail)
        go_wp2_with fail
        go_roundw
        case rel => exact ⟨t + 1, by omega, by omega, by go_num, below_drewN hbl _⟩
        case measure => simp [intOf]; omega
      · go_wp2
        go_ret
        exact ⟨rfl, hbw⟩

end Go.Proofs.Qxb6614063a
