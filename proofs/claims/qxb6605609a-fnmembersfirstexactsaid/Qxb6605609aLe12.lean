/-
  FnMembersFirstExact: regions 12 to 31.
-/
import Derived.Test.Qxb6605609aLe
import Derived.Test.Qxb6605609aL45
import Derived.Test.Qxb6605609aL19
import Derived.Test.Qxb6605609aSm
import Derived.BigQuiet
import Derived.Deep.RegionWith
namespace Go.Proofs.Qxb6605609a
open Go.RowKit
variable {w : World} {ss : Nat → ByteArray} {la : Nat → Option Addr} {ln lc : Nat → Nat} {ms : Nat → Nat → ByteArray} {Post : Ending → World → Prop}

theorem quiet_two {P : Program} {f : FuncId} {args : Array Value} {w : World} {k n : Nat} {v : Value} (h : Calls P f args (w.drewN (k + n)) fun e w' => e = .returned v ∧ ∃ m, w' = (w.drewN (k + n)).drewN m) : Calls P f args (w.drewN (k + n)) fun e w'' => e = .returned v ∧ ∃ m, w'' = w.drewN (k + m) :=
  h.mono fun _ _ ⟨he, m, hm⟩ => ⟨he, n + m, by rw [hm, World.drewN_drewN, Nat.add_assoc]⟩

theorem told_below {w w' : World} {a : Option Addr} {gb : Nat → Nat} {out : List Nat} (h : Told w a gb out) (hb : Below w.heap.size w w') : Told w' a gb out :=
  ⟨h.1, fun hl => by
    obtain ⟨b, off, e, hlt, hc⟩ := h.2 hl
    exact ⟨b, off, e, Nat.lt_of_lt_of_le hlt hb.size, fun k f hk hf => (hb.cell (p := ⟨b, off + (k * 5 + f), none⟩) hlt).trans (hc k f hk hf)⟩⟩

set_option maxRecDepth 1000000 in
set_option maxHeartbeats 4000000 in
theorem exact12 (hssz : ∀ i, (ss i).size ≤ maxLen) (hmsz : ∀ i j, (ms i j).size ≤ maxLen)
    (hout : ∀ (n : Nat) (cf : Nat → Nat), n ≤ 4096 → (∀ x, x < n → LeastOf (adjL ss n ln ms) n x (cf x)) → ((∀ i, adjL ss n ln ms i = []) → OutOk (adjL ss n ln ms) n cf (List.range n) ∧ SameAs (adjL ss n ln ms) cf n (List.range n)) ∧ ∀ (wl hol : Nat → List Nat) (D : List Nat) (ws : Nat → Int), Waits (adjL ss n ln ms) cf n (rnk cf n) wl hol → Kahn (rnk cf n) wl D [] [] ws → Lst (fun a b => a ≤ b) (rnk cf n) wl D → OutOk (adjL ss n ln ms) n cf (D.flatMap (partL cf n)) ∧ SameAs (adjL ss n ln ms) cf n (D.flatMap (partL cf n)))
    (hT : ∀ w', Below w.heap.size w w' → Post (.returned (.bool true)) w') : E12 w ss ln ms Post := by
  intro wk a a1 n c c1 la lc hbel hs hL hn hln hasc y2 y3 y4 y5 y6 y7 y8 y9 y10 y11 y12 y13 y14 y15 y16 y17 y18 y19 y20 y21 y22 y23 y24 y25 y26 y27 y28 y29 y30 y31 y32 y33 y34 y35 y36 y37 y38 y39 y40 y41 y42 y43 y44 y45 y46 y47 y48 y49 y50 y51 y52 y53 y54 y55 y56 y57 y58 y59 y60 y61 y62 y63 y64 y65 y66 y67 y68 y69 y70 y71 y72 y73 y74 y75 y76 y77 y78 y79 y80 y81 y82 y83 y84 y85 y86 y87 y88 y89 y90 y91 y92 y93 y94 y95 y96 y97 y98 y99 y100 y101 y102 y103 y104 y105 y106 y107 y108 y109 y110 y111 y112 y113 y114 y115 y116 y117 y118 y119 y120 y121 y122 y123 y124 y125 y126 y127 y128 y129 y130 y131 y132 y133 y134 y135 y136 y137 y138 y139 y140 y141 y142 y143 y144 y145 y146 y147 y148 y149 K hK
  have HT : Hid (∀ w', Below w.heap.size w w' → Post (.returned (.bool true)) w') := hT
  have HB : Hid (Below w.heap.size w wk) := hbel
  have HA : Hid (Asc ss n) := hasc
  have HO : Hid (∀ (n : Nat) (cf : Nat → Nat), n ≤ 4096 → (∀ x, x < n → LeastOf (adjL ss n ln ms) n x (cf x)) → ((∀ i, adjL ss n ln ms i = []) → OutOk (adjL ss n ln ms) n cf (List.range n) ∧ SameAs (adjL ss n ln ms) cf n (List.range n)) ∧ ∀ (wl hol : Nat → List Nat) (D : List Nat) (ws : Nat → Int), Waits (adjL ss n ln ms) cf n (rnk cf n) wl hol → Kahn (rnk cf n) wl D [] [] ws → Lst (fun a b => a ≤ b) (rnk cf n) wl D → OutOk (adjL ss n ln ms) n cf (D.flatMap (partL cf n)) ∧ SameAs (adjL ss n ln ms) cf n (D.flatMap (partL cf n))) := hout
  have h10 := clone10 a n c ss wk hs (by omega)
  have HL : Hid (Lists wk a1 n la ln lc ms) := hL
  have Hln : Hid (∀ k, k < n → ln k ≤ 131072) := hln
  have Hsz : Hid ((∀ i, (ss i).size ≤ maxLen) ∧ ∀ i j, (ms i j).size ≤ maxLen) := ⟨hssz, hmsz⟩
  clear hT hbel hasc hout hL hln hssz hmsz hs
  have hr := rfl (a := rest5 12)
  conv at hr => lhs; whnf
  rw [← hr] at hK
  clear hr
  conv => arg 2; whnf
  go_wp2_with fail
  refine h10.mono ?_
  rintro e w1 ⟨⟨a2, c2, rfl, hs2, _⟩, hb1⟩
  have Hs2 : Hid (SlAt w1 a2 n (fun j => .string (ss j))) := hs2
  have h11 := cloneLists11 a1 n c1 la ln lc ms w1 (HL.out.below hb1) (by omega) (fun k hk => by have := Hln.out k hk; omega)
  have Hb1 : Hid (Below wk.heap.size wk w1) := hb1
  clear hs2 h10 hb1
  go_wp2_with fail
  refine h11.mono ?_
  rintro e w2 ⟨⟨a3, c3, la3, lc3, rfl, hl3⟩, hb2⟩
  have Hl3 : Hid (Lists w2 a3 n la3 ln lc3 ms) := hl3
  have Hb2 : Hid (Below w1.heap.size w1 w2) := hb2
  have h11b := cloneLists11 a3 n c3 la3 ln lc3 ms w2 hl3 (by omega) (fun k hk => by have := Hln.out k hk; omega)
  clear hl3 hb2 h11
  go_wp2_with fail
  refine h11b.mono ?_
  rintro e w3 ⟨⟨a4, c4, la4, lc4, rfl, hl4⟩, hb3⟩
  have Hb3 : Hid (Below w2.heap.size w2 w3) := hb3
  have hs3 : SlAt w3 a2 n (fun j => .string (ss j)) := (Hs2.out.below Hb2.out).below hb3
  have h18 := creat18 a2 a4 n c2 c4 ss la4 ln lc4 ms w3 hn hs3 hl4
  have Hs3 : Hid (SlAt w3 a2 n (fun j => .string (ss j))) := hs3
  have Hl3' : Hid (Lists w3 a3 n la3 ln lc3 ms) := Hl3.out.below hb3
  clear hl4 hb3 hs3 h11b
  go_wp2_with fail
  refine h18.mono ?_
  rintro e w4 ⟨⟨rfl, gb, hcr, _⟩, hb4⟩
  have Hb4 : Hid (Below w3.heap.size w3 w4) := hb4
  have Hcr : Hid (Created w4 w3.heap.size n gb ss la4 ln lc4 ms) := hcr
  obtain ⟨f1, f2, f3⟩ := HA.out.facts
  have hMF : MF w4 w3.heap.size n gb ss la4 ln lc4 ms := ⟨hn, hcr, Hsz.out.1, Hsz.out.2, Hln.out, f1, f2, f3⟩
  obtain ⟨cf, hcf⟩ : ∃ cf : Nat → Nat, ∀ x, x < n → LeastOf (adjL ss n ln ms) n x (cf x) := by
    refine ⟨fun x => if h : x < n then Classical.choose (exists_leastOf (adjL ss n ln ms) h) else 0, fun x hx => ?_⟩
    show LeastOf _ _ _ (dite _ _ _)
    rw [dif_pos hx]
    exact Classical.choose_spec (exists_leastOf (adjL ss n ln ms) hx)
  have Hcf : Hid (∀ x, x < n → LeastOf (adjL ss n ln ms) n x (cf x)) := hcf
  have hoo := HO.out n cf hn hcf
  have hmf := mf25 (Post := fun e w' => ∃ ga c out, e = .returned (.slice ga out.length c) ∧ Below w4.heap.size w4 w' ∧ Told w' ga gb out ∧ OutOk (adjL ss n ln ms) n cf out ∧ SameAs (adjL ss n ln ms) cf n out) (ok := fun out => OutOk (adjL ss n ln ms) n cf out ∧ SameAs (adjL ss n ln ms) cf n out) hMF hcf HeapLaw.least (fun w' ga c out h1 h2 h3 => ⟨ga, c, out, rfl, h1, h2, h3.1, h3.2⟩) hoo.1 (fun wl hol D ws h1 h2 h3 => ⟨hoo.2 wl hol D ws h1 h2 h3, by rw [(hoo.2 wl hol D ws h1 h2 h3).1.len]; exact hn⟩)
  have h19 := zz19 hmf (fun e w' ⟨ga, c, out, h, _⟩ => ⟨_, h⟩)
  clear hcr hb4 f1 f2 f3 hMF hcf hoo hmf h18
  go_wp2_with fail
  refine h19.mono ?_
  rintro e w5 ⟨ga, gc, out, rfl, hb5, htold, hook, hsame⟩
  have Hlen : Hid (out.length = n) := hook.len
  have Hlt : Hid (∀ k, k < n → out.getD k 0 < n) := hook.lt
  have Hsame : Hid (SameAs (adjL ss n ln ms) cf n out) := hsame
  have Htold : Hid (Told w5 ga gb out) := htold
  have Hb5 : Hid (Below w4.heap.size w4 w5) := hb5
  have hs5 : SlAt w5 a2 n (fun j => .string (ss j)) := (Hs3.out.below Hb4.out).below hb5
  have hl5 : Lists w5 a3 n la3 ln lc3 ms := (Hl3'.out.below Hb4.out).below hb5
  have Hs5 : Hid (SlAt w5 a2 n (fun j => .string (ss j))) := hs5
  have Hl5 : Hid (Lists w5 a3 n la3 ln lc3 ms) := hl5
  have Hcr5 : Hid (Created w5 w3.heap.size n gb ss la4 ln lc4 ms) := Hcr.out.below hb5
  have hlen := hook.len
  rw [hlen]
  have h20 := graph20 a2 a3 n c2 c3 ss la3 ln lc3 ms w5 hn hs5 hl5 Hsz.out.1 Hsz.out.2 Hln.out HA.out.facts.1
  have Hbw : Hid (Below w.heap.size w w5) := by
    have e1 : Below w.heap.size w w1 := HB.out.trans (Hb1.out.mono HB.out.size)
    have e2 : Below w.heap.size w w2 := e1.trans (Hb2.out.mono e1.size)
    have e3 : Below w.heap.size w w3 := e2.trans (Hb3.out.mono e2.size)
    have e4 : Below w.heap.size w w4 := e3.trans (Hb4.out.mono e3.size)
    exact e4.trans (Hb5.out.mono e4.size)
  clear hook hsame htold hb5 hlen h19 hs5 hl5
  go_wp2_with fail
  refine h20.mono ?_
  rintro e w6 ⟨⟨g1, g2, va1, vc1, va2, vc2, R, rfl, hr1, hr2, hrev⟩, hb6⟩
  have Hb6 : Hid (Below w5.heap.size w5 w6) := hb6
  have HR1 : Hid (IRows w6 g1 n va1 vc1 (adjL ss n ln ms)) := hr1
  have h22 := comps22 g1 g2 n n n va1 va2 vc1 vc2 (adjL ss n ln ms) R w6 hn hr1 hr2 (fun _ _ b hb => adjL_lt hb) hrev
  clear h20 hr1 hr2 hrev hb6
  go_wp2_with fail
  refine h22.mono ?_
  rintro e w7 ⟨⟨ca, cc, comp, rfl, hcs, hcl⟩, hb7⟩
  have hMD : MD w7 g1 n va1 vc1 (adjL ss n ln ms) ca cf := ⟨hn, HR1.out.below hb7, hcs.congr (fun i hi => by rw [leastOf_unique (hcl i hi) (Hcf.out i hi)]), fun i hi => (Hcf.out i hi).1, fun i hi => cf_idem Hcf.out hi, fun _ _ _ hj => adjL_lt hj⟩
  have Hb7 : Hid (Below w5.heap.size w5 w7) := Hb6.out.trans (hb7.mono Hb6.out.size)
  have h21 := model21 (gc := n) (cc := cc) (Post := fun e w' => ∃ oa oc, e = .returned (.slice oa n oc) ∧ Below w7.heap.size w7 w' ∧ SlAt w' oa n (fun k => .int .i64 ((out.getD k 0 : Nat) : Int))) hMD (fun w' oa oc wl hol D ws h1 h2 h3 h4 h5 => by
    have e := Hsame.out wl hol D ws h2 h3 h4
    rw [e, Hlen.out] at h5
    rw [e, Hlen.out]
    exact ⟨oa, oc, rfl, h1, h5⟩)
  clear h22 hcs hcl hb7 hMD
  go_wp2_with fail
  refine h21.mono ?_
  rintro e w8 ⟨oa, oc, rfl, hb8, hos⟩
  have Hb8 : Hid (Below w5.heap.size w5 w8) := Hb7.out.trans (hb8.mono Hb7.out.size)
  have Hos : Hid (SlAt w8 oa n (fun k => .int .i64 ((out.getD k 0 : Nat) : Int))) := hos
  have Htold8 : Hid (Told w8 ga gb out) := told_below Htold.out Hb8.out
  clear h21 hb8 hos
  have hd : ((n : Int) != (n : Int)) = false := by simp
  have HB8 : Hid (Below w.heap.size w w8) := Hbw.out.trans (Hb8.out.mono Hbw.out.size)
  have HS : Hid (SlAt w8 a2 n (fun j => .string (ss j))) := Hs5.out.below Hb8.out
  have HLi : Hid (Lists w8 a3 n la3 ln lc3 ms) := Hl5.out.below Hb8.out
  obtain ⟨cb, hcb⟩ : ∃ cb, cb = w3.heap.size := ⟨_, rfl⟩
  have HCr : Hid (Created w8 cb n gb ss la4 ln lc4 ms) := by rw [hcb]; exact Hcr5.out.below Hb8.out
  have hcw : (Value.slice (some ⟨w3.heap.size, 0, none⟩) n n) = .slice (some ⟨cb, 0, none⟩) n n := by rw [hcb]
  rw [hcw]
  clear hcb hcw Hbw Hb8 Hs5 Hl5 Hcr5 Htold Hb7 Hsame HR1 Hb6 Hcf Hb5 Hb4 Hcr Hl3' Hs3 Hb3 Hl3 Hb2 Hs2 Hb1 HB HA HO HL Hln Hsz
  go_wp2_with fail
  go_loopw [4, 11, 12, 13] (fun _ v _ _ wx => ∃ t : Nat, t ≤ n ∧ v = .int .i64 t ∧ Hid (Below w8.heap.size w8 wx)) (fun _ v _ _ _ => n - (intOf v).toNat)
  case atStart => exact ⟨0, Nat.zero_le _, rfl, Below.refl _ _⟩
  case round =>
    obtain ⟨t, ht, rfl, Hbw⟩ := hrel
    by_cases hlt4 : t < n
    · obtain ⟨i, hi⟩ : ∃ i, i = out.getD t 0 := ⟨_, rfl⟩
      have hin : i < n := by rw [hi]; exact Hlt.out t hlt4
      obtain ⟨gbk, goff, ega, hgb, hgc⟩ := Htold8.out.2 (by rw [Hlen.out]; omega)
      have hbk := Hbw.out
      have hg : ∀ f, f < 5 → wr.cell? ⟨gbk, goff + t * 5 + f, none⟩ = some (chCell gb (i * 5 + f)) := fun f hf => by
        have h1 := hgc t f (by rw [Hlen.out]; omega) hf
        rw [← hi, ← Nat.add_assoc] at h1
        exact (hbk.cell (p := ⟨gbk, goff + t * 5 + f, none⟩) hgb).trans h1
      have g0 := hg 0 (by omega)
      have g1 := hg 1 (by omega)
      have g2 := hg 2 (by omega)
      have g3 := hg 3 (by omega)
      have g4 := hg 4 (by omega)
      rw [Nat.add_zero, Nat.add_zero, chCell0] at g0
      rw [chCell1] at g1
      rw [chCell2] at g2
      rw [chCell3] at g3
      rw [chCell4] at g4
      subst ega
      have hxg := fun w => elem37g (b := gbk) (off := goff) (c := gc) hlt4 w
      have hxc := fun w => elem37 (cb := cb) hin w
      obtain ⟨b9, o9, _, hix9, hc9⟩ := (Hos.out.below hbk).elem43 hlt4 oc
      rw [← hi] at hc9
      clear hgc hg hi hgb hbk
      go_upto_region 25 with fail
      obtain ⟨wz, hwz⟩ : ∃ wz, wz = wr.alloc (.cells #[.int .i64 0, .pointer none, .pointer none, .pointer none, .pointer (some ⟨gb i, 0, none⟩)] 50) := ⟨_, rfl⟩
      obtain ⟨gv, hgv⟩ : ∃ gv, gv = wr.heap.size := ⟨_, rfl⟩
      have hz := heap_alloc_new wr (.cells #[.int .i64 0, .pointer none, .pointer none, .pointer none, .pointer (some ⟨gb i, 0, none⟩)] 50)
      rw [← hwz, ← hgv] at hz
      have z0 : wz.cell? ⟨gv, 0, none⟩ = some (.int .i64 0) := by simp [World.cell?, hz]
      have z1 : wz.cell? ⟨gv, 1, none⟩ = some (.pointer none) := by simp [World.cell?, hz]
      have z2 : wz.cell? ⟨gv, 2, none⟩ = some (.pointer none) := by simp [World.cell?, hz]
      have z3 : wz.cell? ⟨gv, 3, none⟩ = some (.pointer none) := by simp [World.cell?, hz]
      have z4 : wz.cell? ⟨gv, 4, none⟩ = some (.pointer (some ⟨gb i, 0, none⟩)) := by simp [World.cell?, hz]
      have hbz : Below w8.heap.size w8 wz := by rw [hwz]; exact Hbw.out.alloc Hbw.out.size _
      have Hbz : Hid (Below w8.heap.size w8 wz) := hbz
      have hcr := HCr.out.below hbz
      have hcr0 := hcr.row.cell (show i * 5 + 0 < n * 5 by omega)
      rw [Nat.add_zero, chCell0] at hcr0
      obtain ⟨d4, d0, d2⟩ := hcr.cells hin
      obtain ⟨b6, o6, _, hix6, hc6⟩ := (HS.out.below hbz).elem22 hin c2
      obtain ⟨b7, o7, _, hix7, hc7⟩ := (HLi.out.below hbz).outer.elem23 hin c3
      have Hsm : Hid (∀ W, Below wz.heap.size wz W → Calls Try.prog 13 #[.slice (la4 i) (ln i) (lc4 i), .slice (la3 i) (ln i) (lc3 i)] W (fun e w' => e = .returned (.bool true) ∧ ∃ m, w' = W.drewN m)) := fun W hW =>
        same13q (la4 i) (la3 i) (ln i) (lc4 i) (lc3 i) (ms i) W ((hcr.mem i hin).below hW) (((HLi.out.below hbz).inner i hin).below hW)
      have hnq := fun w => neq48 (gb i) w
      rw [← hwz, ← hgv]
      clear hwz hgv hz hbz hcr g0 g1 g2 g3 g4 hxg hc9 hix9 Hbw
      go_quiet (fail)
      go_wp2_with fail
      go_quiet (fail)
      go_wp2_with fail
      go_quiet ((go_at_call 13; refine quiet_two (Hsm.out _ (by repeat (first | exact Below.refl _ _ | refine below_drewN ?_ _)))))
      go_wp2_with fail
      go_roundw
      case rel => exact ⟨t + 1, by omega, by go_num, (by show Below _ _ _; repeat (first | exact Hbz.out | refine below_drewN ?_ _))⟩
      case measure => simp [intOf]; omega
    · have Hfin : Hid (Below w.heap.size w wr) := HB8.out.trans (Hbw.out.mono HB8.out.size)
      go_wp2_with fail
      exact HT.out _ Hfin.out

end Go.Proofs.Qxb6605609a
