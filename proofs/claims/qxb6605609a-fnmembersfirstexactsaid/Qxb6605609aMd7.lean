/-
  zzMembersFirstModel: regions 7 to 26.
-/
import Derived.Test.Qxb6605609aMd
namespace Go.Proofs.Qxb6605609a
open Go.RowKit

/-- All parts that the places l name. -/
def namedC (adj : Nat → List Nat) (cf : Nat → Nat) (l : List Nat) : List Nat := l.flatMap fun i => (adj i).map cf
theorem namedC_snoc (adj : Nat → List Nat) (cf : Nat → Nat) (l : List Nat) (i : Nat) : namedC adj cf (l ++ [i]) = namedC adj cf l ++ (adj i).map cf := by simp [namedC]
def allC (adj : Nat → List Nat) (cf : Nat → Nat) (n p : Nat) : List Nat := namedC adj cf (partC cf n p)

section
variable {all : Nat → List Nat} {m p : Nat} {pre : List Nat} {wl hol : Nat → List Nat} {cnt : Nat → Nat}
/-- No part. -/
theorem WB.pass (h : WB all m p wl hol cnt) (hno : all p = []) : WB all m (p + 1) wl hol cnt :=
  ⟨fun p' hp q => by
    by_cases e : p' = p
    · subst e
      rw [h.later p' (Nat.le_refl _), hno]
      simp
    · exact h.done p' (by omega) q, fun p' hp => h.later p' (by omega), h.nd, h.lt, h.hmem, h.hnd, fun x => by have := h.c x; omega⟩
theorem WI.leaveC (h : WI all m p pre wl hol (upd cnt p (p + 1))) (hpre : pre = all p) (hc : cnt p ≤ p) : WB all m (p + 1) wl hol cnt := by
  have h1 := h.leave hpre
  refine ⟨h1.done, h1.later, h1.nd, h1.lt, h1.hmem, h1.hnd, fun x => ?_⟩
  by_cases e : x = p
  · subst e; omega
  · have := h1.c x
    rw [upd_other _ _ e] at this
    exact this
theorem upd_comm {α : Type} (f : Nat → α) {i j : Nat} (u v : α) (h : i ≠ j) : upd (upd f i u) j v = upd (upd f j v) i u := by
  funext x
  unfold upd
  by_cases e1 : x = i <;> by_cases e2 : x = j
  · omega
  · simp [e1, h]
  · simp [e2]
    exact fun e => absurd e.symm h
  · simp [e1, e2]
theorem WI.addC {q : Nat} (h : WI all m p pre wl hol (upd cnt p (p + 1))) (hq : cnt q ≠ p + 1) (hne : q ≠ p) (hqm : q < m) : WI all m p (pre ++ [q]) (upd wl p (wl p ++ [q])) (upd hol q (hol q ++ [p])) (upd (upd cnt q (p + 1)) p (p + 1)) := by
  have := h.add (q := q) (by rw [upd_other _ _ hne]; exact hq) hqm
  rw [upd_comm _ _ _ (fun e => hne e.symm)] at this
  exact this
end

/-- At the end: the waiting. -/
theorem WB.waitC {adj : Nat → List Nat} {cf : Nat → Nat} {n : Nat} {wl hol : Nat → List Nat} {cnt : Nat → Nat} (h : WB (allC adj cf n) n n wl hol cnt) : WaitC adj cf n wl hol := by
  refine ⟨fun p q hp => ?_, fun p _ => h.nd p, h.lt, fun q p _ => ?_, fun q _ => h.hnd q⟩
  · rw [h.done p hp q]
    simp only [allC, namedC, List.mem_flatMap, List.mem_map, partC_mem]
    constructor
    · rintro ⟨a, i, ⟨h1, h2⟩, j, h3, h4⟩
      exact ⟨a, i, h1, h2, j, h3, h4⟩
    · rintro ⟨a, i, h1, h2, j, h3, h4⟩
      exact ⟨a, i, ⟨h1, h2⟩, j, h3, h4⟩
  · rw [h.hmem q p]
    constructor
    · intro hq
      refine ⟨?_, hq⟩
      apply Classical.byContradiction
      intro hno
      rw [h.later p (by omega)] at hq
      cases hq
    · exact fun hh => hh.2

set_option maxRecDepth 1000000 in
set_option maxHeartbeats 4000000 in
theorem model7 {w : World} {ga ca : Option Addr} {gc cc n : Nat} {va : Nat → Option Addr} {vc : Nat → Nat} {adj : Nat → List Nat} {cf : Nat → Nat} {Post : Ending → World → Prop} (hM : MD w ga n va vc adj ca cf) (hnext : D27 w ga ca gc cc n adj cf Post) : D7 w ga ca gc cc n cf Post := by
  intro wk ob pva pvc hbel hrows y2 y3 y7 y8 y9 y10 y11 y12 y13 y14 y15 y16 y17 y18 y19 y20 y21 y22 y23 y24 y25 y26 y27 y28 y29 y30 y31 y32 y33 y34 y35 y36 y37 y38 y39 y40 y41 y42 y43 y44 y45 y46 y47 y48 y49 y50 y51 y52 y53 y54 y55 y56 y57 y58 y59 y60 y61 y62 y63 y64 y65 y66 y67 y68 y69 y70 y71 y72 y73 y74 y75 y76 y77 y78 y79 y80 y81 y82 y83 y84 y85 y86 y87 y88 y89 y90 y91 y92 y93 y94 y95 y96 y97 y98 y99 y100 y101 y102 y103 y104 y105 y106 y107 y108 y109 y110 y111 y112 y113 y114 y115 y116 y117 y118 y119 y120 y121 y122 y123 y124 y125 y126 y127 y128 y129 y130 y131 y132 y133 y134 y135 y136 y137 y138 y139 y140 y141 y142 y143 y144 y145 y146 y147 y148 y149 y150 y151 y152 y153 y154 y155 y156 y157 y158 y159 y160 y161 y162 y163 y164 y165 y166 y167 y168 y169 y170 y171 y172 y173 y174 y175 y176 y177 y178 y179 y180 y181 y182 y183 y184 y185 y186 y187 y188 y189 y190 y191 y192 y193 y194 y195 y196 y197 y198 y199 K hK
  have HM : Hid (MD w ga n va vc adj ca cf) := hM
  have HN : Hid (D27 w ga ca gc cc n adj cf Post) := hnext
  have HB : Hid (Below w.heap.size w wk) := hbel
  have HR : Hid (IRows wk (some ⟨ob, 0, none⟩) n pva pvc (partC cf n)) := hrows
  have hn := hM.nle
  have hmi := makeInts n (by omega)
  have hmr := makeRows n (by omega)
  obtain ⟨i3, hp0, hq0, hq1, hq2⟩ := info_parts info3
  clear hM hnext hbel hrows
  have hr := rfl (a := rest21 7)
  conv at hr => lhs; whnf
  rw [← hr] at hK
  clear hr
  conv => arg 2; whnf
  go_wp2_with fail
  clear hmi hmr
  have H0' : Hid (WM wk wk.heap.size (wk.heap.size + 1) (wk.heap.size + 1 + 1) (((wk.alloc (.cells (madeInts n) 3)).alloc (.cells (madeRows n) 43)).alloc (.cells (madeInts n) 3)) n (fun _ => []) (fun _ => []) (fun _ => 0) (fun _ => .slice none 0 0)) := WM.start wk n
  obtain ⟨kb, hkb⟩ : ∃ kb, kb = wk.heap.size + 1 + 1 := ⟨_, rfl⟩
  rw [← hkb] at H0' ⊢
  obtain ⟨hob, hhob⟩ : ∃ hob, hob = wk.heap.size + 1 := ⟨_, rfl⟩
  rw [← hhob] at H0' ⊢
  obtain ⟨wb, hwb⟩ : ∃ wb, wb = wk.heap.size := ⟨_, rfl⟩
  have H0 : Hid (WM wk wb hob kb (((wk.alloc (.cells (madeInts n) 3)).alloc (.cells (madeRows n) 43)).alloc (.cells (madeInts n) 3)) n (fun _ => []) (fun _ => []) (fun _ => 0) (fun _ => .slice none 0 0)) := by rw [hwb]; exact H0'
  clear H0'
  have hcw : (Value.slice (some ⟨wk.heap.size, 0, none⟩) n n) = .slice (some ⟨wb, 0, none⟩) n n := by rw [hwb]
  rw [hcw]
  clear hkb hhob hwb hcw
  go_loopw [11, 13, 15, 16] (fun v _ _ _ wx => ∃ (p : Nat) (wl hol : Nat → List Nat) (cnt : Nat → Nat) (val : Nat → Value), p ≤ n ∧ v = .int .i64 p ∧ Hid (WM wk wb hob kb wx n wl hol cnt val) ∧ Hid (WB (allC adj cf n) n p wl hol cnt)) (fun v _ _ _ _ => n - (intOf v).toNat)
  case atStart => exact ⟨0, _, _, _, _, Nat.zero_le _, rfl, H0, WB.start _ _⟩
  case round =>
    obtain ⟨p, wl, hol, cnt, val, hpm, rfl, HW, HWB⟩ := hrel
    clear H0
    by_cases hlt : p < n
    · have hbw : Below w.heap.size w wr := HB.out.trans (HW.out.bel.mono HB.out.size)
      obtain ⟨b0, o0, _, hix0, hc0⟩ := (HM.out.comp.below hbw).elem43 hlt cc
      obtain ⟨cp, hcp⟩ : ∃ cp, cp = cf p := ⟨_, rfl⟩
      rw [← hcp] at hc0
      by_cases hrep : cp = p
      · have hrw := HR.out.below HW.out.bel
        obtain ⟨b1, o1, _, hix1, hc1⟩ := hrw.outer.elem40 hlt n
        obtain ⟨PL, hPL⟩ : ∃ PL, PL = partC cf n p := ⟨_, rfl⟩
        have HPL : Hid (PL = partC cf n p) := hPL
        rw [← hPL] at hc1
        have hpl : PL.length ≤ 4096 := by rw [hPL]; have := partC_len cf (Nat.le_refl n) p; omega
        have HI1 : Hid (WI (allC adj cf n) n p [] wl hol (upd cnt p (p + 1))) := HWB.out.enter
        have Hcp1 : Hid (cnt p ≤ p) := HWB.out.c p
        have hlt0 := hlt
        subst hrep
        clear hPL hrw HWB hbw hcp
        go_wp2_with fail
        clear hc1 hix1 hc0 hix0
        go_loopw [13, 15, 16, 72] (fun _ _ _ v wx => ∃ (a : Nat) (wl hol : Nat → List Nat) (cnt : Nat → Nat) (val : Nat → Value), a ≤ PL.length ∧ v = .int .i64 a ∧ Hid (WM wk wb hob kb wx n wl hol cnt val) ∧ Hid (WI (allC adj cf n) n cp (namedC adj cf (PL.take a)) wl hol (upd cnt cp (cp + 1))) ∧ Hid (cnt cp ≤ cp)) (fun _ _ _ v _ => PL.length - (intOf v).toNat)
        case atStart => exact ⟨0, _, _, _, _, Nat.zero_le _, rfl, HW, (by show WI _ _ _ _ _ _ _; simpa [namedC] using HI1.out), Hcp1⟩
        case round =>
          obtain ⟨a, wl, hol, cnt, val, ha, rfl, HW, HI, Hcp⟩ := hrel
          clear HI1 Hcp1
          have hrw := (HR.out.below HW.out.bel).inner cp hlt0
          rw [← HPL.out] at hrw
          by_cases hla : a < PL.length
          · obtain ⟨b2, o2, _, hix2, hc2⟩ := hrw.elem43 hla (pvc cp)
            obtain ⟨i, hi⟩ : ∃ i, i = PL.getD a 0 := ⟨_, rfl⟩
            have him : i ∈ PL := by rw [hi, List.getD_eq_getElem?_getD, List.getElem?_eq_getElem hla]; exact List.getElem_mem hla
            have hin : i < n := by
              rw [HPL.out] at him
              exact (partC_mem.1 him).1
            have Htk : Hid (PL.take (a + 1) = PL.take a ++ [i]) := by
              show PL.take (a + 1) = PL.take a ++ [i]
              rw [List.take_add_one, List.getElem?_eq_getElem hla, hi, List.getD_eq_getElem?_getD, List.getElem?_eq_getElem hla]
              rfl
            rw [← hi] at hc2
            have hbw : Below w.heap.size w wr := HB.out.trans (HW.out.bel.mono HB.out.size)
            obtain ⟨b3, o3, _, hix3, hc3⟩ := (HM.out.rows.below hbw).outer.elem40 hin gc
            have hal := (HM.out.rows.inner i hin).small
            obtain ⟨AL, hAL⟩ : ∃ AL, AL = adj i := ⟨_, rfl⟩
            have HAL : Hid (AL = adj i) := hAL
            rw [← hAL] at hc3 hal
            clear hi him hrw hbw hAL
            go_wp2_with fail
            clear hc2 hix2 hc3 hix3
            go_loopw [15, 16, 81] (fun _ _ v wx => ∃ (t : Nat) (wl hol : Nat → List Nat) (cnt : Nat → Nat) (val : Nat → Value), t ≤ AL.length ∧ v = .int .i64 t ∧ Hid (WM wk wb hob kb wx n wl hol cnt val) ∧ Hid (WI (allC adj cf n) n cp (namedC adj cf (PL.take a) ++ (AL.take t).map cf) wl hol (upd cnt cp (cp + 1))) ∧ Hid (cnt cp ≤ cp)) (fun _ _ v _ => AL.length - (intOf v).toNat)
            case atStart => exact ⟨0, wl, hol, cnt, val, Nat.zero_le _, rfl, HW, (by show WI _ _ _ _ _ _ _; simpa using HI.out), Hcp⟩
            case round =>
              obtain ⟨t, wl, hol, cnt, val, ht, rfl, HW, HI, Hcp⟩ := hrel
              by_cases hlt3 : t < AL.length
              · have hbw : Below w.heap.size w wr := HB.out.trans (HW.out.bel.mono HB.out.size)
                have hsl := (HM.out.rows.below hbw).inner i hin
                rw [← HAL.out] at hsl
                obtain ⟨b4, o4, _, hix4, hc4⟩ := hsl.elem43 hlt3 (vc i)
                obtain ⟨j, hj⟩ : ∃ j, j = AL.getD t 0 := ⟨_, rfl⟩
                have hjm : j ∈ adj i := by rw [← HAL.out, hj, List.getD_eq_getElem?_getD, List.getElem?_eq_getElem hlt3]; exact List.getElem_mem hlt3
                have hjn : j < n := HM.out.adjlt i hin j hjm
                rw [← hj] at hc4
                have Htk3 : Hid ((AL.take (t + 1)).map cf = (AL.take t).map cf ++ [cf j]) := by
                  show (AL.take (t + 1)).map cf = (AL.take t).map cf ++ [cf j]
                  have e0 : AL.take (t + 1) = AL.take t ++ [j] := by
                    rw [List.take_add_one, List.getElem?_eq_getElem hlt3, hj, List.getD_eq_getElem?_getD, List.getElem?_eq_getElem hlt3]
                    rfl
                  rw [e0, List.map_append]
                  rfl
                obtain ⟨b5, o5, _, hix5, hc5⟩ := (HM.out.comp.below hbw).elem43 hjn cc
                obtain ⟨q, hq⟩ : ∃ q, q = cf j := ⟨_, rfl⟩
                have hqn : q < n := by rw [hq]; exact HM.out.lt j hjn
                rw [← hq] at hc5 Htk3
                have hcq := HW.out.cn.cell hqn
                have hfq := HW.out.cn.frozen q
                have hxq := fun w => elem43 (b := kb) (c := n) hqn w
                clear hj hjm hsl hq hbw
                by_cases hqp : q = cp
                · have HI2 : Hid (WI (allC adj cf n) n cp (namedC adj cf (PL.take a) ++ (AL.take (t + 1)).map cf) wl hol (upd cnt cp (cp + 1))) := by
                    show WI (allC adj cf n) n cp (namedC adj cf (PL.take a) ++ (AL.take (t + 1)).map cf) wl hol (upd cnt cp (cp + 1))
                    rw [Htk3.out, ← List.append_assoc]
                    exact HI.out.skip (by rw [hqp, upd_same])
                  rw [hqp] at hc5
                  clear HI hqp hcq hfq hxq hqn
                  go_wp2_with fail
                  go_roundw
                  case rel => exact ⟨t + 1, wl, hol, cnt, val, by omega, by go_num, HW, HI2, Hcp⟩
                  case measure => simp [intOf]; omega
                · have hd3 : ((q : Int) != (cp : Int)) = true := by simp; omega
                  have hd4 : ((q : Int) == (cp : Int)) = false := by simp; omega
                  have Hqp : Hid (q ≠ cp) := hqp
                  obtain ⟨cq, hcqe⟩ : ∃ cq, cq = cnt q := ⟨_, rfl⟩
                  rw [← hcqe] at hcq
                  by_cases he : cq = cp + 1
                  · have HI2 : Hid (WI (allC adj cf n) n cp (namedC adj cf (PL.take a) ++ (AL.take (t + 1)).map cf) wl hol (upd cnt cp (cp + 1))) := by
                      show WI (allC adj cf n) n cp (namedC adj cf (PL.take a) ++ (AL.take (t + 1)).map cf) wl hol (upd cnt cp (cp + 1))
                      rw [Htk3.out, ← List.append_assoc]
                      exact HI.out.skip (by rw [upd_other _ _ Hqp.out, ← hcqe]; exact he)
                    rw [he] at hcq
                    clear hcqe HI he hqp
                    go_wp2_with fail
                    go_roundw
                    case rel => exact ⟨t + 1, wl, hol, cnt, val, by omega, by go_num, HW, HI2, Hcp⟩
                    case measure => simp [intOf]; omega
                  · have hd : ((cq : Int) == (cp : Int) + 1) = false := by simp; omega
                    have hd2 : ((cq : Int) != (cp : Int) + 1) = true := by simp; omega
                    have Hne : Hid (cnt q ≠ cp + 1) := by (show cnt q ≠ cp + 1; omega)
                    have HI2 : Hid (WI (allC adj cf n) n cp (namedC adj cf (PL.take a) ++ (AL.take (t + 1)).map cf) (upd wl cp (wl cp ++ [q])) (upd hol q (hol q ++ [cp])) (upd (upd cnt q (cp + 1)) cp (cp + 1))) := by
                      show WI (allC adj cf n) n cp (namedC adj cf (PL.take a) ++ (AL.take (t + 1)).map cf) _ _ _
                      rw [Htk3.out, ← List.append_assoc]
                      exact HI.out.addC Hne.out Hqp.out hqn
                    have Hcp2 : Hid (upd cnt q (cp + 1) cp ≤ cp) := by
                      show upd cnt q (cp + 1) cp ≤ cp
                      rw [upd_other _ _ (fun e => Hqp.out e.symm)]
                      exact Hcp.out
                    have hwl := HI.out.wlen cp
                    have hhl := HI.out.hlen q
                    have HWa : Hid (WM wk wb hob kb (wr.setCell ⟨kb, q, none⟩ (.int .i64 ((cp : Int) + 1))) n wl hol (upd cnt q (cp + 1)) val) := HW.out.setC q (cp + 1) (by omega)
                    have hcw := HWa.out.ws.cell hlt0
                    have hfw := HWa.out.ws.frozen cp
                    have hxw := fun w => elem43 (b := wb) (c := n) hlt0 w
                    have HWb : Hid (WM wk wb hob kb ((wr.setCell ⟨kb, q, none⟩ (.int .i64 ((cp : Int) + 1))).setCell ⟨wb, cp, none⟩ (.int .i64 (((wl cp).length : Int) + 1))) n (upd wl cp (wl cp ++ [q])) hol (upd cnt q (cp + 1)) val) := HWa.out.setW cp q rfl
                    have hch := HWb.out.gr.row.cell hqn
                    have hxh := fun w => elem40 (b := hob) (c := n) hqn w
                    obtain ⟨lw, hlw⟩ : ∃ lw, lw = (wl cp).length := ⟨_, rfl⟩
                    have Hlw : Hid (lw = (wl cp).length) := hlw
                    rw [← hlw] at hcw hwl HWb hch
                    obtain ⟨w9, hw9⟩ : ∃ w9, w9 = ((wr.setCell ⟨kb, q, none⟩ (.int .i64 ((cp : Int) + 1))).setCell ⟨wb, cp, none⟩ (.int .i64 ((lw : Int) + 1))) := ⟨_, rfl⟩
                    have HWc : Hid (WM wk wb hob kb w9 n (upd wl cp (wl cp ++ [q])) hol (upd cnt q (cp + 1)) val) := by rw [hw9]; exact HWb
                    have hch9 : w9.cell? ⟨hob, q, none⟩ = some (val q) := by rw [hw9]; exact hch
                    have hsz9 : wk.heap.size ≤ w9.heap.size := HWc.out.bel.size
                    clear hcqe HI he hlw hch hqp
                    go_upto_region 24 with fail
                    rw [← hw9]
                    clear hw9 HWb HWa hcq hfq hcw hfw
                    go_wp2_with (at_builtin; refine wpList_append_lies _ (by rfl) _ _ _ (by rfl) wk.heap.size 3 i3 _ 1 8 Try.underlying43 hp0 hq0 hq1 hq2 rfl (by omega) (val q) (hol q).length (ints (hol q)) (by rfl) ((HWc.out.gr.own q hqn).alloc _) ⟨w9.heap.size, 0, none⟩ 1 1 [.int .i64 (cp : Int)] (by rfl) (by rfl) (World.news_of_block (cs := #[.int .i64 (cp : Int)]) (t := 3) (fr := (0, 0)) (heap_alloc_new _ _)) (by simp [Value.oneCell']) (by omega) (by unfold maxLen; omega) (by omega) (by simp; omega) (w9.heap.size + 1) (by simp) ?_; intro g1 cap1 x1 hown1 hgrow1 hat1 hltg1; obtain ⟨hc8, hf8, HWd⟩ := HWc.out.pushH hqn hown1 hgrow1 hat1 rfl; clear hown1 hgrow1 hat1 hltg1)
                    go_roundw
                    case rel => exact ⟨t + 1, _, _, _, _, by omega, by go_num, HWd, HI2, Hcp2⟩
                    case measure => simp [intOf]; omega
              · obtain rfl : t = AL.length := by omega
                have HI2 : Hid (WI (allC adj cf n) n cp (namedC adj cf (PL.take (a + 1))) wl hol (upd cnt cp (cp + 1))) := by
                  show WI (allC adj cf n) n cp (namedC adj cf (PL.take (a + 1))) wl hol (upd cnt cp (cp + 1))
                  rw [Htk.out, namedC_snoc, ← HAL.out]
                  have h0 := HI.out
                  rw [List.take_length] at h0
                  exact h0
                clear HI
                go_wp2_with fail
                go_roundw
                case rel => exact ⟨a + 1, wl, hol, cnt, val, by omega, by go_num, HW, HI2, Hcp⟩
                case measure => simp [intOf]; omega
          · obtain rfl : a = PL.length := by omega
            have HWB2 : Hid (WB (allC adj cf n) n (cp + 1) wl hol cnt) := by
              have h0 := HI.out
              rw [List.take_length] at h0
              exact h0.leaveC (by unfold allC; rw [← HPL.out]) Hcp.out
            clear HI
            go_wp2_with fail
            go_roundw
            case rel => exact ⟨cp + 1, wl, hol, cnt, val, by omega, by go_num, HW, HWB2⟩
            case measure => simp [intOf]; omega
      · have hd : ((cp : Int) != (p : Int)) = true := by simp; omega
        have hd2 : ((cp : Int) == (p : Int)) = false := by simp; omega
        have HWB2 : Hid (WB (allC adj cf n) n (p + 1) wl hol cnt) := HWB.out.pass (by
          unfold allC
          have : partC cf n p = [] := List.eq_nil_iff_forall_not_mem.2 fun i hi => by
            obtain ⟨h1, h2⟩ := partC_mem.1 hi
            have h3 := HM.out.idem i h1
            rw [h2] at h3
            omega
          rw [this]
          rfl)
        clear hbw hcp hrep HWB
        go_wp2_with fail
        go_roundw
        case rel => exact ⟨p + 1, wl, hol, cnt, val, by omega, by go_num, HW, HWB2⟩
        case measure => simp [intOf]; omega
    · obtain rfl : p = n := by omega
      have HWT : Hid (WaitC adj cf p wl hol) := HWB.out.waitC
      clear HWB
      go_upto_region 27 with fail
      exact HN.out wr wk ob wb hob pva pvc val wl hol HB.out HR.out HW.out.bel HW.out.bl.1 HW.out.bl.2.1 HW.out.ws HW.out.gr HW.out.a1 HWT.out _ _ _ _ _ _ _ _ _ _ _ _ _ _ _ _ _ _ _ _ _ _ _ _ _ _ _ _ _ _ _ _ _ _ _ _ _ _ _ _ _ _ _ _ _ _ _ _ _ _ _ _ _ _ _ _ _ _ _ _ _ _ _ _ _ _ _ _ _ _ _ _ _ _ _ _ _ _ _ _ _ _ _ _ _ _ _ _ _ _ _ _ _ _ _ _ _ _ _ _ _ _ _ _ _ _ _ _ _ _ _ _ _ _ _ _ _ _ _ _ _ _ _ _ _ _ _ _ _ _ _ _ _ _ _ _ _ _ _ _ _ _ _ _ _ _ _ _ _ _ _ _ _ _ _ _ _ _ _ _ _ _ _ _ _ _ _ _ _ _ _ _ _ _ _ _ _ _ _ _ _ _ _ _ _ _ _ _ _ _ _ _ _ _ (by assumption)

end Go.Proofs.Qxb6605609a
