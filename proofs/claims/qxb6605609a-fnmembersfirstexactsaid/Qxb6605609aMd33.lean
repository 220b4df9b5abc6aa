/-
  zzMembersFirstModel: regions 33 to 53.
-/
import Derived.Test.Qxb6605609aMdS
namespace Go.Proofs.Qxb6605609a
open Go.RowKit

set_option maxRecDepth 1000000 in
set_option maxHeartbeats 8000000 in
theorem model33 {w : World} {ga ca : Option Addr} {gc cc n : Nat} {va : Nat → Option Addr} {vc : Nat → Nat} {adj : Nat → List Nat} {cf : Nat → Nat} {Post : Ending → World → Prop} (hM : MD w ga n va vc adj ca cf) (hE : EndsC w adj cf n Post) : D33 w ga ca gc cc n adj cf Post := by
  intro wk w4 ob wb hob rb pva pvc val wl hol hb4 hrows hbk hwb hhob hrb hlt0 hws hgr hng hnr hwt hrd y2 y3 y7 y10 y11 y12 y13 y14 y15 y16 y18 y19 y20 y21 y22 y23 y24 y25 y26 y27 y28 y29 y30 y31 y32 y33 y34 y35 y36 y37 y38 y39 y40 y41 y42 y43 y44 y45 y46 y47 y48 y49 y50 y51 y52 y53 y54 y55 y56 y57 y58 y59 y60 y61 y62 y63 y64 y65 y66 y67 y68 y69 y70 y71 y72 y73 y74 y75 y76 y77 y78 y79 y80 y81 y82 y83 y84 y85 y86 y87 y88 y89 y90 y91 y92 y93 y94 y95 y96 y97 y98 y99 y100 y101 y102 y103 y104 y105 y106 y107 y108 y109 y110 y111 y112 y113 y114 y115 y116 y117 y118 y119 y120 y121 y122 y123 y124 y125 y126 y127 y128 y129 y130 y131 y132 y133 y134 y135 y136 y137 y138 y139 y140 y141 y142 y143 y144 y145 y146 y147 y148 y149 y150 y151 y152 y153 y154 y155 y156 y157 y158 y159 y160 y161 y162 y163 y164 y165 y166 y167 y168 y169 y170 y171 y172 y173 y174 y175 y176 y177 y178 y179 y180 y181 y182 y183 y184 y185 y186 y187 y188 y189 y190 y191 y192 y193 y194 y195 y196 y197 y198 y199 K hK
  have HE : Hid (EndsC w adj cf n Post) := hE
  have HB4 : Hid (Below w.heap.size w w4) := hb4
  have HR : Hid (IRows w4 (some ⟨ob, 0, none⟩) n pva pvc (partC cf n)) := hrows
  have HWT : Hid (WaitC adj cf n wl hol) := hwt
  have hn := hM.nle
  have Hid0 : Hid (∀ i, i < n → cf (cf i) = cf i) := hM.idem
  have hmo := makeOrder n hn
  have HS0 : Hid (NS cf w4 wk (wk.alloc (.cells (madeInts n) 3)) wb hob rb n val hol ((List.range n).filter fun p => decide (cf p = p ∧ wl p = [])) (fun p => ((wlC cf n wl p).length : Int)) (.slice (some ⟨wk.heap.size, 0, none⟩) 0 n) []) :=
    NS.start hn hwb hrb hlt0 hws hgr hng hnr hrd hbk (fun p hp hne => List.eq_nil_iff_forall_not_mem.2 fun q hq => by
      obtain ⟨_, i, hi, e, _⟩ := (hwt.mem p q hp).1 hq
      exact hne (by rw [← e]; exact hM.idem i hi))
  obtain ⟨i3, hp0, hq0, hq1, hq2⟩ := info_parts info3
  clear hM hE hb4 hrows hbk hwb hhob hrb hlt0 hws hgr hng hnr hwt hrd
  have hr := rfl (a := rest21 33)
  conv at hr => lhs; whnf
  rw [← hr] at hK
  clear hr
  conv => arg 2; whnf
  go_wp2_with fail
  clear hmo
  go_loopw [19, 20, 21, 22, 24] (fun v19 v20 _ _ _ wx => ∃ (s : Nat) (D H : List Nat) (ws : Nat → Int), s ≤ n ∧ v20 = .int .i64 s ∧ Hid (NS cf w4 wk wx wb hob rb n val hol H ws v19 (D.flatMap (partC cf n))) ∧ Hid (Kahn n (wlC cf n wl) D H [] ws) ∧ Hid (Lst (fun a b => a ≤ b) n (wlC cf n wl) D) ∧ D.length = s) (fun _ v20 _ _ _ _ => n - (intOf v20).toNat)
  case atStart => exact ⟨0, [], _, _, Nat.zero_le _, rfl, HS0, Kahn.startC, Lst.nil _ _ _, rfl⟩
  case round =>
    obtain ⟨s, D, H, ws, hs, rfl, HS, HK, HL, hDl⟩ := hrel
    clear HS0
    have Hend : Hid (H = [] → Post (.returned u19) wr) := fun e => by
      have hk := HK.out
      rw [e] at hk
      have hfl := flatC_len cf hn D
      obtain ⟨a, c, ev, ht⟩ := HS.out.told (by omega)
      rw [ev]
      exact HE.out wr a c wl hol D ws (HB4.out.trans (HS.out.bel.mono HB4.out.size)) HWT.out hk HL.out ht
    by_cases hlt : s < n
    · go_wp2_with fail
      go_loopw [21, 22] (fun v21 v22 wx => ∃ k : Nat, k ≤ n ∧ v21 = .int .i64 (-1) ∧ v22 = .int .i64 k ∧ Hid (∀ x, x < k → x ∉ H) ∧ Hid (NS cf w4 wk wx wb hob rb n val hol H ws u19 (D.flatMap (partC cf n))) ∧ Hid (H = [] → Post (.returned u19) wx)) (fun _ v22 _ => n - (intOf v22).toNat)
      case atStart => exact ⟨0, Nat.zero_le _, rfl, rfl, fun x hx => by omega, HS, Hend⟩
      case round =>
        clear HS Hend
        obtain ⟨k, hk, rfl, rfl, Hno, HS, Hend⟩ := hrel
        by_cases hlk : k < n
        · have hcr := HS.out.rd.cell hlk
          have hfr := HS.out.rd.frozen k
          have hxr := fun w => elem55 rb hlk w
          by_cases hin : k ∈ H
          · have hrep : cf k = k := by
              apply Classical.byContradiction
              intro hne
              have h1 := ((HK.out.ready k hlk).1 (Or.inr hin)).1 n (by unfold wlC; rw [if_neg hne]; simp)
              have h2 := HK.out.lt n (List.mem_append_left _ h1)
              omega
            have HK2 : Hid (Kahn n (wlC cf n wl) (D ++ [k]) (H.erase k) (hol k) ws) := HK.out.pop (List.perm_cons_erase hin) (wlC_nd HWT.out) (wlC_hol HWT.out Hid0.out hlk) (HWT.out.hnd k hlk)
            have HL2 : Hid (Lst (fun a b => a ≤ b) n (wlC cf n wl) (D ++ [k])) := HL.out.snoc HK.out (fun y hy => Nat.le_of_not_lt fun h => Hno.out y h hy)
            have hHn : H.Nodup := by
              have h1 := HK.out.nd
              rw [List.nodup_append] at h1
              exact h1.2.1
            have HS1 : Hid (NS cf w4 wk (wr.setCell ⟨rb, k, none⟩ (.bool false)) wb hob rb n val hol (H.erase k) ws u19 (D.flatMap (partC cf n))) := HS.out.setR k false _ (fun x _ => by
              rw [hHn.mem_erase_iff]
              by_cases e : x = k <;> simp [e])
            obtain ⟨wS, hwS⟩ : ∃ wS, wS = wr.setCell ⟨rb, k, none⟩ (.bool false) := ⟨_, rfl⟩
            have HS2 : Hid (NS cf w4 wk wS wb hob rb n val hol (H.erase k) ws u19 (D.flatMap (partC cf n))) := by rw [hwS]; exact HS1
            rw [decide_eq_true hin] at hcr
            have hrw := HR.out.below HS2.out.bel
            obtain ⟨b1, o1, _, hix1, hc1⟩ := hrw.outer.elem40 hlk n
            obtain ⟨PX, hPX⟩ : ∃ PX, PX = partC cf n k := ⟨_, rfl⟩
            have HPX : Hid (PX = partC cf n k) := hPX
            have hpxl : PX.length ≤ 4096 := by rw [hPX]; have := partC_len cf (Nat.le_refl n) k; omega
            have hpx0 : 0 < PX.length := List.length_pos_of_mem (a := k) (by rw [hPX]; exact partC_mem.2 ⟨hlk, hrep⟩)
            have hinn := hrw.inner k hlk
            rw [← hPX] at hc1 hinn
            obtain ⟨b5, o5, epv, hb5, hcells⟩ := hinn.spot hpx0
            rw [epv] at hc1
            have Hnews : Hid (∀ j u, (ints PX)[j]? = some u → wS.cell? ((⟨b5, o5, none⟩ : Addr).add j) = some u) := fun j u hu => by
              have hadd : (⟨b5, o5, none⟩ : Addr).add j = ⟨b5, o5 + j, none⟩ := by unfold Addr.add; split <;> simp_all
              have hj : j < PX.length := by
                have := (List.getElem?_eq_some_iff.1 hu).1
                rw [ints_length] at this
                exact this
              rw [hadd, hcells j hj, ← hu]
              simp [ints, List.getElem?_eq_getElem hj]
            obtain ⟨out, hout⟩ : ∃ out, out = D.flatMap (partC cf n) := ⟨_, rfl⟩
            have Hout : Hid (out = D.flatMap (partC cf n)) := hout
            have hol2 : out.length ≤ 20000000 := by
              have h1 := flatC_len cf hn D
              rw [hout]
              omega
            have HS3 : Hid (NS cf w4 wk wS wb hob rb n val hol (H.erase k) ws u19 out) := by rw [hout]; exact HS2
            have hhx : (hol k).length ≤ 4096 := by
              have := nodup_le (HWT.out.hnd k hlk) (fun q hq => ((HWT.out.hmem k q hlk).1 hq).1)
              omega
            obtain ⟨ah, chh, evh, _⟩ := ints_slAt (by omega) (HS2.out.gr.own k hlk)
            have Hev : Hid (val k = .slice ah (hol k).length chh) := evh
            have hxh := fun w => elem40 (b := hob) (c := n) hlk w
            obtain ⟨HX, hHX⟩ : ∃ HX, HX = hol k := ⟨_, rfl⟩
            have HHX : Hid (HX = hol k) := hHX
            rw [← hHX] at hhx evh
            have HKd : Hid (D.length = s) := hDl
            clear hHn HS HS1 HS2 HK HL Hno Hend hPX hrw hinn hcells epv hb5 hout hin hHX hDl hrep
            go_upto_region 45 with fail
            rw [← hwS]
            clear hwS hcr hfr
            go_wp2_with (at_builtin; refine wpList_append_lies _ (by rfl) _ _ _ (by rfl) 0 3 i3 _ 1 8 Try.underlying43 hp0 hq0 hq1 hq2 rfl (by omega) u19 out.length (ints out) (by rfl) HS3.out.tl ⟨b5, o5, none⟩ PX.length (pvc k) (ints PX) (by rfl) (by rw [ints_length]; omega) Hnews.out (by intro u hu; obtain ⟨z, _, rfl⟩ := List.mem_map.1 hu; rfl) hpx0 (by unfold maxLen; omega) (by omega) (by omega) wS.heap.size rfl ?_; intro g1 cap1 x1 hown1 hgrow1 hat1 hltg1; have HS4 : Hid (NS cf w4 wk x1 wb hob rb n val hol (H.erase k) ws (.slice (some ⟨g1, 0, none⟩) (out.length + PX.length) cap1) (out ++ PX)) := HS3.out.tell hown1 hgrow1 hat1 rfl; have hch := HS4.out.gr.row.cell hlk; rw [evh] at hch; clear hown1 hgrow1 hat1 hltg1)
            have HS5 : Hid (NS cf w4 wk x1 wb hob rb n val hol (H.erase k) ws (.slice (some ⟨g1, 0, none⟩) (out.length + PX.length) cap1) ((D ++ [k]).flatMap (partC cf n))) := by
              have h0 := HS4.out
              rw [Hout.out, HPX.out] at h0
              rw [Hout.out, HPX.out]
              show NS _ _ _ _ _ _ _ _ _ _ _ _ _ _
              rw [List.flatMap_append, List.flatMap_cons, List.flatMap_nil, List.append_nil]
              exact h0
            clear hch HS4 HS3 Hnews hc1 hix1
            go_loopw [24, 180] (fun _ v wx => ∃ (t : Nat) (H6 : List Nat) (ws6 : Nat → Int), t ≤ HX.length ∧ v = .int .i64 t ∧ Hid (NS cf w4 wk wx wb hob rb n val hol H6 ws6 (.slice (some ⟨g1, 0, none⟩) (out.length + PX.length) cap1) ((D ++ [k]).flatMap (partC cf n))) ∧ Hid (Kahn n (wlC cf n wl) (D ++ [k]) H6 (HX.drop t) ws6)) (fun _ v _ => HX.length - (intOf v).toNat)
            case atStart => exact ⟨0, _, ws, Nat.zero_le _, rfl, HS5, (by show Kahn _ _ _ _ _ _; rw [List.drop_zero, HHX.out]; exact HK2.out)⟩
            case round =>
              obtain ⟨t, H6, ws6, ht, rfl, HS6, HK6⟩ := hrel
              clear HS5 HK2
              by_cases hlt4 : t < HX.length
              · have hsl := HS6.out.gr.slAt hlk Hev.out (by rw [← HHX.out]; exact hhx)
                rw [← HHX.out] at hsl
                obtain ⟨b3, o3, _, hix3, hc3⟩ := hsl.elem43 hlt4 chh
                obtain ⟨q, hq⟩ : ∃ q, q = HX.getD t 0 := ⟨_, rfl⟩
                rw [← hq] at hc3
                have hqm : q ∈ hol k := by rw [← HHX.out, hq, List.getD_eq_getElem?_getD, List.getElem?_eq_getElem hlt4]; exact List.getElem_mem hlt4
                have hdrop : HX.drop t = q :: HX.drop (t + 1) := by
                  rw [List.drop_eq_getElem_cons hlt4, hq, List.getD_eq_getElem?_getD, List.getElem?_eq_getElem hlt4]
                  rfl
                have HK7 : Hid (Kahn n (wlC cf n wl) (D ++ [k]) H6 (q :: HX.drop (t + 1)) ws6) := by
                  show Kahn n (wlC cf n wl) (D ++ [k]) H6 (q :: HX.drop (t + 1)) ws6
                  rw [← hdrop]
                  exact HK6.out
                have hqp : q < n := HK7.out.tlt q (List.mem_cons_self ..)
                have hqr : cf q = q := by
                  obtain ⟨_, i, hi, e, _⟩ := (HWT.out.mem q k hqp).1 ((HWT.out.hmem k q hlk).1 hqm).2
                  rw [← e]
                  exact Hid0.out i hi
                have hwq := HK7.out.cnt q hqp
                rw [if_pos (List.mem_cons_self ..)] at hwq
                have hml := missing_le (D ++ [k]) (wlC cf n wl q)
                have hwln := wlC_len HWT.out hqp
                obtain ⟨z, hz⟩ : ∃ z, z = ws6 q := ⟨_, rfl⟩
                have hz1 : 1 ≤ z := by omega
                have hz2 : z ≤ 4098 := by omega
                have hcw := HS6.out.ws.cell hqp
                rw [if_pos hqr] at hcw
                have hfw := HS6.out.ws.frozen q
                have hxw := fun w => elem43 (b := wb) (c := n) hqp w
                rw [← hz] at hcw
                have HS7 : Hid (NS cf w4 wk (wr.setCell ⟨wb, q, none⟩ (.int .i64 (z - 1))) wb hob rb n val hol H6 (fun y => if y = q then z - 1 else ws6 y) (.slice (some ⟨g1, 0, none⟩) (out.length + PX.length) cap1) ((D ++ [k]).flatMap (partC cf n))) := HS6.out.setW q (z - 1) hqr
                have Hho := HK7.out.hold
                rw [← hz] at Hho
                have HHo : Hid ((z - 1 = 0 → Kahn n (wlC cf n wl) (D ++ [k]) (H6 ++ [q]) (HX.drop (t + 1)) (fun y => if y = q then z - 1 else ws6 y)) ∧ (z - 1 ≠ 0 → Kahn n (wlC cf n wl) (D ++ [k]) H6 (HX.drop (t + 1)) (fun y => if y = q then z - 1 else ws6 y))) := Hho
                have hxr2 := fun w => elem55 rb hqp w
                clear hsl hq hdrop HK6 hwq hml hwln hz Hho HK7 hqm hqr
                by_cases hz0 : z = 1
                · have HK8 : Hid (Kahn n (wlC cf n wl) (D ++ [k]) (H6 ++ [q]) (HX.drop (t + 1)) (fun y => if y = q then z - 1 else ws6 y)) := HHo.out.1 (by omega)
                  subst hz0
                  have hcw2 : (wr.setCell ⟨wb, q, none⟩ (.int .i64 0)).cell? ⟨wb, q, none⟩ = some (.int .i64 0) := World.cell?_setCell_same _ _ _ hcw
                  have HS7' : Hid (NS cf w4 wk (wr.setCell ⟨wb, q, none⟩ (.int .i64 0)) wb hob rb n val hol H6 (fun y => if y = q then 1 - 1 else ws6 y) (.slice (some ⟨g1, 0, none⟩) (out.length + PX.length) cap1) ((D ++ [k]).flatMap (partC cf n))) := HS7
                  have hcr2 := HS7'.out.rd.cell hqp
                  have hfr2 := HS7'.out.rd.frozen q
                  have HS8 : Hid (NS cf w4 wk ((wr.setCell ⟨wb, q, none⟩ (.int .i64 0)).setCell ⟨rb, q, none⟩ (.bool true)) wb hob rb n val hol (H6 ++ [q]) (fun y => if y = q then 1 - 1 else ws6 y) (.slice (some ⟨g1, 0, none⟩) (out.length + PX.length) cap1) ((D ++ [k]).flatMap (partC cf n))) := HS7'.out.setR q true _ (fun x _ => by
                    rw [List.mem_append, List.mem_singleton]
                    by_cases e : x = q <;> simp [e])
                  clear HS7 HHo HS7'
                  go_wp2_with fail
                  go_roundw
                  case rel => exact ⟨t + 1, _, _, by omega, by go_num, HS8, HK8⟩
                  case measure => simp [intOf]; omega
                · have HK8 : Hid (Kahn n (wlC cf n wl) (D ++ [k]) H6 (HX.drop (t + 1)) (fun y => if y = q then z - 1 else ws6 y)) := HHo.out.2 (by omega)
                  have hd0 : ((z - 1) == 0) = false := by simp; omega
                  clear HHo
                  go_wp2_with fail
                  go_roundw
                  case rel => exact ⟨t + 1, _, _, by omega, by go_num, HS7, HK8⟩
                  case measure => simp [intOf]; omega
              · obtain rfl : t = HX.length := by omega
                have HK8 : Hid (Kahn n (wlC cf n wl) (D ++ [k]) H6 [] ws6) := by
                  have h0 := HK6.out
                  rw [List.drop_length] at h0
                  exact h0
                clear HK6
                go_wp2_with fail
                go_roundw
                case rel => exact ⟨s + 1, D ++ [k], H6, ws6, by omega, by go_num, HS6, HK8, HL2, by simp [HKd.out]⟩
                case measure => simp [intOf]; omega
          · have Hno2 : Hid (∀ x, x < k + 1 → x ∉ H) := fun x hx => by
              by_cases e : x = k
              · rw [e]; exact hin
              · exact Hno.out x (by omega)
            have hdf : decide (k ∈ H) = false := by simp [hin]
            rw [hdf] at hcr
            clear hin hdf Hno
            go_wp2_with fail
            go_roundw
            case rel => exact ⟨k + 1, by omega, rfl, by go_num, Hno2, HS, Hend⟩
            case measure => simp [intOf]; omega
        · obtain rfl : k = n := by omega
          have hH : H = [] := List.eq_nil_iff_forall_not_mem.2 fun x hx => Hno.out x (HK.out.lt x (List.mem_append_right _ hx)) hx
          have Hfin : Hid (Post (.returned u19) wr) := Hend.out hH
          go_wp2_with fail
          exact Hfin.out
    · have hH : H = [] := by
        have h1 := HK.out.nd
        have h2 := nodup_le h1 (fun x hx => HK.out.lt x hx)
        rw [List.length_append] at h2
        exact List.length_eq_zero_iff.1 (by omega)
      have Hfin : Hid (Post (.returned u19) wr) := Hend.out hH
      go_wp2_with fail
      exact Hfin.out

end Go.Proofs.Qxb6605609a
