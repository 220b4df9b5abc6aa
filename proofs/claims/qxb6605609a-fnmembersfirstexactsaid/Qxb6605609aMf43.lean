/-
  membersFirst: regions 43 to 63.
-/
import Derived.Test.Qxb6605609aMfWait
import Derived.Test.Qxb6605609aMf41
import Derived.Test.Qxb6605609aMf21
namespace Go.Proofs.Qxb6605609a
open Go.RowKit
variable {w : World} {cb n : Nat} {gb : Nat → Nat} {ss : Nat → ByteArray} {la : Nat → Option Addr} {ln lc : Nat → Nat} {ms : Nat → Nat → ByteArray} {Post : Ending → World → Prop}

theorem KidMap.look {wk : World} {hb sz n : Nat} {ss : Nat → ByteArray} {adj : Nat → List Nat} {la : Nat → Option Addr} {lc : Nat → Nat} (h : KidMap wk hb sz n ss adj la lc) {i : Nat} (hi : i < n) : (Instr.lookup 29 (.map (some hb)) (.string (ss i)) false).run Try.prog wk = .ok (.slice (la i) (adj i).length (lc i)) wk := by
  have := h.kids.look Try.underlying29 (Try.zeroValue22 wk) (h.nsz i)
  rw [nmF_at h.inj hi] at this
  rw [this]
  unfold kidG
  by_cases e : adj i = []
  · obtain ⟨e1, e2⟩ := h.nil i e
    simp [e, e1, e2]
  · simp [e]
theorem Place.look {wk : World} {pb n : Nat} {ss : Nat → ByteArray} (h : Place wk pb n ss) (hinj : ∀ i j, i < n → j < n → ss i = ss j → i = j) {j : Nat} (hj : j < n) (hsz : (ss j).size ≤ maxLen) : (Instr.lookup 53 (.map (some pb)) (.string (ss j)) false).run Try.prog wk = .ok (.int .i64 (j : Int)) wk := by
  have := SMap.look h Try.underlying53 (zero3 wk) hsz
  rw [idxOf_at hinj hj] at this
  exact this

set_option maxRecDepth 1000000 in
set_option maxHeartbeats 4000000 in
theorem stage43 {adj : Nat → List Nat} {cf : Nat → Nat} (hM : MF w cb n gb ss la ln lc ms) (hcf : ∀ x, x < n → LeastOf adj n x (cf x)) (hnext : S64 w cb n adj cf Post) : S43 w cb n ss adj cf Post := by
  intro wk pb hb sz fb pfb m pc pa la2 lc2 va vc hbel hp hkm hmr hpf hrows y1 y4 y5 y7 y8 y9 y10 y11 y12 y14 y15 y16 y17 y20 y21 y22 y23 y24 y25 y26 y27 y28 y29 y30 y31 y32 y33 y34 y35 y36 y37 y38 y39 y40 y41 y42 y43 y44 y45 y46 y47 y48 y49 y50 y51 y52 y53 y54 y55 y56 y57 y58 y59 y60 y61 y62 y63 y64 y65 y66 y67 y68 y69 y70 y71 y72 y73 y74 y75 y76 y77 y78 y79 y80 y81 y82 y83 y84 y85 y86 y87 y88 y89 y90 y91 y92 y93 y94 y95 y96 y97 y98 y99 y100 y101 y102 y103 y104 y105 y106 y107 y108 y109 y110 y111 y112 y113 y114 y115 y116 y117 y118 y119 y120 y121 y122 y123 y124 y125 y126 y127 y128 y129 y130 y131 y132 y133 y134 y135 y136 y137 y138 y139 y140 y141 y142 y143 y144 y145 y146 y147 y148 y149 y150 y151 y152 y153 y154 y155 y156 y157 y158 y159 y160 y161 y162 y163 y164 y165 y166 y167 y168 y169 y170 y171 y172 y173 y174 y175 y176 y177 y178 y179 y180 y181 y182 y183 y184 y185 y186 y187 y188 y189 y190 y191 y192 y193 y194 y195 y196 y197 y198 y199 y200 y201 y202 y203 y204 y205 y206 y207 y208 y209 y210 y211 y212 y213 y214 y215 y216 y217 y218 y219 y220 y221 y222 y223 y224 y225 y226 y227 y228 y229 y230 y231 y232 y233 y234 y235 y236 y237 y238 y239 y240 y241 y242 y243 y244 y245 y246 y247 y248 y249 y250 y251 y252 y253 y254 y255 y256 y257 y258 y259 y260 y261 y262 y263 y264 y265 y266 y267 y268 y269 y270 y271 y272 y273 y274 y275 y276 y277 y278 y279 y280 y281 y282 y283 y284 y285 y286 y287 y288 y289 y290 y291 y292 y293 y294 y295 y296 y297 y298 y299 y300 y301 y302 y303 y304 y305 y306 y307 y308 y309 y310 y311 y312 y313 y314 y315 y316 y317 y318 y319 y320 y321 y322 y323 y324 y325 y326 y327 y328 y329 y330 y331 y332 y333 y334 y335 y336 y337 y338 y339 y340 y341 K hK
  have HM : Hid (MF w cb n gb ss la ln lc ms) := hM
  have HN : Hid (S64 w cb n adj cf Post) := hnext
  have HB : Hid (Below w.heap.size w wk) := hbel
  have HP : Hid (Place wk pb n ss) := hp
  have HKM : Hid (KidMap wk hb sz n ss adj la2 lc2) := hkm
  have HPF : Hid (wk.rowIs pfb 3 n (fun i => .int .i64 ((pof cf i : Nat) : Int))) := hpf
  have HR : Hid (IRows wk pa m va vc (partL cf n)) := hrows
  have Hcf : Hid (∀ x, x < n → LeastOf adj n x (cf x)) := hcf
  have Hmr : Hid (m = rnk cf n) := hmr
  have hn := hkm.nle
  have hm : m ≤ 4096 := by have := rnk_le cf n; omega
  have hmi := makeInts m (by omega)
  have hmr2 := makeRows m (by omega)
  obtain ⟨i3, hp0, hq0, hq1, hq2⟩ := info_parts info3
  clear hM hnext hbel hp hkm hcf hpf hrows hmr
  have hr := rfl (a := rest25 43)
  conv at hr => lhs; whnf
  rw [← hr] at hK
  clear hr
  conv => arg 2; whnf
  go_wp2_with fail
  clear hmi hmr2
  have H0' : Hid (WM wk wk.heap.size (wk.heap.size + 1) (wk.heap.size + 1 + 1) (((wk.alloc (.cells (madeInts m) 3)).alloc (.cells (madeRows m) 43)).alloc (.cells (madeInts m) 3)) m (fun _ => []) (fun _ => []) (fun _ => 0) (fun _ => .slice none 0 0)) := WM.start wk m
  obtain ⟨kb, hkb⟩ : ∃ kb, kb = wk.heap.size + 1 + 1 := ⟨_, rfl⟩
  rw [← hkb] at H0' ⊢
  obtain ⟨ob, hob⟩ : ∃ ob, ob = wk.heap.size + 1 := ⟨_, rfl⟩
  rw [← hob] at H0' ⊢
  obtain ⟨wb, hwb⟩ : ∃ wb, wb = wk.heap.size := ⟨_, rfl⟩
  have H0 : Hid (WM wk wb ob kb (((wk.alloc (.cells (madeInts m) 3)).alloc (.cells (madeRows m) 43)).alloc (.cells (madeInts m) 3)) m (fun _ => []) (fun _ => []) (fun _ => 0) (fun _ => .slice none 0 0)) := by rw [hwb]; exact H0'
  clear H0'
  have hcw : (Value.slice (some ⟨wk.heap.size, 0, none⟩) m m) = .slice (some ⟨wb, 0, none⟩) m m := by rw [hwb]
  rw [hcw]
  clear hkb hob hwb hcw
  go_loopw [27, 28, 30, 32, 33, 200] (fun _ _ _ _ _ v wx => ∃ (p : Nat) (wl hol : Nat → List Nat) (cnt : Nat → Nat) (val : Nat → Value), p ≤ m ∧ v = .int .i64 p ∧ Hid (WM wk wb ob kb wx m wl hol cnt val) ∧ Hid (WB (allP adj cf n) m p wl hol cnt)) (fun _ _ _ _ _ v _ => m - (intOf v).toNat)
  case atStart => exact ⟨0, _, _, _, _, Nat.zero_le _, rfl, H0, WB.start _ _⟩
  case round =>
    obtain ⟨p, wl, hol, cnt, val, hpm, rfl, HW, HWB⟩ := hrel
    clear H0
    have hrw := HR.out.below HW.out.bel
    by_cases hlt : p < m
    · obtain ⟨b1, o1, _, hix1, hc1⟩ := hrw.outer.elem40 hlt pc
      have hxp := fun w => elem43 (b := kb) (c := m) hlt w
      have hcp := HW.out.cn.cell hlt
      have hfp := HW.out.cn.frozen p
      obtain ⟨PL, hPL⟩ : ∃ PL, PL = partL cf n p := ⟨_, rfl⟩
      have HPL : Hid (PL = partL cf n p) := hPL
      rw [← hPL] at hc1
      have hpl : PL.length ≤ 4096 := by
        have h1 : (partL cf n p).length ≤ (List.range n).length := List.length_filter_le _ _
        simp at h1
        rw [hPL]
        omega
      have HW1 : Hid (WM wk wb ob kb (wr.setCell ⟨kb, p, none⟩ (.int .i64 ((p : Int) + 1))) m wl hol (upd cnt p (p + 1)) val) := HW.out.setC p (p + 1) (by omega)
      have HI1 : Hid (WI (allP adj cf n) m p [] wl hol (upd cnt p (p + 1))) := HWB.out.enter
      have hlt0 := hlt
      clear hPL hrw HW HWB
      go_wp2_with fail
      clear hc1 hcp hfp hix1
      go_loopw [30, 32, 33, 212] (fun _ _ _ v wx => ∃ (a : Nat) (wl hol : Nat → List Nat) (cnt : Nat → Nat) (val : Nat → Value), a ≤ PL.length ∧ v = .int .i64 a ∧ Hid (WM wk wb ob kb wx m wl hol cnt val) ∧ Hid (WI (allP adj cf n) m p (namedBy adj cf (PL.take a)) wl hol cnt)) (fun _ _ _ v _ => PL.length - (intOf v).toNat)
      case atStart => exact ⟨0, _, _, _, _, Nat.zero_le _, rfl, HW1, (by show WI _ _ _ _ _ _ _; simpa [namedBy] using HI1.out)⟩
      case round =>
        obtain ⟨a, wl, hol, cnt, val, ha, rfl, HW, HI⟩ := hrel
        clear HW1 HI1
        have hrw := (HR.out.below HW.out.bel).inner p hlt0
        rw [← HPL.out] at hrw
        by_cases hla : a < PL.length
        · obtain ⟨b2, o2, _, hix2, hc2⟩ := hrw.elem43 hla (vc p)
          obtain ⟨i, hi⟩ : ∃ i, i = PL.getD a 0 := ⟨_, rfl⟩
          have him : i ∈ PL := by rw [hi, List.getD_eq_getElem?_getD, List.getElem?_eq_getElem hla]; exact List.getElem_mem hla
          have hin : i < n := by
            rw [HPL.out] at him
            simp only [partL, List.mem_filter, List.mem_range] at him
            exact him.1
          have Htk : Hid (PL.take (a + 1) = PL.take a ++ [i]) := by
            show PL.take (a + 1) = PL.take a ++ [i]
            rw [List.take_add_one, List.getElem?_eq_getElem hla, hi, List.getD_eq_getElem?_getD, List.getElem?_eq_getElem hla]
            rfl
          rw [← hi] at hc2
          have hbw : Below w.heap.size w wr := HB.out.trans (HW.out.bel.mono HB.out.size)
          obtain ⟨_, _, _, _, c4, c5, _⟩ := HM.out.cells hbw hin
          have hix := fun w => elem37 (cb := cb) hin w
          have hlk := (HKM.out.below HW.out.bel).look hin
          have hal := HKM.out.adjlen i
          obtain ⟨AL, hAL⟩ : ∃ AL, AL = adj i := ⟨_, rfl⟩
          have HAL : Hid (AL = adj i) := hAL
          rw [← hAL] at hlk hal
          clear hi him hrw hbw hAL
          go_wp2_with fail
          clear hc2 hix2 c4 c5 hix hlk
          go_loopw [32, 33, 227] (fun _ _ v wx => ∃ (t : Nat) (wl hol : Nat → List Nat) (cnt : Nat → Nat) (val : Nat → Value), t ≤ AL.length ∧ v = .int .i64 t ∧ Hid (WM wk wb ob kb wx m wl hol cnt val) ∧ Hid (WI (allP adj cf n) m p (namedBy adj cf (PL.take a) ++ (AL.take t).map (pof cf)) wl hol cnt)) (fun _ _ v _ => AL.length - (intOf v).toNat)
          case atStart => exact ⟨0, wl, hol, cnt, val, Nat.zero_le _, rfl, HW, (by show WI _ _ _ _ _ _ _; simpa using HI.out)⟩
          case round =>
            obtain ⟨t, wl, hol, cnt, val, ht, rfl, HW, HI⟩ := hrel
            by_cases hlt3 : t < AL.length
            · have hsl := (HKM.out.lists i hin).below HW.out.bel
              rw [← HAL.out] at hsl
              obtain ⟨b3, o3, _, hix3, hc3⟩ := hsl.elem22 hlt3 (lc2 i)
              obtain ⟨j, hj⟩ : ∃ j, j = AL.getD t 0 := ⟨_, rfl⟩
              have hjm : j ∈ adj i := by rw [← HAL.out, hj, List.getD_eq_getElem?_getD, List.getElem?_eq_getElem hlt3]; exact List.getElem_mem hlt3
              have hjn : j < n := HKM.out.adjlt i j hjm
              rw [← hj] at hc3
              have Htk3 : Hid ((AL.take (t + 1)).map (pof cf) = (AL.take t).map (pof cf) ++ [pof cf j]) := by
                show (AL.take (t + 1)).map (pof cf) = (AL.take t).map (pof cf) ++ [pof cf j]
                have e0 : AL.take (t + 1) = AL.take t ++ [j] := by
                  rw [List.take_add_one, List.getElem?_eq_getElem hlt3, hj, List.getD_eq_getElem?_getD, List.getElem?_eq_getElem hlt3]
                  rfl
                rw [e0, List.map_append]
                rfl
              have hpj := (HP.out.below HW.out.bel).look HKM.out.inj hjn (HKM.out.nsz j)
              have hrp := HPF.out.of_block (HW.out.bel.block pfb HPF.out.lt)
              have hcj := hrp.cell hjn
              have hxj := fun w => elem43 (b := pfb) (c := n) hjn w
              obtain ⟨q, hq⟩ : ∃ q, q = pof cf j := ⟨_, rfl⟩
              have hqm : q < m := by rw [hq, Hmr.out]; exact pof_lt Hcf.out hjn (Nat.le_refl _)
              rw [← hq] at hcj Htk3
              have hcq := HW.out.cn.cell hqm
              have hfq := HW.out.cn.frozen q
              have hxq := fun w => elem43 (b := kb) (c := m) hqm w
              clear hj hjm hsl hq hrp
              obtain ⟨cq, hcqe⟩ : ∃ cq, cq = cnt q := ⟨_, rfl⟩
              rw [← hcqe] at hcq
              by_cases he : cq = p + 1
              · have hd : ((cq : Int) == (p : Int) + 1) = true := by simp; omega
                have hd2 : ((cq : Int) != (p : Int) + 1) = false := by simp; omega
                have HI2 : Hid (WI (allP adj cf n) m p (namedBy adj cf (PL.take a) ++ (AL.take (t + 1)).map (pof cf)) wl hol cnt) := by
                  show WI (allP adj cf n) m p (namedBy adj cf (PL.take a) ++ (AL.take (t + 1)).map (pof cf)) wl hol cnt
                  rw [Htk3.out, ← List.append_assoc]
                  exact HI.out.skip (by omega)
                rw [he] at hcq
                clear hcqe HI he hd hd2
                go_wp2_with fail
                go_roundw
                case rel => exact ⟨t + 1, wl, hol, cnt, val, by omega, by go_num, HW, HI2⟩
                case measure => simp [intOf]; omega
              · have hd : ((cq : Int) == (p : Int) + 1) = false := by simp; omega
                have hd2 : ((cq : Int) != (p : Int) + 1) = true := by simp; omega
                have Hne : Hid (cnt q ≠ p + 1) := by (show cnt q ≠ p + 1; omega)
                have HI2 : Hid (WI (allP adj cf n) m p (namedBy adj cf (PL.take a) ++ (AL.take (t + 1)).map (pof cf)) (upd wl p (wl p ++ [q])) (upd hol q (hol q ++ [p])) (upd cnt q (p + 1))) := by
                  show WI (allP adj cf n) m p (namedBy adj cf (PL.take a) ++ (AL.take (t + 1)).map (pof cf)) _ _ _
                  rw [Htk3.out, ← List.append_assoc]
                  exact HI.out.add Hne.out hqm
                have hwl := HI.out.wlen p
                have hhl := HI.out.hlen q
                have HWa : Hid (WM wk wb ob kb (wr.setCell ⟨kb, q, none⟩ (.int .i64 ((p : Int) + 1))) m wl hol (upd cnt q (p + 1)) val) := HW.out.setC q (p + 1) (by omega)
                have hcw := HWa.out.ws.cell hlt0
                have hfw := HWa.out.ws.frozen p
                have hxw := fun w => elem43 (b := wb) (c := m) hlt0 w
                have HWb : Hid (WM wk wb ob kb ((wr.setCell ⟨kb, q, none⟩ (.int .i64 ((p : Int) + 1))).setCell ⟨wb, p, none⟩ (.int .i64 (((wl p).length : Int) + 1))) m (upd wl p (wl p ++ [q])) hol (upd cnt q (p + 1)) val) := HWa.out.setW p q rfl
                have hch := HWb.out.gr.row.cell hqm
                have hxh := fun w => elem40 (b := ob) (c := m) hqm w
                obtain ⟨lw, hlw⟩ : ∃ lw, lw = (wl p).length := ⟨_, rfl⟩
                have Hlw : Hid (lw = (wl p).length) := hlw
                rw [← hlw] at hcw hwl HWb hch
                obtain ⟨w9, hw9⟩ : ∃ w9, w9 = ((wr.setCell ⟨kb, q, none⟩ (.int .i64 ((p : Int) + 1))).setCell ⟨wb, p, none⟩ (.int .i64 ((lw : Int) + 1))) := ⟨_, rfl⟩
                have HWc : Hid (WM wk wb ob kb w9 m (upd wl p (wl p ++ [q])) hol (upd cnt q (p + 1)) val) := by rw [hw9]; exact HWb
                have hch9 : w9.cell? ⟨ob, q, none⟩ = some (val q) := by rw [hw9]; exact hch
                have hsz9 : wk.heap.size ≤ w9.heap.size := HWc.out.bel.size
                clear hcqe HI he hlw hch
                go_upto_region 60 with fail
                rw [← hw9]
                clear hw9 HWb HWa hcq hfq hcw hfw
                go_wp2_with (at_builtin; refine wpList_append_lies _ (by rfl) _ _ _ (by rfl) wk.heap.size 3 i3 _ 1 8 Try.underlying43 hp0 hq0 hq1 hq2 rfl (by omega) (val q) (hol q).length (ints (hol q)) (by rfl) ((HWc.out.gr.own q hqm).alloc _) ⟨w9.heap.size, 0, none⟩ 1 1 [.int .i64 (p : Int)] (by rfl) (by rfl) (World.news_of_block (cs := #[.int .i64 (p : Int)]) (t := 3) (fr := (0, 0)) (heap_alloc_new _ _)) (by simp [Value.oneCell']) (by omega) (by unfold maxLen; omega) (by omega) (by simp; omega) (w9.heap.size + 1) (by simp) ?_; intro g1 cap1 x1 hown1 hgrow1 hat1 hltg1; obtain ⟨hc8, hf8, HWd⟩ := HWc.out.pushH hqm hown1 hgrow1 hat1 rfl; clear hown1 hgrow1 hat1 hltg1)
                go_roundw
                case rel => exact ⟨t + 1, _, _, _, _, by omega, by go_num, HWd, HI2⟩
                case measure => simp [intOf]; omega
            · obtain rfl : t = AL.length := by omega
              have HI2 : Hid (WI (allP adj cf n) m p (namedBy adj cf (PL.take (a + 1))) wl hol cnt) := by
                show WI (allP adj cf n) m p (namedBy adj cf (PL.take (a + 1))) wl hol cnt
                rw [Htk.out, namedBy_snoc, ← HAL.out]
                have h0 := HI.out
                rw [List.take_length] at h0
                exact h0
              clear HI
              go_wp2_with fail
              go_roundw
              case rel => exact ⟨a + 1, wl, hol, cnt, val, by omega, by go_num, HW, HI2⟩
              case measure => simp [intOf]; omega
        · obtain rfl : a = PL.length := by omega
          have HB2 : Hid (WB (allP adj cf n) m (p + 1) wl hol cnt) := by
            have h0 := HI.out
            rw [List.take_length] at h0
            exact h0.leave (by rw [HPL.out]; rfl)
          clear HI hrw
          go_wp2_with fail
          go_roundw
          case rel => exact ⟨p + 1, wl, hol, cnt, val, by omega, by go_num, HW, HB2⟩
          case measure => simp [intOf]; omega
    · obtain rfl : p = m := by omega
      clear hrw
      go_upto_region 64 with fail
      exact HN.out wr wk pb hb fb pfb p pc wb ob pa va vc val wl hol HB.out HW.out.bel HW.out.bl.1 Hmr.out HR.out HW.out.ws HW.out.gr HW.out.a1 HW.out.bl.2.1 HWB.out.waits _ _ _ _ _ _ _ _ _ _ _ _ _ _ _ _ _ _ _ _ _ _ _ _ _ _ _ _ _ _ _ _ _ _ _ _ _ _ _ _ _ _ _ _ _ _ _ _ _ _ _ _ _ _ _ _ _ _ _ _ _ _ _ _ _ _ _ _ _ _ _ _ _ _ _ _ _ _ _ _ _ _ _ _ _ _ _ _ _ _ _ _ _ _ _ _ _ _ _ _ _ _ _ _ _ _ _ _ _ _ _ _ _ _ _ _ _ _ _ _ _ _ _ _ _ _ _ _ _ _ _ _ _ _ _ _ _ _ _ _ _ _ _ _ _ _ _ _ _ _ _ _ _ _ _ _ _ _ _ _ _ _ _ _ _ _ _ _ _ _ _ _ _ _ _ _ _ _ _ _ _ _ _ _ _ _ _ _ _ _ _ _ _ _ _ _ _ _ _ _ _ _ _ _ _ _ _ _ _ _ _ _ _ _ _ _ _ _ _ _ _ _ _ _ _ _ _ _ _ _ _ _ _ _ _ _ _ _ _ _ _ _ _ _ _ _ _ _ _ _ _ _ _ _ _ _ _ _ _ _ _ _ _ _ _ _ _ _ _ _ _ _ _ _ _ _ _ _ _ _ _ _ _ _ _ _ _ _ _ _ _ _ _ _ _ _ _ _ _ _ _ _ _ _ _ _ _ _ _ _ _ _ _ _ _ _ _ _ _ _ _ _ _ _ _ _ _ _ _ _ _ _ _ _ (by assumption)
end Go.Proofs.Qxb6605609a

