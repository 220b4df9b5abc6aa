/-
  zzMembersFirstModel: regions 27 to 32.
-/
import Derived.Test.Qxb6605609aMd
namespace Go.Proofs.Qxb6605609a
open Go.RowKit

set_option maxRecDepth 1000000 in
set_option maxHeartbeats 4000000 in
theorem model27 {w : World} {ga ca : Option Addr} {gc cc n : Nat} {va : Nat → Option Addr} {vc : Nat → Nat} {adj : Nat → List Nat} {cf : Nat → Nat} {Post : Ending → World → Prop} (hM : MD w ga n va vc adj ca cf) (hnext : D33 w ga ca gc cc n adj cf Post) : D27 w ga ca gc cc n adj cf Post := by
  intro wk w4 ob wb hob pva pvc val wl hol hb4 hrows hbk hwb hhob hws hgr hng hwt y2 y3 y7 y10 y11 y12 y13 y14 y15 y16 y17 y18 y19 y20 y21 y22 y23 y24 y25 y26 y27 y28 y29 y30 y31 y32 y33 y34 y35 y36 y37 y38 y39 y40 y41 y42 y43 y44 y45 y46 y47 y48 y49 y50 y51 y52 y53 y54 y55 y56 y57 y58 y59 y60 y61 y62 y63 y64 y65 y66 y67 y68 y69 y70 y71 y72 y73 y74 y75 y76 y77 y78 y79 y80 y81 y82 y83 y84 y85 y86 y87 y88 y89 y90 y91 y92 y93 y94 y95 y96 y97 y98 y99 y100 y101 y102 y103 y104 y105 y106 y107 y108 y109 y110 y111 y112 y113 y114 y115 y116 y117 y118 y119 y120 y121 y122 y123 y124 y125 y126 y127 y128 y129 y130 y131 y132 y133 y134 y135 y136 y137 y138 y139 y140 y141 y142 y143 y144 y145 y146 y147 y148 y149 y150 y151 y152 y153 y154 y155 y156 y157 y158 y159 y160 y161 y162 y163 y164 y165 y166 y167 y168 y169 y170 y171 y172 y173 y174 y175 y176 y177 y178 y179 y180 y181 y182 y183 y184 y185 y186 y187 y188 y189 y190 y191 y192 y193 y194 y195 y196 y197 y198 y199 K hK
  have HM : Hid (MD w ga n va vc adj ca cf) := hM
  have HN : Hid (D33 w ga ca gc cc n adj cf Post) := hnext
  have HB4 : Hid (Below w.heap.size w w4) := hb4
  have HR : Hid (IRows w4 (some ⟨ob, 0, none⟩) n pva pvc (partC cf n)) := hrows
  have HBk : Hid (Below w4.heap.size w4 wk) := hbk
  have HWS : Hid (wk.rowIs wb 3 n (fun p => .int .i64 (((wl p).length : Nat) : Int))) := hws
  have HGR : Hid (Grid wk hob n w4.heap.size val hol) := hgr
  have Hng : Hid (¬ GridIn hob n val wb) := hng
  have HWT : Hid (WaitC adj cf n wl hol) := hwt
  have Hbl : Hid (w4.heap.size ≤ wb ∧ w4.heap.size ≤ hob) := ⟨hwb, hhob⟩
  have hn := hM.nle
  have hmb := makeBools n (by omega)
  clear hM hnext hb4 hrows hbk hws hgr hng hwt hwb hhob
  have hr := rfl (a := rest21 27)
  conv at hr => lhs; whnf
  rw [← hr] at hK
  clear hr
  conv => arg 2; whnf
  go_wp2_with fail
  clear hmb
  obtain ⟨rb, hrb⟩ : ∃ rb, rb = wk.heap.size := ⟨_, rfl⟩
  have Hrb : Hid (rb = wk.heap.size) := hrb
  have H0 : Hid ((wk.alloc (.cells (madeBools n) 4)).rowIs rb 4 n (fun x => .bool (decide (x < 0 ∧ cf x = x ∧ wl x = []))) ∧ KB (fun b => b = rb) wk (wk.alloc (.cells (madeBools n) 4))) := ⟨by rw [hrb]; exact (World.rowIs_made wk (.bool false) n 4).congr (fun x _ => by simp), (KB.refl _ _).alloc _⟩
  have hcw : (Value.slice (some ⟨wk.heap.size, 0, none⟩) n n) = .slice (some ⟨rb, 0, none⟩) n n := by rw [hrb]
  rw [hcw]
  clear hrb hcw
  go_loopw [18] (fun v wx => ∃ k : Nat, k ≤ n ∧ v = .int .i64 k ∧ Hid (wx.rowIs rb 4 n (fun x => .bool (decide (x < k ∧ cf x = x ∧ wl x = []))) ∧ KB (fun b => b = rb) wk wx)) (fun v _ => n - (intOf v).toNat)
  case atStart => exact ⟨0, Nat.zero_le _, rfl, H0⟩
  case round =>
    obtain ⟨k, hk, rfl, HR1⟩ := hrel
    clear H0
    have hbw0 : Below wk.heap.size wk wr := HR1.out.2.toBelow (Nat.le_refl _) (fun b hb e => by have := Hrb.out; omega)
    have Hbw0 : Hid (Below wk.heap.size wk wr) := hbw0
    have hwr : wr.rowIs wb 3 n (fun p => .int .i64 (((wl p).length : Nat) : Int)) := rowIs_keep HWS.out HR1.out.2 (fun e => by have := HWS.out.lt; have := Hrb.out; omega)
    have Hwr : Hid (wr.rowIs wb 3 n (fun p => .int .i64 (((wl p).length : Nat) : Int))) := hwr
    by_cases hlt : k < n
    · have hbw : Below w.heap.size w wr := HB4.out.trans ((HBk.out.trans (hbw0.mono HBk.out.size)).mono HB4.out.size)
      obtain ⟨b0, o0, _, hix0, hc0⟩ := (HM.out.comp.below hbw).elem43 hlt cc
      obtain ⟨cp, hcp⟩ : ∃ cp, cp = cf k := ⟨_, rfl⟩
      rw [← hcp] at hc0
      have hcw := hwr.cell hlt
      have hxw := fun w => elem43 (b := wb) (c := n) hlt w
      have hxr := fun w => elem55 rb hlt w
      have hcr := HR1.out.1.cell hlt
      have hfr := HR1.out.1.frozen k
      have hsm : (wl k).length ≤ n := nodup_le (HWT.out.nd k hlt) (HWT.out.lt k)
      obtain ⟨lw, hlw⟩ : ∃ lw, lw = (wl k).length := ⟨_, rfl⟩
      have Hlw : Hid (lw = (wl k).length) := hlw
      have Hcp : Hid (cp = cf k) := hcp
      rw [← hlw] at hcw hsm
      clear hbw0 hwr hbw hcp hlw
      by_cases hrep : cp = k
      · by_cases hz : lw = 0
        · subst hz
          have hnil : wl k = [] := List.length_eq_zero_iff.1 Hlw.out.symm
          have HR2 : Hid ((wr.setCell ⟨rb, k, none⟩ (.bool true)).rowIs rb 4 n (fun x => .bool (decide (x < k + 1 ∧ cf x = x ∧ wl x = []))) ∧ KB (fun b => b = rb) wk (wr.setCell ⟨rb, k, none⟩ (.bool true))) := by
            refine ⟨(HR1.out.1.set k _).congr (fun x _ => ?_), KB.setCell (p := ⟨rb, k, none⟩) HR1.out.2 (fun _ => rfl) _⟩
            by_cases e : x = k
            · subst e
              have : cf x = x := by rw [← Hcp.out]; exact hrep
              simp [this, hnil]
            · have h1 : (x < k + 1) ↔ x < k := by omega
              simp only [e, if_false, h1]
          subst hrep
          clear HR1 hnil Hlw Hcp
          go_wp2_with fail
          go_roundw
          case rel => exact ⟨cp + 1, by omega, by go_num, HR2⟩
          case measure => simp [intOf]; omega
        · have hd : ((lw : Int) == 0) = false := by simp; omega
          have HR2 : Hid (wr.rowIs rb 4 n (fun x => .bool (decide (x < k + 1 ∧ cf x = x ∧ wl x = []))) ∧ KB (fun b => b = rb) wk wr) := by
            refine ⟨HR1.out.1.congr (fun x _ => ?_), HR1.out.2⟩
            by_cases e : x = k
            · subst e
              have : wl x ≠ [] := fun h => hz (by rw [Hlw.out, h]; rfl)
              simp [this]
            · have h1 : (x < k + 1) ↔ x < k := by omega
              simp only [h1]
          subst hrep
          clear HR1 Hlw Hcp hz
          go_wp2_with fail
          go_roundw
          case rel => exact ⟨cp + 1, by omega, by go_num, HR2⟩
          case measure => simp [intOf]; omega
      · have hd : ((cp : Int) == (k : Int)) = false := by simp; omega
        have HR2 : Hid (wr.rowIs rb 4 n (fun x => .bool (decide (x < k + 1 ∧ cf x = x ∧ wl x = []))) ∧ KB (fun b => b = rb) wk wr) := by
          refine ⟨HR1.out.1.congr (fun x _ => ?_), HR1.out.2⟩
          by_cases e : x = k
          · subst e
            have : cf x ≠ x := fun h => hrep (by rw [Hcp.out, h])
            simp [this]
          · have h1 : (x < k + 1) ↔ x < k := by omega
            simp only [h1]
        clear HR1 Hlw Hcp hrep
        go_wp2_with fail
        go_roundw
        case rel => exact ⟨k + 1, by omega, by go_num, HR2⟩
        case measure => simp [intOf]; omega
    · obtain rfl : k = n := by omega
      have HR2 : Hid (wr.rowIs rb 4 k (fun x => .bool (decide (cf x = x ∧ wl x = [])))) := HR1.out.1.congr (fun x hx => by simp [hx])
      have HG2 : Hid (Grid wr hob k w4.heap.size val hol) := HGR.out.keep HR1.out.2 (fun b hb e => by have := HGR.out.lt hb; have := Hrb.out; omega)
      have Hnr : Hid (¬ GridIn hob k val rb) := fun h => by
        have := HGR.out.lt h
        have := Hrb.out
        omega
      have Hwlt : Hid (w4.heap.size ≤ rb ∧ wb < rb) := ⟨by have := Hrb.out; have := HBk.out.size; omega, by have := Hrb.out; have := HWS.out.lt; omega⟩
      clear hbw0 hwr
      go_upto_region 33 with fail
      exact HN.out wr w4 ob wb hob rb pva pvc val wl hol HB4.out HR.out (HBk.out.trans (Hbw0.out.mono HBk.out.size)) Hbl.out.1 Hbl.out.2 Hwlt.out.1 Hwlt.out.2 Hwr.out HG2.out Hng.out Hnr.out HWT.out HR2.out _ _ _ _ _ _ _ _ _ _ _ _ _ _ _ _ _ _ _ _ _ _ _ _ _ _ _ _ _ _ _ _ _ _ _ _ _ _ _ _ _ _ _ _ _ _ _ _ _ _ _ _ _ _ _ _ _ _ _ _ _ _ _ _ _ _ _ _ _ _ _ _ _ _ _ _ _ _ _ _ _ _ _ _ _ _ _ _ _ _ _ _ _ _ _ _ _ _ _ _ _ _ _ _ _ _ _ _ _ _ _ _ _ _ _ _ _ _ _ _ _ _ _ _ _ _ _ _ _ _ _ _ _ _ _ _ _ _ _ _ _ _ _ _ _ _ _ _ _ _ _ _ _ _ _ _ _ _ _ _ _ _ _ _ _ _ _ _ _ _ _ _ _ _ _ _ _ _ _ _ _ _ _ _ _ _ _ _ _ _ _ _ _ (by assumption)

end Go.Proofs.Qxb6605609a
