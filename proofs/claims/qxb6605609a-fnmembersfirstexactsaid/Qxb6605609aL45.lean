/-
  FnMembersFirstMembersBefore: regions 45 to 55.
-/
import Derived.Test.Qxb6605609aLb
namespace Go.Proofs.Qxb6605609a
open Go.RowKit
variable {w : World} {ss : Nat → ByteArray} {la : Nat → Option Addr} {ln lc : Nat → Nat} {ms : Nat → Nat → ByteArray} {Post : Ending → World → Prop}

theorem leastOf_unique {adj : Nat → List Nat} {n x m m' : Nat} (h : LeastOf adj n x m) (h' : LeastOf adj n x m') : m = m' := by
  have a := h.2.2 m' h'.1 h'.2.1
  have b := h'.2.2 m h.1 h.2.1
  omega
theorem SlAt.congr {w : World} {a : Option Addr} {n : Nat} {f g : Nat → Value} (h : SlAt w a n f) (hfg : ∀ i, i < n → f i = g i) : SlAt w a n g := by
  refine ⟨h.small, fun hn => ?_⟩
  obtain ⟨b, off, e, hlt, hc⟩ := h.spot hn
  exact ⟨b, off, e, hlt, fun j hj => by rw [hc j hj, hfg j hj]⟩

set_option maxRecDepth 1000000 in
set_option maxHeartbeats 4000000 in
theorem law45 (hssz : ∀ i, (ss i).size ≤ maxLen) (hmsz : ∀ i j, (ms i j).size ≤ maxLen) (hnext : L56 w Post) : L45 w ss ln ms Post := by
  intro wk a a1 ga n c c1 gc cb pb ob la lc cf out pos hbel hs hL hn hln hasc hcf hok hpos hpr hor y2 y3 y4 y5 y9 y10 y12 y14 y15 y16 y17 y18 y19 y20 y21 y22 y23 y24 y25 y26 y27 y28 y29 y30 y31 y32 y33 y34 y35 y36 y37 y38 y39 y40 y41 y42 y43 y44 y45 y46 y47 y48 y49 y50 y51 y52 y53 y54 y55 y56 y57 y58 y59 y60 y61 y62 y63 y64 y65 y66 y67 y68 y69 y70 y71 y72 y73 y74 y75 y76 y77 y78 y79 y80 y81 y82 y83 y84 y85 y86 y87 y88 y89 y90 y91 y92 y93 y94 y95 y96 y97 y98 y99 y100 y101 y102 y103 y104 y105 y106 y107 y108 y109 y110 y111 y112 y113 y114 y115 y116 y117 y118 y119 y120 y121 y122 y123 y124 y125 y126 y127 y128 y129 y130 y131 y132 y133 y134 y135 y136 y137 y138 y139 y140 y141 y142 y143 y144 y145 y146 y147 y148 y149 y150 y151 y152 y153 y154 y155 y156 y157 y158 y159 y160 y161 y162 y163 y164 y165 y166 y167 y168 y169 y170 y171 y172 y173 y174 y175 y176 y177 y178 y179 y180 y181 y182 y183 y184 y185 y186 y187 y188 y189 y190 y191 y192 y193 y194 y195 y196 y197 y198 y199 y200 y201 y202 y203 y204 y205 y206 y207 y208 y209 y210 y211 y212 y213 y214 y215 y216 y217 y218 y219 y220 y221 y222 y223 y224 y225 y226 y227 y228 y229 y230 y231 y232 y233 y234 y235 y236 y237 y238 y239 y240 y241 y242 y243 y244 y245 y246 y247 y248 y249 y250 y251 y252 y253 y254 y255 y256 y257 y258 y259 y260 y261 y262 y263 y264 y265 y266 y267 y268 y269 y270 y271 y272 y273 y274 y275 y276 y277 K hK
  have HN : Hid (L56 w Post) := hnext
  have HB : Hid (Below w.heap.size w wk) := hbel
  have HO : Hid (OutOk (adjL ss n ln ms) n cf out) := hok
  have HPos : Hid (∀ k, k < n → pos (out.getD k 0) = k) := hpos
  have HPR : Hid (wk.rowIs pb 3 n (fun i => .int .i64 ((pos i : Nat) : Int))) := hpr
  have HR : Hid (wk.rowIs ob 3 n (fun k => .int .i64 ((out.getD k 0 : Nat) : Int))) := hor
  have Hcf : Hid (∀ x, x < n → LeastOf (adjL ss n ln ms) n x (cf x)) := hcf
  have h20 := graph20 a a1 n c c1 ss la ln lc ms wk hn hs hL hssz hmsz hln hasc.facts.1
  clear hnext hbel hok hpos hpr hor hcf hs hL hln hasc hssz hmsz
  have hr := rfl (a := rest6 45)
  conv at hr => lhs; whnf
  rw [← hr] at hK
  clear hr
  conv => arg 2; whnf
  go_wp2_with fail
  refine h20.mono ?_
  rintro e w1 ⟨⟨g1, g2, va1, vc1, va2, vc2, R, rfl, hr1, hr2, hrev⟩, hb1⟩
  have Hb1 : Hid (Below wk.heap.size wk w1) := hb1
  have HR1 : Hid (IRows w1 g1 n va1 vc1 (adjL ss n ln ms)) := hr1
  have h22 := comps22 g1 g2 n n n va1 va2 vc1 vc2 (adjL ss n ln ms) R w1 hn hr1 hr2 (fun _ _ b hb => adjL_lt hb) hrev
  clear h20 hr1 hr2 hrev hb1
  go_wp2_with fail
  refine h22.mono ?_
  rintro e w2 ⟨⟨ca, cc, comp, rfl, hcs, hcl⟩, hb2⟩
  have HC : Hid (SlAt w2 ca n (fun i => .int .i64 ((cf i : Nat) : Int))) := hcs.congr (fun i hi => by rw [leastOf_unique (hcl i hi) (Hcf.out i hi)])
  have HR2 : Hid (IRows w2 g1 n va1 vc1 (adjL ss n ln ms)) := HR1.out.below hb2
  have Hb2 : Hid (Below wk.heap.size wk w2) := Hb1.out.trans (hb2.mono Hb1.out.size)
  clear h22 hcs hcl hb2 HR1 Hb1
  go_wp2_with fail
  go_loopw [4, 21, 23] (fun _ v _ wx => ∃ i : Nat, i ≤ n ∧ v = .int .i64 i ∧ Hid (Below w2.heap.size w2 wx)) (fun _ v _ _ => n - (intOf v).toNat)
  case atStart => exact ⟨0, Nat.zero_le _, rfl, Below.refl _ _⟩
  case round =>
    obtain ⟨i, hi, rfl, Hbw⟩ := hrel
    by_cases hlt : i < n
    · obtain ⟨b1, o1, hb1, hix1, hc1'⟩ := HR2.out.outer.elem40 hlt n
      have hc1 : wr.cell? ⟨b1, o1, none⟩ = some (.slice (va1 i) (adjL ss n ln ms i).length (vc1 i)) := (Hbw.out.cell (p := ⟨b1, o1, none⟩) hb1).trans hc1'
      obtain ⟨AL, hAL⟩ : ∃ AL, AL = adjL ss n ln ms i := ⟨_, rfl⟩
      have HAL : Hid (AL = adjL ss n ln ms i) := hAL
      have hin := HR2.out.inner i hlt
      have hsm := hin.small
      rw [← hAL] at hc1 hsm
      have Hin : Hid (SlAt w2 (va1 i) AL.length (fun j => .int .i64 ((AL.getD j 0 : Nat) : Int))) := by rw [hAL]; exact hin
      obtain ⟨b3, o3, hb3, hix3, hc3'⟩ := HC.out.elem43 hlt cc
      have hpi := fun w => elem43 (b := pb) (c := n) hlt w
      have hpc := HPR.out.cell hlt
      have hpl := HPR.out.lt
      clear hAL hin hc1'
      go_wp2_with fail
      clear hc1
      go_loopw [4, 23, 212] (fun _ _ v wx => ∃ t : Nat, t ≤ AL.length ∧ v = .int .i64 t ∧ Hid (Below w2.heap.size w2 wx)) (fun _ _ v _ => AL.length - (intOf v).toNat)
      case atStart => exact ⟨0, Nat.zero_le _, rfl, Hbw⟩
      case round =>
        obtain ⟨t, ht, rfl, Hbw⟩ := hrel
        by_cases hlt2 : t < AL.length
        · obtain ⟨b4, o4, hb4, hix4, hc4'⟩ := Hin.out.elem43 hlt2 (vc1 i)
          obtain ⟨j, hj⟩ : ∃ j, j = AL.getD t 0 := ⟨_, rfl⟩
          have hjm : j ∈ adjL ss n ln ms i := by rw [← HAL.out, hj, List.getD_eq_getElem?_getD, List.getElem?_eq_getElem hlt2]; exact List.getElem_mem hlt2
          have hjn : j < n := adjL_lt hjm
          rw [← hj] at hc4'
          have hc4 : wr.cell? ⟨b4, o4, none⟩ = some (.int .i64 (j : Int)) := (Hbw.out.cell (p := ⟨b4, o4, none⟩) hb4).trans hc4'
          obtain ⟨b5, o5, hb5, hix5, hc5'⟩ := HC.out.elem43 hjn cc
          obtain ⟨ci, hci⟩ : ∃ ci, ci = cf i := ⟨_, rfl⟩
          obtain ⟨cj, hcj⟩ : ∃ cj, cj = cf j := ⟨_, rfl⟩
          rw [← hci] at hc3'
          rw [← hcj] at hc5'
          have hc3 : wr.cell? ⟨b3, o3, none⟩ = some (.int .i64 (ci : Int)) := (Hbw.out.cell (p := ⟨b3, o3, none⟩) hb3).trans hc3'
          have hc5 : wr.cell? ⟨b5, o5, none⟩ = some (.int .i64 (cj : Int)) := (Hbw.out.cell (p := ⟨b5, o5, none⟩) hb5).trans hc5'
          have hpr := (HPR.out.of_block (Hb2.out.block pb hpl)).of_block (Hbw.out.block pb (Nat.lt_of_lt_of_le hpl Hb2.out.size))
          have hp1 := hpr.cell hlt
          have hp2 := hpr.cell hjn
          have hpj := fun w => elem43 (b := pb) (c := n) hjn w
          obtain ⟨pi, hpie⟩ : ∃ p, p = pos i := ⟨_, rfl⟩
          obtain ⟨pj, hpje⟩ : ∃ p, p = pos j := ⟨_, rfl⟩
          rw [← hpie] at hp1
          rw [← hpje] at hp2
          have Hcc : Hid (ci = cf i ∧ cj = cf j) := ⟨hci, hcj⟩
          have Hle : Hid (ci ≠ cj → pj ≤ pi) := fun hne => by
            obtain ⟨k, hk, ek⟩ := HO.out.all i hlt
            obtain ⟨k', hk', ek'⟩ := HO.out.all j hjn
            have h1 := HO.out.bef k k' hk hk' (by rw [ek, ek']; exact hjm) (by rw [ek, ek', ← hci, ← hcj]; exact fun e => hne e.symm)
            have h2 := HPos.out k hk
            have h3 := HPos.out k' hk'
            rw [ek] at h2
            rw [ek'] at h3
            rw [hpie, hpje, h2, h3]
            exact h1
          have Hbq : Hid (∀ q, Below w2.heap.size w2 (wr.drewN q)) := fun q => below_drewN Hbw.out q
          clear hj hjm hci hcj hpie hpje hpr hc4' hc5' hpc
          by_cases he : ci = cj
          · subst he
            clear hc3'
            have hd : ((ci : Int) != (ci : Int)) = false := by simp
            go_wp2_with fail
            go_quiet (fail)
            go_wp2_with fail
            go_roundw
            case rel => exact ⟨t + 1, by omega, by go_num, Hbq.out _⟩
            case measure => simp [intOf]; omega
          · have hle := Hle.out he
            have hd : ((cj : Int) != (ci : Int)) = true := by simp; omega
            have hd1 : ((cj : Int) == (ci : Int)) = false := by simp; omega
            have hd2 : decide ((pi : Int) < (pj : Int)) = false := by simp; omega
            have hle2 : (pj : Int) ≤ (pi : Int) := by omega
            clear he hc3'
            go_wp2_with fail
            go_quiet (fail)
            go_wp2_with fail
            go_roundw
            case rel => exact ⟨t + 1, by omega, by go_num, Hbq.out _⟩
            case measure => simp [intOf]; omega
        · obtain rfl : t = AL.length := by omega
          go_wp2_with fail
          go_roundw
          case rel => exact ⟨i + 1, by omega, by go_num, Hbw⟩
          case measure => simp [intOf]; omega
    · obtain rfl : i = n := by omega
      go_upto_region 56 with fail
      exact HN.out wr a a1 ga ca i c c1 gc cb pb ob cc (adjL ss i ln ms) cf out (HB.out.trans ((Hb2.out.trans (Hbw.out.mono Hb2.out.size)).mono HB.out.size)) hn HO.out (fun x hx => (Hcf.out x hx).1) ((HR.out.of_block (Hb2.out.block ob HR.out.lt)).of_block (Hbw.out.block ob (Nat.lt_of_lt_of_le HR.out.lt Hb2.out.size))) (HC.out.below Hbw.out) _ _ _ _ _ _ _ _ _ _ _ _ _ _ _ _ _ _ _ _ _ _ _ _ _ _ _ _ _ _ _ _ _ _ _ _ _ _ _ _ _ _ _ _ _ _ _ _ _ _ _ _ _ _ _ _ _ _ _ _ _ _ _ _ _ _ _ _ _ _ _ _ _ _ _ _ _ _ _ _ _ _ _ _ _ _ _ _ _ _ _ _ _ _ _ _ _ _ _ _ _ _ _ _ _ _ _ _ _ _ _ _ _ _ _ _ _ _ _ _ _ _ _ _ _ _ _ _ _ _ _ _ _ _ _ _ _ _ _ _ _ _ _ _ _ _ _ _ _ _ _ _ _ _ _ _ _ _ _ _ _ _ _ _ _ _ _ _ _ _ _ _ _ _ _ _ _ _ _ _ _ _ _ _ _ _ _ _ _ _ _ _ _ _ _ _ _ _ _ _ _ _ _ _ _ _ _ _ _ _ _ _ _ _ _ _ _ _ _ _ _ _ _ _ _ _ _ _ _ _ _ _ _ _ _ _ _ _ _ _ _ _ _ _ _ _ _ _ _ _ _ _ _ _ _ _ _ _ _ _ _ _ _ _ _ _ _ _ _ _ _ (by assumption)

end Go.Proofs.Qxb6605609a

