/-
  membersFirst: regions 21 to 30.
-/
import Derived.Test.Qxb6605609aMfDefs
namespace Go.Proofs.Qxb6605609a
open Go.RowKit
variable {w : World} {cb n : Nat} {gb : Nat → Nat} {ss : Nat → ByteArray} {la : Nat → Option Addr} {ln lc : Nat → Nat} {ms : Nat → Nat → ByteArray} {Post : Ending → World → Prop}

theorem makeMap57n (w : World) : (Instr.makeMap 57 none).run Try.prog w = .ok (.map (some w.heap.size)) (w.alloc (.map #[] 0)) := by kernel_rfl

theorem KidMap.below {wk wx : World} {hb sz n : Nat} {ss : Nat → ByteArray} {adj : Nat → List Nat} {la : Nat → Option Addr} {lc : Nat → Nat} (h : KidMap wk hb sz n ss adj la lc) (hb' : Below wk.heap.size wk wx) : KidMap wx hb sz n ss adj la lc :=
  ⟨h.nle, h.nsz, h.inj, h.mono, h.mono', h.adjlt, h.adjout, h.adjlen, h.kids.keep (KB.of (fun _ => False) hb') id, h.small, fun i hi => (h.lists i hi).below hb', h.nil⟩
theorem Place.below {wk wx : World} {pb n : Nat} {ss : Nat → ByteArray} (h : Place wk pb n ss) (hb : Below wk.heap.size wk wx) : Place wx pb n ss := SMap.keep h (KB.of (fun _ => False) hb) id

/-- The cycles, to be read. -/
structure CycRows (w : World) (a : Option Addr) (ss : Nat → ByteArray) (cs : List (List Nat)) (bb cp : Nat → Nat) : Prop where
  outer : SlAt w a cs.length fun j => .slice (some ⟨bb j, 0, none⟩) (cs.getD j []).length (cp j)
  inner : ∀ j, j < cs.length → 0 < (cs.getD j []).length ∧ SlAt w (some ⟨bb j, 0, none⟩) (cs.getD j []).length (fun q => .string (ss ((srt (cs.getD j [])).getD q 0)))

theorem cycRows {w' : World} {lo : Nat} {v : Value} {es : List Value} {cs : List (List Nat)} (hr : Row w' 22 v es) (he : Els w' (fun b => lo ≤ b) ss es cs) (hc : cs.length ≤ 4096) : ∃ a c bb cp, v = .slice a cs.length c ∧ CycRows w' a ss cs bb cp ∧ (∀ j, j < cs.length → lo ≤ bb j) ∧ ∀ b off, a = some ⟨b, off, none⟩ → ∃ cur t, w'.heap[b]? = some (.cells cur t (0, 0)) ∨ cs.length = 0 := by
  have hl := he.1
  have each : ∀ j, ∃ y : Nat × Nat, j < cs.length → es[j]? = some (.slice (some ⟨y.1, 0, none⟩) (cs.getD j []).length y.2) ∧ lo ≤ y.1 ∧ 0 < (cs.getD j []).length ∧ SlAt w' (some ⟨y.1, 0, none⟩) (cs.getD j []).length (fun q => .string (ss ((srt (cs.getD j [])).getD q 0))) := fun j => by
    by_cases hj : j < cs.length
    · have hj2 : j < es.length := by omega
      obtain ⟨b, cap, e, hq, h0, hs⟩ := he.2 j es[j] cs[j] (List.getElem?_eq_getElem hj2) (List.getElem?_eq_getElem hj)
      have ec : cs.getD j [] = cs[j] := by rw [List.getD_eq_getElem?_getD, List.getElem?_eq_getElem hj]; rfl
      refine ⟨(b, cap), fun _ => ?_⟩
      rw [ec]
      exact ⟨by rw [List.getElem?_eq_getElem hj2, e], hq, h0, hs⟩
    · exact ⟨(0, 0), fun h => absurd h hj⟩
  obtain ⟨a, c, ev, hs⟩ := hr.slAt (by omega) (fun j => .slice (some ⟨(Classical.choose (each j)).1, 0, none⟩) (cs.getD j []).length (Classical.choose (each j)).2) (fun j hj => ((Classical.choose_spec (each j)) (by omega)).1)
  rw [hl] at ev hs
  refine ⟨a, c, _, _, ev, ⟨hs, fun j hj => ⟨((Classical.choose_spec (each j)) hj).2.2.1, ((Classical.choose_spec (each j)) hj).2.2.2⟩⟩, fun j hj => ((Classical.choose_spec (each j)) hj).2.1, fun b off e => ?_⟩
  rcases hr.2 with ⟨e1, e2⟩ | ⟨g, cap, cur, e1, _, hh, _⟩
  · exact ⟨#[], 0, Or.inr (by omega)⟩
  · refine ⟨cur, 22, Or.inl ?_⟩
    rw [e1] at ev
    injection ev with e3 _ _
    rw [e] at e3
    have := congrArg Addr.block (Option.some.inj e3)
    simp at this
    rw [← this]
    exact hh

theorem CycRows.keep {S : Nat → Prop} {wa wx : World} {a : Option Addr} {cs : List (List Nat)} {bb cp : Nat → Nat} (h : CycRows wa a ss cs bb cp) (hk : KB S wa wx) (ha : ∀ b off, a = some ⟨b, off, none⟩ → 0 < cs.length → ¬ S b) (hb : ∀ j, j < cs.length → ¬ S (bb j)) : CycRows wx a ss cs bb cp := by
  refine ⟨⟨h.outer.small, fun h0 => ?_⟩, fun j hj => ⟨(h.inner j hj).1, (h.inner j hj).2.keep hk (fun b off e => ?_)⟩⟩
  · obtain ⟨b, off, e, hlt, hc⟩ := h.outer.spot h0
    exact ⟨b, off, e, Nat.lt_of_lt_of_le hlt hk.size, fun j hj => (hk.cell (p := ⟨b, off + j, none⟩) hlt (ha b off e h0)).trans (hc j hj)⟩
  · have := congrArg Addr.block (Option.some.inj e)
    simp at this
    rw [← this]
    exact hb j hj

/-- The first of a cycle is the least of each of its groups' parts. -/
theorem cyc_first {adj : Nat → List Nat} {cf : Nat → Nat} {cs : List (List Nat)} (hs : CycSpec adj n cs) (hcf : ∀ x, x < n → LeastOf adj n x (cf x)) {c : List Nat} (hc : c ∈ cs) {x : Nat} (hx : x ∈ c) : (srt c).getD 0 0 = cf x := by
  obtain ⟨h1, h2, h3, h4⟩ := hs.1 c hc
  have hl : 0 < (srt c).length := by rw [srt_length]; exact List.length_pos_of_mem hx
  obtain ⟨l1, l2, l3⟩ := hcf x (h3 x hx)
  have hm : (srt c).getD 0 0 ∈ c := by
    rw [← srt_mem, List.getD_eq_getElem?_getD, List.getElem?_eq_getElem hl]
    exact List.getElem_mem hl
  have hle : cf x ≤ (srt c).getD 0 0 := l3 _ (h3 _ hm) ((h4 x hx _).1 hm)
  have hin : cf x ∈ srt c := srt_mem.2 ((h4 x hx _).2 l2)
  have hge : (srt c).getD 0 0 ≤ cf x := by
    have hsort := srt_sorted c
    cases hsc : srt c with
    | nil => rw [hsc] at hl; simp at hl
    | cons y r =>
      rw [hsc] at hin hsort
      simp
      rcases List.mem_cons.1 hin with e | e
      · omega
      · exact (List.pairwise_cons.1 hsort).1 _ e
  omega
theorem cyc_none {adj : Nat → List Nat} {cf : Nat → Nat} {cs : List (List Nat)} (hs : CycSpec adj n cs) (hcf : ∀ x, x < n → LeastOf adj n x (cf x)) {x : Nat} (hx : x < n) (hno : ∀ c ∈ cs, x ∉ c) : cf x = x := by
  apply Classical.byContradiction
  intro e
  obtain ⟨c, hc, hxc⟩ := hs.2.1 x (cf x) e (hcf x hx).2.1
  exact hno c hc hxc

theorem focG_upd (ss : Nat → ByteArray) (cf : Nat → Nat) (seen : List Nat) (x f : Nat) (h : f = cf x) : upd (focG ss cf seen) x (some (.string (ss f))) = focG ss cf (seen ++ [x]) := by
  funext y
  by_cases e : y = x
  · subst e
    rw [upd_same]
    simp [focG, h]
  · rw [upd_other _ _ e]
    simp [focG, e]

set_option maxRecDepth 1000000 in
set_option maxHeartbeats 4000000 in
theorem stage21 {adj : Nat → List Nat} {cf : Nat → Nat} (hcf : ∀ x, x < n → LeastOf adj n x (cf x))
    (hcyc : ∀ (w : World) (cb sz : Nat) (la : Nat → Option Addr) (lc : Nat → Nat), KidMap w cb sz n ss adj la lc → (∃ i, adj i ≠ []) → Calls Try.prog 27 #[.map (some cb)] w fun e w' => CycRes w w' ss adj n e ∧ Below w.heap.size w w')
    (hnext : S31 w cb n ss adj cf Post) : S21 w cb n ss adj Post := by
  intro wk pb hb sz la2 lc2 hbel hp hkm hex y1 y4 y5 y7 y8 y9 y10 y11 y12 y13 y14 y15 y16 y17 y18 y19 y20 y21 y22 y23 y24 y25 y26 y27 y28 y29 y30 y31 y32 y33 y34 y35 y36 y37 y38 y39 y40 y41 y42 y43 y44 y45 y46 y47 y48 y49 y50 y51 y52 y53 y54 y55 y56 y57 y58 y59 y60 y61 y62 y63 y64 y65 y66 y67 y68 y69 y70 y71 y72 y73 y74 y75 y76 y77 y78 y79 y80 y81 y82 y83 y84 y85 y86 y87 y88 y89 y90 y91 y92 y93 y94 y95 y96 y97 y98 y99 y100 y101 y102 y103 y104 y105 y106 y107 y108 y109 y110 y111 y112 y113 y114 y115 y116 y117 y118 y119 y120 y121 y122 y123 y124 y125 y126 y127 y128 y129 y130 y131 y132 y133 y134 y135 y136 y137 y138 y139 y140 y141 y142 y143 y144 y145 y146 y147 y148 y149 y150 y151 y152 y153 y154 y155 y156 y157 y158 y159 y160 y161 y162 y163 y164 y165 y166 y167 y168 y169 y170 y171 y172 y173 y174 y175 y176 y177 y178 y179 y180 y181 y182 y183 y184 y185 y186 y187 y188 y189 y190 y191 y192 y193 y194 y195 y196 y197 y198 y199 y200 y201 y202 y203 y204 y205 y206 y207 y208 y209 y210 y211 y212 y213 y214 y215 y216 y217 y218 y219 y220 y221 y222 y223 y224 y225 y226 y227 y228 y229 y230 y231 y232 y233 y234 y235 y236 y237 y238 y239 y240 y241 y242 y243 y244 y245 y246 y247 y248 y249 y250 y251 y252 y253 y254 y255 y256 y257 y258 y259 y260 y261 y262 y263 y264 y265 y266 y267 y268 y269 y270 y271 y272 y273 y274 y275 y276 y277 y278 y279 y280 y281 y282 y283 y284 y285 y286 y287 y288 y289 y290 y291 y292 y293 y294 y295 y296 y297 y298 y299 y300 y301 y302 y303 y304 y305 y306 y307 y308 y309 y310 y311 y312 y313 y314 y315 y316 y317 y318 y319 y320 y321 y322 y323 y324 y325 y326 y327 y328 y329 y330 y331 y332 y333 y334 y335 y336 y337 y338 y339 y340 y341 K hK
  have HN : Hid (S31 w cb n ss adj cf Post) := hnext
  have HB : Hid (Below w.heap.size w wk) := hbel
  have HP : Hid (Place wk pb n ss) := hp
  have HKM : Hid (KidMap wk hb sz n ss adj la2 lc2) := hkm
  have Hcf : Hid (∀ x, x < n → LeastOf adj n x (cf x)) := hcf
  have hba : Below wk.heap.size wk (wk.alloc (.map #[] 0)) := (Below.refl _ _).alloc (Nat.le_refl _) _
  have hcall := hcyc (wk.alloc (.map #[] 0)) hb sz la2 lc2 (hkm.below hba) hex
  have hn := hkm.nle
  clear hcyc hnext hbel hp hkm hex hcf
  have hr := rfl (a := rest25 21)
  conv at hr => lhs; whnf
  rw [← hr] at hK
  clear hr
  conv => arg 2; whnf
  have hmk := makeMap57n
  go_wp2_with fail
  refine hcall.mono ?_
  rintro e w1 ⟨⟨v, es, cs, rfl, hrow, hels, hspec⟩, hbel1⟩
  have Hspec : Hid (CycSpec adj n cs) := hspec
  obtain ⟨a, c, bb, cp, rfl, hrows, hlo, hcells⟩ := cycRows hrow hels hspec.2.2
  have HM0 : Hid (SMap w1 wk.heap.size 0 (nmF ss n (focG ss cf []))) := ((SMap.made wk).keep (KB.of (fun _ => False) hbel1) id).congr (fun s _ => by
    unfold nmF
    cases idxOf ss n s with
    | none => rfl
    | some j => simp [focG])
  have HR : Hid (CycRows w1 a ss cs bb cp) := hrows
  have Hbb : Hid ((∀ b off, a = some ⟨b, off, none⟩ → 0 < cs.length → b ≠ wk.heap.size) ∧ ∀ j, j < cs.length → bb j ≠ wk.heap.size) := by
    refine ⟨fun b off e h0 eb => ?_, fun j hj => ?_⟩
    · obtain ⟨cur, t, hh | hh⟩ := hcells b off e
      · obtain ⟨D, ⟨es', ck, hm, _⟩, _⟩ := HM0.out
        rw [eb, hm] at hh
        cases hh
      · omega
    · have := hlo j hj
      simp at this
      omega
  have Hb1 : Hid (Below wk.heap.size wk w1) := hba.trans (hbel1.mono (by simp))
  have hcsl := hspec.2.2
  clear hrow hels hspec hrows hlo hcells hbel1 hba hmk hcall
  go_wp2_with fail
  go_loopw [15, 17, 110] (fun _ _ vj wx => ∃ (j szf : Nat) (seen : List Nat), j ≤ cs.length ∧ vj = .int .i64 j ∧ Hid (szf ≤ j * 4096) ∧ Hid (SMap wx wk.heap.size szf (nmF ss n (focG ss cf seen))) ∧ Hid (∀ x, x ∈ seen ↔ ∃ q, q < j ∧ x ∈ cs.getD q []) ∧ Hid (KB (fun k => k = wk.heap.size) w1 wx)) (fun _ _ vj _ => cs.length - (intOf vj).toNat)
  case atStart => exact ⟨0, 0, [], Nat.zero_le _, rfl, by (show 0 ≤ _; omega), HM0, (fun x => by simp), KB.refl _ _⟩
  case round =>
    obtain ⟨j, szf, seen, hj, rfl, Hsz, HMp, Hseen, Hkb⟩ := hrel
    have hrow := HR.out.keep Hkb.out (fun b off e h0 eb => Hbb.out.1 b off e h0 eb) (fun q hq eb => Hbb.out.2 q hq eb)
    by_cases hlt : j < cs.length
    · obtain ⟨b1, o1, _, hix1, hc1⟩ := hrow.outer.elem23 hlt c
      obtain ⟨hpos, hin⟩ := hrow.inner j hlt
      have hcm : cs.getD j [] ∈ cs := by rw [List.getD_eq_getElem?_getD, List.getElem?_eq_getElem hlt]; exact List.getElem_mem hlt
      have hcl : (cs.getD j []).length ≤ 4096 := by
        obtain ⟨_, h2, h3, _⟩ := Hspec.out.1 _ hcm
        have := nodup_len n _ h2 h3
        omega
      have Hcm : Hid (cs.getD j [] ∈ cs) := hcm
      obtain ⟨cy, hcy⟩ : ∃ cy, cy = cs.getD j [] := ⟨_, rfl⟩
      have Hcy : Hid (cy = cs.getD j []) := hcy
      have Hin : Hid (SlAt wr (some ⟨bb j, 0, none⟩) cy.length (fun q => .string (ss ((srt cy).getD q 0)))) := by rw [hcy]; exact hin
      rw [← hcy] at hc1 hpos hcl
      clear hrow hin hcm hcy
      go_wp2_with fail
      go_loopw [17, 116] (fun _ vt wx => ∃ (t szf : Nat) (seen : List Nat), t ≤ cy.length ∧ vt = .int .i64 t ∧ Hid (szf ≤ j * 4096 + t) ∧ Hid (SMap wx wk.heap.size szf (nmF ss n (focG ss cf seen))) ∧ Hid (∀ x, x ∈ seen ↔ (∃ q, q < j ∧ x ∈ cs.getD q []) ∨ x ∈ (srt cy).take t) ∧ Hid (KB (fun k => k = wk.heap.size) wr wx)) (fun _ vt _ => cy.length - (intOf vt).toNat)
      case atStart => exact ⟨0, szf, seen, Nat.zero_le _, rfl, Hsz, HMp, (fun x => by rw [Hseen.out x]; simp), KB.refl _ _⟩
      case round =>
        obtain ⟨t, szf2, seen2, ht, rfl, Hsz2, HMp2, Hseen2, Hkb2⟩ := hrel
        clear hc1 HMp Hsz
        by_cases hlt2 : t < cy.length
        · have hin2 := Hin.out.keep Hkb2.out (fun b off e eb => Hbb.out.2 j hlt (by have := congrArg Addr.block (Option.some.inj e); simp at this; rw [this]; exact eb))
          obtain ⟨b2, o2, _, hix2, hc2⟩ := hin2.elem22 hlt2 (cp j)
          obtain ⟨b3, o3, _, hix3', hc3⟩ := hin2.elem22 hpos (cp j)
          have hix3 : ∀ w : World, (Instr.indexAt 22 (.slice (some ⟨bb j, 0, none⟩) cy.length (cp j)) (.int .i64 0)).run Try.prog w = .ok (.pointer (some ⟨b3, o3, none⟩)) w := hix3'
          have hsl : t < (srt cy).length := by rw [srt_length]; exact hlt2
          obtain ⟨x, hx⟩ : ∃ x, x = (srt cy).getD t 0 := ⟨_, rfl⟩
          obtain ⟨f, hf⟩ : ∃ f, f = (srt cy).getD 0 0 := ⟨_, rfl⟩
          have hxm : x ∈ cy := by
            rw [hx, ← srt_mem, List.getD_eq_getElem?_getD, List.getElem?_eq_getElem hsl]
            exact List.getElem_mem hsl
          have hxn : x < n := (Hspec.out.1 cy (by rw [Hcy.out]; exact Hcm.out)).2.2.1 x hxm
          have hfx : f = cf x := by rw [hf]; exact cyc_first Hspec.out Hcf.out (by rw [Hcy.out]; exact Hcm.out) hxm
          rw [← hx] at hc2
          rw [← hf] at hc3
          obtain ⟨w2, hrun, hm2, hg2⟩ := HMp2.out.update Try.underlying57 (HKM.out.nsz x) (by have := Hsz2.out; unfold maxLen; omega) (.string (ss f))
          have HM3 : Hid (∃ sz3, sz3 ≤ j * 4096 + (t + 1) ∧ SMap w2 wk.heap.size sz3 (nmF ss n (focG ss cf (seen2 ++ [x])))) := by
            have h1 := Hsz2.out
            refine ⟨_, ?_, hm2.congr (fun s _ => by rw [nmF_upd HKM.out.inj hxn, focG_upd ss cf seen2 x f hfx])⟩
            split <;> omega
          have Hk3 : Hid (KB (fun k => k = wk.heap.size) _ w2) := Hkb2.out.trans (KB.ofGrown hg2) (fun _ _ e => e)
          have Hs3 : Hid (∀ y, y ∈ seen2 ++ [x] ↔ (∃ q, q < j ∧ y ∈ cs.getD q []) ∨ y ∈ (srt cy).take (t + 1)) := fun y => by
            have e1 : (srt cy).take (t + 1) = (srt cy).take t ++ [x] := by
              rw [List.take_add_one, List.getElem?_eq_getElem hsl, hx, List.getD_eq_getElem?_getD, List.getElem?_eq_getElem hsl]
              rfl
            rw [e1, List.mem_append, List.mem_append, Hseen2.out y, or_assoc]
          clear hm2 hg2 hin2 hx hf hfx hix3' hsl
          go_wp2_with fail
          go_roundw
          case rel =>
            obtain ⟨sz3, h1, h2⟩ := HM3.out
            exact ⟨t + 1, sz3, seen2 ++ [x], by omega, by go_num, h1, h2, Hs3, Hk3⟩
          case measure => simp [intOf]; omega
        · obtain rfl : t = cy.length := by omega
          have Hs3 : Hid (∀ y, y ∈ seen2 ↔ ∃ q, q < j + 1 ∧ y ∈ cs.getD q []) := fun y => by
            have e1 : (srt cy).take cy.length = srt cy := by rw [← srt_length cy, List.take_length]
            rw [Hseen2.out y, e1, srt_mem, Hcy.out]
            constructor
            · rintro (⟨q, h1, h2⟩ | h)
              · exact ⟨q, by omega, h2⟩
              · exact ⟨j, by omega, h⟩
            · rintro ⟨q, h1, h2⟩
              by_cases e : q = j
              · subst e; exact Or.inr h2
              · exact Or.inl ⟨q, by omega, h2⟩
          have Hsz3 : Hid (szf2 ≤ (j + 1) * 4096) := by
            have := Hsz2.out
            show szf2 ≤ (j + 1) * 4096
            omega
          go_wp2_with fail
          go_roundw
          case rel => exact ⟨j + 1, szf2, seen2, by omega, by go_num, Hsz3, HMp2, Hs3, Hkb.out.trans Hkb2.out (fun _ _ e => e)⟩
          case measure => simp [intOf]; omega
    · obtain rfl : j = cs.length := by omega
      clear hrow
      have Hbf : Hid (Below wk.heap.size wk wr) := Hb1.out.trans (Hkb.out.toBelow Hb1.out.size (fun k hk e => by omega))
      have Hno : Hid (∀ x, x < n → x ∉ seen → cf x = x) := fun x hx hns => cyc_none Hspec.out Hcf.out hx (fun c hc hxc => hns ((Hseen.out x).2 (by
        obtain ⟨q, hq, e⟩ := List.getElem_of_mem hc
        exact ⟨q, hq, by rw [List.getD_eq_getElem?_getD, List.getElem?_eq_getElem hq]; simp [e, hxc]⟩)))
      go_upto_region 31 with fail
      exact HN.out wr pb hb sz wk.heap.size szf la2 lc2 seen (HB.out.trans (Hbf.out.mono HB.out.size)) (HP.out.below Hbf.out) (HKM.out.below Hbf.out) HMp.out Hno.out _ _ _ _ _ _ _ _ _ _ _ _ _ _ _ _ _ _ _ _ _ _ _ _ _ _ _ _ _ _ _ _ _ _ _ _ _ _ _ _ _ _ _ _ _ _ _ _ _ _ _ _ _ _ _ _ _ _ _ _ _ _ _ _ _ _ _ _ _ _ _ _ _ _ _ _ _ _ _ _ _ _ _ _ _ _ _ _ _ _ _ _ _ _ _ _ _ _ _ _ _ _ _ _ _ _ _ _ _ _ _ _ _ _ _ _ _ _ _ _ _ _ _ _ _ _ _ _ _ _ _ _ _ _ _ _ _ _ _ _ _ _ _ _ _ _ _ _ _ _ _ _ _ _ _ _ _ _ _ _ _ _ _ _ _ _ _ _ _ _ _ _ _ _ _ _ _ _ _ _ _ _ _ _ _ _ _ _ _ _ _ _ _ _ _ _ _ _ _ _ _ _ _ _ _ _ _ _ _ _ _ _ _ _ _ _ _ _ _ _ _ _ _ _ _ _ _ _ _ _ _ _ _ _ _ _ _ _ _ _ _ _ _ _ _ _ _ _ _ _ _ _ _ _ _ _ _ _ _ _ _ _ _ _ _ _ _ _ _ _ _ _ _ _ _ _ _ _ _ _ _ _ _ _ _ _ _ _ _ _ _ _ _ _ _ _ _ _ _ _ _ _ _ _ _ _ _ _ _ _ _ _ _ _ _ _ _ _ _ _ _ _ _ _ _ _ _ _ _ _ _ _ _ _ _ _ _ _ (by assumption)
end Go.Proofs.Qxb6605609a

