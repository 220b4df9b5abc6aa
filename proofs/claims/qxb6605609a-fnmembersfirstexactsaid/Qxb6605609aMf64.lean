/-
  membersFirst: regions 64 to 86.
-/
import Derived.Test.Qxb6605609aMfHeap
import Derived.Test.Qxb6605609aMf43
import Derived.Deep.LoopGhost
namespace Go.Proofs.Qxb6605609a
open Go.RowKit
variable {w : World} {cb n : Nat} {gb : Nat → Nat} {ss : Nat → ByteArray} {la : Nat → Option Addr} {ln lc : Nat → Nat} {ms : Nat → Nat → ByteArray} {Post : Ending → World → Prop}

theorem flat_len {f : Nat → List Nat} {b : Nat} (hf : ∀ x, (f x).length ≤ b) : ∀ D : List Nat, (D.flatMap f).length ≤ D.length * b
  | [] => by simp
  | x :: r => by
    have h1 := flat_len hf r
    have h2 := hf x
    rw [List.flatMap_cons, List.length_append, List.length_cons, Nat.succ_mul]
    omega
theorem partL_len (cf : Nat → Nat) {n : Nat} (hn : n ≤ 4096) (p : Nat) : (partL cf n p).length ≤ 4096 := by
  have h1 : (partL cf n p).length ≤ (List.range n).length := List.length_filter_le _ _
  simp at h1
  omega
theorem missing_le (D l : List Nat) : missing D l ≤ l.length := List.length_filter_le _ _

theorem cell_blk {W : World} {b : Nat} {v : Value} {t : TypeId} (h : W.heap[b]? = some (.cells #[v] t)) : W.cell? ⟨b, 0, none⟩ = some v ∧ W.frozen? ⟨b, 0, none⟩ = false := by simp [World.cell?, World.frozen?, h]

theorem MS.start {w4 wk wr w6 : World} {wb hob qb m : Nat} {val : Nat → Value} {hol wl : Nat → List Nat} {hv : Value} {l : List Nat} (HH : HP wr wk.heap.size qb hv l) (HWS : wk.rowIs wb 3 m (fun p => .int .i64 (((wl p).length : Nat) : Int))) (HG : Grid wk hob m w4.heap.size val hol) (HGW : ¬ GridIn hob m val wb) (Hbw : Below wk.heap.size wk wr) (HBK : Below w4.heap.size w4 wk) (hwb4 : w4.heap.size ≤ wb) (hk6 : KB (fun _ => False) wr w6)
    (hrow6 : w6.ownsRow 0 50 5 (.slice (some ⟨wr.heap.size, 0, none⟩) 0 n) 0 []) : MS gb w4 wk w6 wb hob qb m val hol hv l (fun x => ((wl x).length : Int)) (.slice (some ⟨wr.heap.size, 0, none⟩) 0 n) [] := by
  refine ⟨HH.keep hk6 (fun _ _ h => h) id, rowIs_keep (HWS.of_block (Hbw.block wb HWS.lt)) hk6 id, (HG.keep (KB.of (fun _ => False) Hbw) (fun _ _ h => h)).keep hk6 (fun _ _ h => h), hrow6, fun k e => ?_, HBK.trans ((Hbw.trans (hk6.toBelow Hbw.size (fun _ _ h => h))).mono HBK.size), Nat.le_trans Hbw.size hk6.size, ⟨hwb4, HWS.lt, HBK.size⟩, fun k hg => ⟨HG.lt hg, fun e => HGW (e ▸ hg)⟩⟩
  simp [Value.ownBlock] at e
  subst e
  refine ⟨Hbw.size, fun e => ?_⟩
  rcases e with e | e
  · have := HH.lt; omega
  · have := (World.ownsRow.lt HH.own _ e).2; omega

/-- Those that wait for none among the first p. -/
def freeL (wl : Nat → List Nat) (p : Nat) : List Nat := (List.range p).filter fun x => decide (wl x = [])
theorem freeL_succ (wl : Nat → List Nat) (p : Nat) : freeL wl (p + 1) = if wl p = [] then freeL wl p ++ [p] else freeL wl p := by
  unfold freeL
  rw [List.range_succ, List.filter_append]
  by_cases e : wl p = [] <;> simp [e]

theorem Grid.slAt {wx : World} {ob m lo : Nat} {val : Nat → Value} {L : Nat → List Nat} (h : Grid wx ob m lo val L) {p c : Nat} {a : Option Addr} (hp : p < m) (ev : val p = .slice a (L p).length c) (hl : (L p).length ≤ 4096) : SlAt wx a (L p).length (fun j => .int .i64 (((L p).getD j 0 : Nat) : Int)) := by
  obtain ⟨a', c', e, hs⟩ := ints_slAt (by omega) (h.own p hp)
  rw [ev] at e
  injection e with e1
  rw [e1]
  exact hs

/-- The start of the telling. -/
theorem Kahn.first {m : Nat} {wl : Nat → List Nat} {l : List Nat} (hl : l.Perm (freeL wl m)) : Kahn m wl [] l [] (fun p => ((wl p).length : Int)) := by
  refine (Kahn.start (H := freeL wl m) ?_ (fun p => ?_) (fun p _ => rfl)).permH hl.symm
  · exact List.Pairwise.filter _ List.nodup_range
  · simp [freeL]

set_option maxRecDepth 1000000 in
set_option maxHeartbeats 8000000 in
theorem stage64 {adj : Nat → List Nat} {cf : Nat → Nat} {ok : List Nat → Prop} {Hp : List Nat → Prop} {le : Nat → Nat → Prop} (hM : MF w cb n gb ss la ln lc ms) (hcf : ∀ x, x < n → LeastOf adj n x (cf x)) (hadj : ∀ i, ∀ j ∈ adj i, j < n) (hL : HeapLaw Hp le) (hE : Ends w gb ok Post)
    (hok : ∀ (wl hol : Nat → List Nat) (D : List Nat) (ws : Nat → Int), Waits adj cf n (rnk cf n) wl hol → Kahn (rnk cf n) wl D [] [] ws → Lst le (rnk cf n) wl D → ok (D.flatMap (partL cf n)) ∧ (D.flatMap (partL cf n)).length ≤ 4096) : S64 w cb n adj cf Post := by
  intro wk w4 pb hb fb pfb m pc wb hob pa va vc val wl hol hb4 hbk hwb4 hmr hrows hws hgr hgw hho hwt y1 y4 y5 y7 y8 y9 y10 y11 y12 y14 y15 y16 y17 y20 y21 y22 y23 y26 y27 y28 y29 y30 y31 y32 y33 y34 y35 y36 y37 y38 y39 y40 y41 y42 y43 y44 y45 y46 y47 y48 y49 y50 y51 y52 y53 y54 y55 y56 y57 y58 y59 y60 y61 y62 y63 y64 y65 y66 y67 y68 y69 y70 y71 y72 y73 y74 y75 y76 y77 y78 y79 y80 y81 y82 y83 y84 y85 y86 y87 y88 y89 y90 y91 y92 y93 y94 y95 y96 y97 y98 y99 y100 y101 y102 y103 y104 y105 y106 y107 y108 y109 y110 y111 y112 y113 y114 y115 y116 y117 y118 y119 y120 y121 y122 y123 y124 y125 y126 y127 y128 y129 y130 y131 y132 y133 y134 y135 y136 y137 y138 y139 y140 y141 y142 y143 y144 y145 y146 y147 y148 y149 y150 y151 y152 y153 y154 y155 y156 y157 y158 y159 y160 y161 y162 y163 y164 y165 y166 y167 y168 y169 y170 y171 y172 y173 y174 y175 y176 y177 y178 y179 y180 y181 y182 y183 y184 y185 y186 y187 y188 y189 y190 y191 y192 y193 y194 y195 y196 y197 y198 y199 y200 y201 y202 y203 y204 y205 y206 y207 y208 y209 y210 y211 y212 y213 y214 y215 y216 y217 y218 y219 y220 y221 y222 y223 y224 y225 y226 y227 y228 y229 y230 y231 y232 y233 y234 y235 y236 y237 y238 y239 y240 y241 y242 y243 y244 y245 y246 y247 y248 y249 y250 y251 y252 y253 y254 y255 y256 y257 y258 y259 y260 y261 y262 y263 y264 y265 y266 y267 y268 y269 y270 y271 y272 y273 y274 y275 y276 y277 y278 y279 y280 y281 y282 y283 y284 y285 y286 y287 y288 y289 y290 y291 y292 y293 y294 y295 y296 y297 y298 y299 y300 y301 y302 y303 y304 y305 y306 y307 y308 y309 y310 y311 y312 y313 y314 y315 y316 y317 y318 y319 y320 y321 y322 y323 y324 y325 y326 y327 y328 y329 y330 y331 y332 y333 y334 y335 y336 y337 y338 y339 y340 y341 K hK
  have HM : Hid (MF w cb n gb ss la ln lc ms) := hM
  have HL : Hid (HeapLaw Hp le) := hL
  have HE : Hid (Ends w gb ok Post) := hE
  have HO : Hid (∀ (wl hol : Nat → List Nat) (D : List Nat) (ws : Nat → Int), Waits adj cf n m wl hol → Kahn m wl D [] [] ws → Lst le m wl D → ok (D.flatMap (partL cf n)) ∧ (D.flatMap (partL cf n)).length ≤ 4096) := by rw [hmr]; exact hok
  have HB4 : Hid (Below w.heap.size w w4) := hb4
  have HBK : Hid (Below w4.heap.size w4 wk) := hbk
  have HR : Hid (IRows w4 pa m va vc (partL cf n)) := hrows
  have HWS : Hid (wk.rowIs wb 3 m (fun p => .int .i64 (((wl p).length : Nat) : Int))) := hws
  have HG : Hid (Grid wk hob m w4.heap.size val hol) := hgr
  have HGW : Hid (¬ GridIn hob m val wb) := hgw
  have HWT : Hid (Waits adj cf n m wl hol) := hwt
  have Hwln : Hid (∀ q y, q < m → y ∈ wl q → y < m) := fun q y hq hy => by
    obtain ⟨_, i, hi, _, j, hj, e⟩ := (hwt.mem q y hq).1 hy
    rw [← e, hmr]
    exact pof_lt hcf (hadj i j hj) (Nat.le_refl _)
  have hn := hM.nle
  have hm : m ≤ 4096 := by have := rnk_le cf n; omega
  obtain ⟨i3, hp0, hq0, hq1, hq2⟩ := info_parts info3
  obtain ⟨i5, hr0, hs0, hs1, hs2⟩ := info_parts info50
  have ha3 := assert3
  clear hM hL hE hok hcf hadj hb4 hbk hrows hws hgr hgw hwt hmr
  have hr := rfl (a := rest25 64)
  conv at hr => lhs; whnf
  rw [← hr] at hK
  clear hr
  conv => arg 2; whnf
  go_wp2_with fail
  obtain ⟨qb, hqb⟩ : ∃ qb, qb = wk.heap.size + 1 := ⟨_, rfl⟩
  rw [← hqb]
  have H0 : Hid (HP ((wk.alloc (.cells #[] 3)).alloc (.cells #[.slice (some ⟨wk.heap.size, 0, none⟩) 0 0] 61)) wk.heap.size qb (.slice (some ⟨wk.heap.size, 0, none⟩) 0 0) []) := by
    rw [hqb]
    have e1 : (wk.alloc (.cells #[] 3)).heap.size = wk.heap.size + 1 := by simp
    have hh := heap_alloc_new (wk.alloc (.cells #[] 3)) (.cells #[.slice (some ⟨wk.heap.size, 0, none⟩) 0 0] 61)
    rw [e1] at hh
    have hh0 : ((wk.alloc (.cells #[] 3)).alloc (.cells #[.slice (some ⟨wk.heap.size, 0, none⟩) 0 0] 61)).heap[wk.heap.size]? = some (.cells #[] 3) := by
      rw [heap_alloc_lt _ _ (by simp)]
      exact heap_alloc_new wk _
    refine ⟨(cell_blk hh).1, (cell_blk hh).2, ⟨by simp [ints], Or.inr ⟨wk.heap.size, 0, #[], rfl, Nat.le_refl _, hh0, Nat.le_refl _, Nat.zero_le _, rfl, rfl⟩⟩, fun k e => by simp [Value.ownBlock] at e; omega, by simp, by omega⟩
  have Hb0 : Hid (Below wk.heap.size wk ((wk.alloc (.cells #[] 3)).alloc (.cells #[.slice (some ⟨wk.heap.size, 0, none⟩) 0 0] 61))) := ((Below.refl _ _).alloc (Nat.le_refl _) _).alloc (by simp) _
  clear hqb
  go_loopw [35, 272] (fun _ v wx => ∃ (p : Nat) (hv : Value) (l : List Nat), p ≤ m ∧ v = .int .i64 p ∧ Hid (HP wx wk.heap.size qb hv l) ∧ Hid (l.Perm (freeL wl p)) ∧ Hid (Hp l) ∧ Hid (Below wk.heap.size wk wx)) (fun _ v _ => m - (intOf v).toNat)
  case atStart => exact ⟨0, _, [], Nat.zero_le _, rfl, H0, (by show [].Perm _; simp [freeL]), HL.out.nil, Hb0⟩
  case round =>
    obtain ⟨p, hv, l, hp, rfl, HH, Hpm, HHp, Hbw⟩ := hrel
    clear H0 Hb0
    by_cases hlt : p < m
    · have hcw := (HWS.out.of_block (Hbw.out.block wb HWS.out.lt)).cell hlt
      have hxw := fun w => elem43 (b := wb) (c := m) hlt w
      have hll : l.length ≤ 4096 := by
        have h1 := Hpm.out.length_eq
        have h2 : (freeL wl p).length ≤ (List.range p).length := List.length_filter_le _ _
        simp at h2
        omega
      by_cases he : wl p = []
      · have hcw0 : wr.cell? ⟨wb, p, none⟩ = some (.int .i64 0) := by rw [hcw, he]; rfl
        have Hpm2 : Hid ((upL (l ++ [p]) l.length).Perm (freeL wl (p + 1))) := by
          show (upL (l ++ [p]) l.length).Perm (freeL wl (p + 1))
          rw [freeL_succ, if_pos he]
          exact (upL_perm _ _ (by simp)).trans (Hpm.out.append_right _)
        have HHp2 : Hid (Hp (upL (l ++ [p]) l.length)) := HL.out.push l p HHp.out
        clear hcw he
        go_wp2_with fail
        refine (push28 wk.heap.size qb p hv l wr HH.out (by omega) Hbw.out.size).mono ?_
        rintro e w5 ⟨rfl, hv', h1, h2, h3⟩
        have HH2 : Hid (HP w5 wk.heap.size qb hv' (upL (l ++ [p]) l.length)) := h1
        have Hb2 : Hid (Below wk.heap.size wk w5) := Hbw.out.trans (h2.toBelow Hbw.out.size (fun k hk e => by
          rcases e with e | e
          · have := HH.out.low; omega
          · have := (World.ownsRow.lt HH.out.own k e).1; omega))
        clear h1 h2 h3
        go_wp2_with fail
        go_roundw
        case rel => exact ⟨p + 1, hv', _, by omega, by go_num, HH2, Hpm2, HHp2, Hb2⟩
        case measure => simp [intOf]; omega
      · have hpos : 0 < (wl p).length := List.length_pos_iff.2 he
        obtain ⟨z, hz⟩ : ∃ z, z = (wl p).length := ⟨_, rfl⟩
        rw [← hz] at hcw hpos
        have hd : ((z : Int) == 0) = false := by simp; omega
        have Hpm2 : Hid (l.Perm (freeL wl (p + 1))) := by
          show l.Perm (freeL wl (p + 1))
          rw [freeL_succ, if_neg he]
          exact Hpm.out
        clear he hz
        go_wp2_with fail
        go_roundw
        case rel => exact ⟨p + 1, hv, l, by omega, by go_num, HH, Hpm2, HHp, Hbw⟩
        case measure => simp [intOf]; omega
    · obtain rfl : p = m := by omega
      have Hlow : Hid (∀ k, HB qb hv k → wk.heap.size ≤ k ∧ k < wr.heap.size) := fun k e => by
        rcases e with e | e
        · rw [e]; exact ⟨HH.out.low, HH.out.lt⟩
        · exact World.ownsRow.lt HH.out.own k e
      go_wp2_with (at_make; refine wpList_make_own _ rfl _ _ 37 rfl 0 50 i5 (.agg #[.int .i64 0, .pointer none, .pointer none, .pointer none, .pointer none]) 5 Try.underlying37 hr0 hs0 hs1 _ _ _ n rfl rfl rfl (by rw [hs2]; omega) (by unfold maxLen; omega) (Nat.zero_le _) ?_; intro w6 hrow6 hg6; have hk6 : KB (fun _ => False) wr w6 := (KB.refl (fun _ => False) wr).grown hg6 (fun k e _ => by cases e); have HMS : Hid (MS gb w4 wk w6 wb hob qb p val hol hv l (fun x => ((wl x).length : Int)) (.slice (some ⟨wr.heap.size, 0, none⟩) 0 n) []) := MS.start HH.out HWS.out HG.out HGW.out Hbw.out HBK.out hwb4 hk6 hrow6; clear hrow6 hg6 hk6)
      have HK0 : Hid (Kahn p wl [] l [] (fun x => ((wl x).length : Int))) := Kahn.first Hpm.out
      clear Hpm HH Hbw Hlow
      go_loopg [36, 37, 39, 41] p (fun gk v36 _ _ _ wx => ∃ (D : List Nat) (hv : Value) (l : List Nat) (ws : Nat → Int), Hid (gk = p - D.length) ∧ Hid (MS gb w4 wk wx wb hob qb p val hol hv l ws v36 (D.flatMap (partL cf n))) ∧ Hid (Kahn p wl D l [] ws) ∧ Hid (Lst le p wl D) ∧ Hid (Hp l))
      case atStart => exact ⟨[], hv, l, _, rfl, HMS, HK0, Lst.nil _ _ _, HHp⟩
      case round =>
        obtain ⟨D, hv, l, ws, Hg, HS, HK, HLs, HHp⟩ := hrel
        clear HMS HK0
        have hcq := HS.out.hp.cell
        have hDl : D.length ≤ 4096 := by
          have h1 := HK.out.nd
          rw [List.nodup_append] at h1
          have := nodup_le h1.1 (fun x hx => HK.out.lt x (List.mem_append_left _ hx))
          omega
        have hll : l.length ≤ 4096 := by
          have h1 := HK.out.nd
          rw [List.nodup_append] at h1
          have := nodup_le h1.2.1 (fun x hx => HK.out.lt x (List.mem_append_right _ hx))
          omega
        obtain ⟨ll, hlle⟩ : ∃ ll, ll = l.length := ⟨_, rfl⟩
        have HLL : Hid (ll = l.length) := hlle
        have hlen := len29 wk.heap.size hv l wr HS.out.hp.own
        rw [← hlle] at hlen hll
        clear hlle
        by_cases hl0 : ll = 0
        · have hle0 : l = [] := List.length_eq_zero_iff.1 (by rw [← HLL.out, hl0])
          rw [hle0] at HK
          have hdn := HO.out wl hol D ws HWT.out HK.out HLs.out
          obtain ⟨a, c, ev, ht⟩ := HS.out.told hdn.2
          have Hfin : Hid (Post (.returned u36) wr) := by
            show Post (.returned u36) wr
            rw [ev]
            exact HE.out wr a c _ (HB4.out.trans (HS.out.bel.mono HB4.out.size)) ht hdn.1
          rw [hl0] at hlen
          clear hdn ev ht hle0 HK HS HLs HHp
          go_wp2_with fail
          refine hlen.mono ?_
          rintro e w7 ⟨rfl, rfl⟩
          go_wp2_with fail
          exact Hfin.out
        · obtain ⟨nn, hnn⟩ : ∃ nn, ll = nn + 1 := ⟨ll - 1, by omega⟩
          have hl1 : l.length = nn + 1 := by rw [← HLL.out, hnn]
          obtain ⟨l', x, hds, hpm⟩ := pop_split hl1
          obtain ⟨hHp2, hle2⟩ := HL.out.pop l nn l' x HHp.out hl1 hds
          have hxl : x ∈ l := hpm.mem_iff.2 (List.mem_cons_self ..)
          have hxp : x < p := HK.out.lt x (List.mem_append_right _ hxl)
          have HK2 : Hid (Kahn p wl (D ++ [x]) l' (hol x) ws) := HK.out.pop hpm HWT.out.nd (fun q => HWT.out.hmem x q hxp) (HWT.out.hnd x hxp)
          have HLs2 : Hid (Lst le p wl (D ++ [x])) := HLs.out.snoc HK.out hle2
          have HHp2 : Hid (Hp l') := hHp2
          have hxD : Hid (x ∉ D) := fun h => by
            have h1 := HK.out.nd
            rw [List.nodup_append] at h1
            exact h1.2.2 x h x hxl rfl
          have hpop := pop30 wk.heap.size qb nn x hv l l' wr HS.out.hp hl1 (by omega) hds
          have hd : (0 : Int) < (ll : Int) := by omega
          have hd2 : 0 < ll := by omega
          have HDl : Hid (D.length < p) := by
            have h1 := HK.out.nd
            rw [List.nodup_append] at h1
            have h2 : (x :: D).length ≤ p := nodup_le (List.nodup_cons.2 ⟨hxD.out, h1.1⟩) (fun y hy => by
              rcases List.mem_cons.1 hy with e | e
              · rw [e]; exact hxp
              · exact HK.out.lt y (List.mem_append_left _ e))
            simp at h2
            exact h2
          clear hl0 hnn hl1 hds hpm hHp2 hle2 hxl HK HLs HHp
          go_wp2_with fail
          refine hlen.mono ?_
          rintro e w7 ⟨rfl, rfl⟩
          go_wp2_with fail
          refine hpop.mono ?_
          rintro e w8 ⟨rfl, hps⟩
          obtain ⟨hv2, hMS2⟩ := HS.out.heap hps
          have HS2 : Hid (MS gb w4 wk w8 wb hob qb p val hol hv2 l' ws u36 (D.flatMap (partL cf n))) := hMS2
          have hrw := HR.out.below HS2.out.bel
          obtain ⟨b1, o1, _, hix1, hc1⟩ := hrw.outer.elem40 hxp pc
          obtain ⟨PX, hPX⟩ : ∃ PX, PX = partL cf n x := ⟨_, rfl⟩
          have HPX : Hid (PX = partL cf n x) := hPX
          have hpxl : PX.length ≤ 4096 := by rw [hPX]; exact partL_len cf hn x
          rw [← hPX] at hc1
          clear hPX hps hMS2 hrw hlen hpop HS hcq
          go_wp2_with fail
          clear hc1 hix1
          go_loopw [36, 39, 303] (fun v36 _ v wx => ∃ (t : Nat), t ≤ PX.length ∧ v = .int .i64 t ∧ Hid (MS gb w4 wk wx wb hob qb p val hol hv2 l' ws v36 (D.flatMap (partL cf n) ++ PX.take t))) (fun _ _ v _ => PX.length - (intOf v).toNat)
          case atStart => exact ⟨0, Nat.zero_le _, rfl, (by show MS _ _ _ _ _ _ _ _ _ _ _ _ _ _ _; simpa using HS2.out)⟩
          case round =>
            obtain ⟨t, ht, rfl, HS3⟩ := hrel
            clear HS2
            by_cases hlt3 : t < PX.length
            · have hrw := (HR.out.below HS3.out.bel).inner x hxp
              rw [← HPX.out] at hrw
              obtain ⟨b2, o2, _, hix2, hc2⟩ := hrw.elem43 hlt3 (vc x)
              obtain ⟨i, hi⟩ : ∃ i, i = PX.getD t 0 := ⟨_, rfl⟩
              have him : i ∈ PX := by rw [hi, List.getD_eq_getElem?_getD, List.getElem?_eq_getElem hlt3]; exact List.getElem_mem hlt3
              have hin : i < n := by
                rw [HPX.out] at him
                simp only [partL, List.mem_filter, List.mem_range] at him
                exact him.1
              have Htk : Hid (PX.take (t + 1) = PX.take t ++ [i]) := by
                show PX.take (t + 1) = PX.take t ++ [i]
                rw [List.take_add_one, List.getElem?_eq_getElem hlt3, hi, List.getD_eq_getElem?_getD, List.getElem?_eq_getElem hlt3]
                rfl
              rw [← hi] at hc2
              have hbw : Below w.heap.size w wr := HB4.out.trans (HS3.out.bel.mono HB4.out.size)
              obtain ⟨c0, c1, c2, c3, c4, _, _⟩ := HM.out.cells hbw hin
              have hix := fun w => elem37 (cb := cb) hin w
              obtain ⟨out, hout⟩ : ∃ out, out = D.flatMap (partL cf n) ++ PX.take t := ⟨_, rfl⟩
              have Hout : Hid (out = D.flatMap (partL cf n) ++ PX.take t) := hout
              have hol2 : Hid (out.length ≤ 20000000) := by
                show out.length ≤ 20000000
                have h1 := flat_len (partL_len cf hn) D
                rw [hout, List.length_append, List.length_take]
                have h2 : D.length * 4096 ≤ 4096 * 4096 := Nat.mul_le_mul_right _ hDl
                omega
              rw [← hout] at HS3
              clear hi him hrw hbw hout
              go_wp2_with (at_builtin; refine wpList_append_lies _ (by rfl) _ _ _ (by rfl) 0 50 i5 _ 5 40 Try.underlying37 hr0 hs0 hs1 hs2 rfl (by omega) u36 out.length (chs gb out) (by rfl) (HS3.out.tl.alloc _) ⟨wr.heap.size, 0, none⟩ 1 1 [.int .i64 0, .pointer none, .pointer none, .pointer none, .pointer (some ⟨gb i, 0, none⟩)] (by rfl) (by rfl) (World.news_of_block (cs := #[.int .i64 0, .pointer none, .pointer none, .pointer none, .pointer (some ⟨gb i, 0, none⟩)]) (t := 50) (fr := (0, 0)) (heap_alloc_new _ _)) (by simp [Value.oneCell']) (by omega) (by have := hol2.out; unfold maxLen; omega) (by have := hol2.out; omega) (by simp) (wr.heap.size + 1) (by simp) ?_; intro g1 cap1 x1 hown1 hgrow1 hat1 hltg1; have HS4 : Hid (MS gb w4 wk x1 wb hob qb p val hol hv2 l' ws (.slice (some ⟨g1, 0, none⟩) (out.length + 1) cap1) (out ++ [i])) := HS3.out.tell ((KB.refl _ _).alloc _) hown1 hgrow1 hat1 (by omega); clear hown1 hgrow1 hat1 hltg1)
              go_roundw
              case rel => exact ⟨t + 1, by omega, by go_num, (by show MS _ _ _ _ _ _ _ _ _ _ _ _ _ _ _; rw [Htk.out, ← List.append_assoc, ← Hout.out]; exact HS4.out)⟩
              case measure => simp [intOf]; omega
            · obtain rfl : t = PX.length := by omega
              have HS5 : Hid (MS gb w4 wk wr wb hob qb p val hol hv2 l' ws u36 ((D ++ [x]).flatMap (partL cf n))) := by
                have h0 := HS3.out
                rw [List.take_length, HPX.out] at h0
                show MS _ _ _ _ _ _ _ _ _ _ _ _ _ _ _
                rw [List.flatMap_append, List.flatMap_cons, List.flatMap_nil, List.append_nil]
                exact h0
              clear HS3
              have hhx : (hol x).length ≤ 4096 := by
                have := nodup_le (HWT.out.hnd x hxp) (fun q hq => ((HWT.out.hmem x q hxp).1 hq).1)
                omega
              have hch := HS5.out.gr.row.cell hxp
              have hxh := fun w => elem40 (b := hob) (c := p) hxp w
              obtain ⟨ah, chh, evh, _⟩ := ints_slAt (by omega) (HS5.out.gr.own x hxp)
              have Hev : Hid (val x = .slice ah (hol x).length chh) := evh
              obtain ⟨HX, hHX⟩ : ∃ HX, HX = hol x := ⟨_, rfl⟩
              have HHX : Hid (HX = hol x) := hHX
              rw [evh, ← hHX] at hch
              rw [← hHX] at hhx
              clear hHX evh
              go_wp2_with fail
              clear hch
              go_loopw [41, 320] (fun _ v wx => ∃ (t : Nat) (hv : Value) (l : List Nat) (ws : Nat → Int), t ≤ HX.length ∧ v = .int .i64 t ∧ Hid (MS gb w4 wk wx wb hob qb p val hol hv l ws u36 ((D ++ [x]).flatMap (partL cf n))) ∧ Hid (Kahn p wl (D ++ [x]) l (HX.drop t) ws) ∧ Hid (Hp l)) (fun _ v _ => HX.length - (intOf v).toNat)
              case atStart => exact ⟨0, hv2, l', ws, Nat.zero_le _, rfl, HS5, (by show Kahn _ _ _ _ _ _; rw [List.drop_zero, HHX.out]; exact HK2.out), HHp2⟩
              case round =>
                obtain ⟨t, hv6, l6, ws6, ht, rfl, HS6, HK6, HHp6⟩ := hrel
                clear HS5 HK2 HHp2
                by_cases hlt4 : t < HX.length
                · have hsl := HS6.out.gr.slAt hxp Hev.out (by rw [← HHX.out]; exact hhx)
                  rw [← HHX.out] at hsl
                  obtain ⟨b3, o3, _, hix3, hc3⟩ := hsl.elem43 hlt4 chh
                  obtain ⟨q, hq⟩ : ∃ q, q = HX.getD t 0 := ⟨_, rfl⟩
                  rw [← hq] at hc3
                  have hdrop : HX.drop t = q :: HX.drop (t + 1) := by
                    rw [List.drop_eq_getElem_cons hlt4, hq, List.getD_eq_getElem?_getD, List.getElem?_eq_getElem hlt4]
                    rfl
                  have HK7 : Hid (Kahn p wl (D ++ [x]) l6 (q :: HX.drop (t + 1)) ws6) := by
                    show Kahn p wl (D ++ [x]) l6 (q :: HX.drop (t + 1)) ws6
                    rw [← hdrop]
                    exact HK6.out
                  have hqp : q < p := HK7.out.tlt q (List.mem_cons_self ..)
                  have hwq := HK7.out.cnt q hqp
                  rw [if_pos (List.mem_cons_self ..)] at hwq
                  have hml := missing_le (D ++ [x]) (wl q)
                  have hwln : (wl q).length ≤ 4096 := by
                    have := nodup_le (HWT.out.nd q hqp) (fun y hy => Hwln.out q y hqp hy)
                    omega
                  obtain ⟨z, hz⟩ : ∃ z, z = ws6 q := ⟨_, rfl⟩
                  have hz1 : 1 ≤ z := by omega
                  have hz2 : z ≤ 4097 := by omega
                  have hcw := HS6.out.ws.cell hqp
                  have hfw := HS6.out.ws.frozen q
                  have hxw := fun w => elem43 (b := wb) (c := p) hqp w
                  rw [← hz] at hcw
                  have HS7 : Hid (MS gb w4 wk (wr.setCell ⟨wb, q, none⟩ (.int .i64 (z - 1))) wb hob qb p val hol hv6 l6 (fun y => if y = q then z - 1 else ws6 y) u36 ((D ++ [x]).flatMap (partL cf n))) := HS6.out.setW q (z - 1)
                  have Hho := HK7.out.hold
                  rw [← hz] at Hho
                  have HHo : Hid ((z - 1 = 0 → Kahn p wl (D ++ [x]) (l6 ++ [q]) (HX.drop (t + 1)) (fun y => if y = q then z - 1 else ws6 y)) ∧ (z - 1 ≠ 0 → Kahn p wl (D ++ [x]) l6 (HX.drop (t + 1)) (fun y => if y = q then z - 1 else ws6 y))) := Hho
                  have hl6 : l6.length ≤ 4096 := by
                    have h1 := HK7.out.nd
                    rw [List.nodup_append] at h1
                    have := nodup_le h1.2.1 (fun x hx => HK7.out.lt x (List.mem_append_right _ hx))
                    omega
                  clear hsl hq hdrop HK6 hwq hml hwln hz Hho HK7
                  by_cases hz0 : z = 1
                  · have HK8 : Hid (Kahn p wl (D ++ [x]) (upL (l6 ++ [q]) l6.length) (HX.drop (t + 1)) (fun y => if y = q then z - 1 else ws6 y)) := (HHo.out.1 (by omega)).permH (upL_perm _ _ (by simp)).symm
                    have HHp8 : Hid (Hp (upL (l6 ++ [q]) l6.length)) := HL.out.push l6 q HHp6.out
                    subst hz0
                    have hcw2 : (wr.setCell ⟨wb, q, none⟩ (.int .i64 0)).cell? ⟨wb, q, none⟩ = some (.int .i64 0) := World.cell?_setCell_same _ _ _ hcw
                    have HS7' : Hid (MS gb w4 wk (wr.setCell ⟨wb, q, none⟩ (.int .i64 0)) wb hob qb p val hol hv6 l6 (fun y => if y = q then 1 - 1 else ws6 y) u36 ((D ++ [x]).flatMap (partL cf n))) := HS7
                    clear HS7 HHo
                    go_wp2_with fail
                    refine (push28 wk.heap.size qb q hv6 l6 _ HS7'.out.hp (by omega) HS7'.out.sz).mono ?_
                    rintro e w9 ⟨rfl, hps⟩
                    obtain ⟨hv9, hMS9⟩ := HS7'.out.heap hps
                    have HS9 : Hid (MS gb w4 wk w9 wb hob qb p val hol hv9 (upL (l6 ++ [q]) l6.length) (fun y => if y = q then 1 - 1 else ws6 y) u36 ((D ++ [x]).flatMap (partL cf n))) := hMS9
                    clear hps hMS9
                    go_wp2_with fail
                    go_roundw
                    case rel => exact ⟨t + 1, hv9, _, _, by omega, by go_num, HS9, HK8, HHp8⟩
                    case measure => simp [intOf]; omega
                  · have HK8 : Hid (Kahn p wl (D ++ [x]) l6 (HX.drop (t + 1)) (fun y => if y = q then z - 1 else ws6 y)) := HHo.out.2 (by omega)
                    have hd0 : ((z - 1) == 0) = false := by simp; omega
                    clear HHo
                    go_wp2_with fail
                    go_roundw
                    case rel => exact ⟨t + 1, hv6, l6, _, by omega, by go_num, HS7, HK8, HHp6⟩
                    case measure => simp [intOf]; omega
                · obtain rfl : t = HX.length := by omega
                  have HK8 : Hid (Kahn p wl (D ++ [x]) l6 [] ws6) := by
                    have h0 := HK6.out
                    rw [List.drop_length] at h0
                    exact h0
                  clear HK6
                  go_wp2_with fail
                  go_roundg (p - (D ++ [x]).length)
                  case measure =>
                    rw [Hg.out]
                    have := HDl.out
                    simp
                    omega
                  case rel => exact ⟨D ++ [x], hv6, l6, ws6, rfl, HS6, HK8, HLs2, HHp6⟩
end Go.Proofs.Qxb6605609a

