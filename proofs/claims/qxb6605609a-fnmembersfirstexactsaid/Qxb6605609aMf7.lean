/-
  membersFirst: regions 0 to 20.
-/
import Derived.Test.Qxb6605609aMfDefs
namespace Go.Proofs.Qxb6605609a
open Go.RowKit
variable {w : World} {cb n : Nat} {gb : Nat → Nat} {ss : Nat → ByteArray} {la : Nat → Option Addr} {ln lc : Nat → Nat} {ms : Nat → Nat → ByteArray} {Post : Ending → World → Prop}

set_option maxRecDepth 1000000 in
set_option maxHeartbeats 2000000 in
theorem stage1 (hM : MF w cb n gb ss la ln lc ms) (hnext : S7 w cb n ss Post) : Calls Try.prog 25 #[.slice (some ⟨cb, 0, none⟩) n n] w Post := by
  have HM : Hid (MF w cb n gb ss la ln lc ms) := hM
  have HN : Hid (S7 w cb n ss Post) := hnext
  have hn := hM.nle
  have hmk := makeMap53
  clear hM hnext
  go_enter Try.func25, Try.ntmps25
  go_wp2_with fail
  clear hmk
  go_loopw [4, 5, 47] (fun _ _ v wr => ∃ k : Nat, k ≤ n ∧ v = .int .i64 k ∧ Hid (SMap wr w.heap.size k (fun s => (idxOf ss k s).map fun i : Nat => Value.int .i64 (i : Int))) ∧ Hid (Below w.heap.size w wr)) (fun _ _ v _ => n - (intOf v).toNat)
  case atStart => exact ⟨0, Nat.zero_le _, rfl, SMap.made w, (Below.refl _ _).alloc (Nat.le_refl _) _⟩
  case round =>
    obtain ⟨k, hk, rfl, Hm, Hb⟩ := hrel
    by_cases hlt : k < n
    · obtain ⟨c0, c1, c2, c3, c4, c5, _⟩ := HM.out.cells Hb.out hlt
      have hix := fun w => elem37 (cb := cb) hlt w
      have hba : ∀ o, Below wr.heap.size wr (wr.alloc o) := fun o => (Below.refl _ _).alloc (Nat.le_refl _) _
      have c5' : ∀ o, (wr.alloc o).cell? ⟨gb k, 0, none⟩ = some (.string (ss k)) := fun o => ((hba o).cell (World.block_lt_of_cell? wr _ c5)).trans c5
      have hka : ∀ o, KB (fun _ => False) wr (wr.alloc o) := fun o => (KB.refl _ _).alloc o
      obtain ⟨w1, hrun, hm1, hg1⟩ := (Hm.out.keep (hka (.cells #[.int .i64 0, .pointer none, .pointer none, .pointer none, .pointer (some ⟨gb k, 0, none⟩)] 50)) id).update Try.underlying53 (HM.out.ssz k) (by unfold maxLen; omega) (.int .i64 (k : Int))
      have Hm1 : Hid (SMap w1 w.heap.size (k + 1) (fun s => (idxOf ss (k + 1) s).map fun i : Nat => Value.int .i64 (i : Int))) := map_step hlt HM.out.inj hm1
      have Hb1 : Hid (Below w.heap.size w w1) := (Hb.out.alloc Hb.out.size _).grown hg1 (by have := Hb.out.size; simp; omega) (fun i hi => by cases hi; exact Nat.le_refl _)
      clear hm1 hg1 hba hka
      go_wp2_with fail
      go_roundw
      case rel => exact ⟨k + 1, by omega, by go_num, Hm1, Hb1⟩
      case measure => simp [intOf]; omega
    · obtain rfl : k = n := by omega
      go_upto_region 7 with fail
      exact HN.out wr w.heap.size Hb.out Hm.out (Nat.le_refl _) _ _ _ _ _ _ _ _ _ _ _ _ _ _ _ _ _ _ _ _ _ _ _ _ _ _ _ _ _ _ _ _ _ _ _ _ _ _ _ _ _ _ _ _ _ _ _ _ _ _ _ _ _ _ _ _ _ _ _ _ _ _ _ _ _ _ _ _ _ _ _ _ _ _ _ _ _ _ _ _ _ _ _ _ _ _ _ _ _ _ _ _ _ _ _ _ _ _ _ _ _ _ _ _ _ _ _ _ _ _ _ _ _ _ _ _ _ _ _ _ _ _ _ _ _ _ _ _ _ _ _ _ _ _ _ _ _ _ _ _ _ _ _ _ _ _ _ _ _ _ _ _ _ _ _ _ _ _ _ _ _ _ _ _ _ _ _ _ _ _ _ _ _ _ _ _ _ _ _ _ _ _ _ _ _ _ _ _ _ _ _ _ _ _ _ _ _ _ _ _ _ _ _ _ _ _ _ _ _ _ _ _ _ _ _ _ _ _ _ _ _ _ _ _ _ _ _ _ _ _ _ _ _ _ _ _ _ _ _ _ _ _ _ _ _ _ _ _ _ _ _ _ _ _ _ _ _ _ _ _ _ _ _ _ _ _ _ _ _ _ _ _ _ _ _ _ _ _ _ _ _ _ _ _ _ _ _ _ _ _ _ _ _ _ _ _ _ _ _ _ _ _ _ _ _ _ _ _ _ _ _ _ _ _ _ _ _ _ _ _ _ _ _ _ _ _ _ _ _ _ _ _ _ _ _ _ _ _ _ _ (by assumption)

theorem makeMap29n (w : World) : (Instr.makeMap 29 none).run Try.prog w = .ok (.map (some w.heap.size)) (w.alloc (.map #[] 0)) := by kernel_rfl

/-- The creations themselves. -/
theorem MF.told (hM : MF w cb n gb ss la ln lc ms) {w' : World} (hb : Below w.heap.size w w') : Told w' (some ⟨cb, 0, none⟩) gb (List.range n) := by
  have hc := hM.cr.below hb
  refine ⟨by simp; exact hM.nle, fun _ => ⟨cb, 0, rfl, hc.row.lt, fun k f hk hf => ?_⟩⟩
  simp at hk
  have e : (List.range n).getD k 0 = k := by simp [List.getD_eq_getElem?_getD, hk]
  rw [e, Nat.zero_add]
  exact hc.row.cell (by omega)

theorem HSt.relN {wk wr w2 : World} {hb n cblk i t : Nat} {ss : Nat → ByteArray} {ln : Nat → Nat} {ms : Nat → Nat → ByteArray} {hv : Nat → Value} {v : Value}
    (h : ∃ hv' sz', HSt wk w2 hb n ss ln ms i (t + 1) hv' sz' ∧ (∀ k, (hv' i).ownBlock = some k → (hv i).ownBlock = some k ∨ wr.heap.size ≤ k) ∧ KB (fun k => k = hb ∨ (hv i).ownBlock = some k) wr w2)
    (c8 : wr.cell? ⟨cblk, 4, none⟩ = some v) (hcb : cblk ≠ hb) (hc : ∀ k, (hv i).ownBlock = some k → k ≠ cblk) :
    ∃ hv' sz', HSt wk w2 hb n ss ln ms i (t + 1) hv' sz' ∧ w2.cell? ⟨cblk, 4, none⟩ = some v ∧ ∀ k, (hv' i).ownBlock = some k → k ≠ cblk := by
  obtain ⟨hv3, sz3, h3, h4, h5⟩ := h
  have hlt : cblk < wr.heap.size := World.block_lt_of_cell? wr _ c8
  refine ⟨hv3, sz3, h3, (h5.cell hlt (fun e => ?_)).trans c8, fun k e => ?_⟩
  · rcases e with e | e
    · exact hcb e
    · exact hc _ e rfl
  · rcases h4 k e with e2 | e2
    · exact hc k e2
    · omega

theorem kid_none {w : World} {hb n : Nat} {ss : Nat → ByteArray} {adj : Nat → List Nat} {la : Nat → Option Addr} {lc : Nat → Nat} (h : KidMap w hb 0 n ss adj la lc) : ∀ i, adj i = [] := fun i => by
  by_cases hi : i < n
  · obtain ⟨D, h1, h2, h3⟩ := h.kids
    have h4 := h3 (ss i) (h.nsz i)
    have hh := SMap.has h4
    rw [nmF_at h.inj hi] at hh
    by_cases e : adj i = []
    · exact e
    · exfalso
      have : (kidG adj la lc i).isSome = true := by simp [kidG, e]
      rw [this] at hh
      obtain ⟨es, rfl⟩ : ∃ es, D = .map es := by
        obtain ⟨es, e, _⟩ := h1.entries law9
        exact ⟨es, e⟩
      have : es = [] := by
        simpa [Maps.size] using h2
      rw [this] at hh
      simp [Maps.has] at hh
  · exact h.adjout i (by omega)
set_option maxRecDepth 1000000 in
set_option maxHeartbeats 4000000 in
theorem stage7 {ok : List Nat → Prop} (hM : MF w cb n gb ss la ln lc ms) (hE : Ends w gb ok Post) (hok : (∀ i, adjL ss n ln ms i = []) → ok (List.range n)) (hnext : S21 w cb n ss (adjL ss n ln ms) Post) : S7 w cb n ss Post := by
  intro wk pb hb hp hpb y1 y4 y5 y6 y7 y8 y9 y10 y11 y12 y13 y14 y15 y16 y17 y18 y19 y20 y21 y22 y23 y24 y25 y26 y27 y28 y29 y30 y31 y32 y33 y34 y35 y36 y37 y38 y39 y40 y41 y42 y43 y44 y45 y46 y47 y48 y49 y50 y51 y52 y53 y54 y55 y56 y57 y58 y59 y60 y61 y62 y63 y64 y65 y66 y67 y68 y69 y70 y71 y72 y73 y74 y75 y76 y77 y78 y79 y80 y81 y82 y83 y84 y85 y86 y87 y88 y89 y90 y91 y92 y93 y94 y95 y96 y97 y98 y99 y100 y101 y102 y103 y104 y105 y106 y107 y108 y109 y110 y111 y112 y113 y114 y115 y116 y117 y118 y119 y120 y121 y122 y123 y124 y125 y126 y127 y128 y129 y130 y131 y132 y133 y134 y135 y136 y137 y138 y139 y140 y141 y142 y143 y144 y145 y146 y147 y148 y149 y150 y151 y152 y153 y154 y155 y156 y157 y158 y159 y160 y161 y162 y163 y164 y165 y166 y167 y168 y169 y170 y171 y172 y173 y174 y175 y176 y177 y178 y179 y180 y181 y182 y183 y184 y185 y186 y187 y188 y189 y190 y191 y192 y193 y194 y195 y196 y197 y198 y199 y200 y201 y202 y203 y204 y205 y206 y207 y208 y209 y210 y211 y212 y213 y214 y215 y216 y217 y218 y219 y220 y221 y222 y223 y224 y225 y226 y227 y228 y229 y230 y231 y232 y233 y234 y235 y236 y237 y238 y239 y240 y241 y242 y243 y244 y245 y246 y247 y248 y249 y250 y251 y252 y253 y254 y255 y256 y257 y258 y259 y260 y261 y262 y263 y264 y265 y266 y267 y268 y269 y270 y271 y272 y273 y274 y275 y276 y277 y278 y279 y280 y281 y282 y283 y284 y285 y286 y287 y288 y289 y290 y291 y292 y293 y294 y295 y296 y297 y298 y299 y300 y301 y302 y303 y304 y305 y306 y307 y308 y309 y310 y311 y312 y313 y314 y315 y316 y317 y318 y319 y320 y321 y322 y323 y324 y325 y326 y327 y328 y329 y330 y331 y332 y333 y334 y335 y336 y337 y338 y339 y340 y341 K hK
  have HM : Hid (MF w cb n gb ss la ln lc ms) := hM
  have HE : Hid (Ends w gb ok Post ∧ ((∀ i, adjL ss n ln ms i = []) → ok (List.range n))) := ⟨hE, hok⟩
  have HN : Hid (S21 w cb n ss (adjL ss n ln ms) Post) := hnext
  have HB : Hid (Below w.heap.size w wk) := hb
  have HP : Hid (Place wk pb n ss) := hp
  have hn := hM.nle
  obtain ⟨i0, hi0, hz0, hz1, hz2⟩ := info_parts info9
  clear hM hE hok hnext hb hp
  have hr := rfl (a := rest25 7)
  conv at hr => lhs; whnf
  rw [← hr] at hK
  clear hr
  conv => arg 2; whnf
  have hmk := makeMap29n
  go_wp2_with fail
  clear hmk
  go_loopw [8, 10, 11, 12, 63] (fun _ _ _ _ v wx => ∃ (i : Nat) (hv : Nat → Value) (sz : Nat), i ≤ n ∧ v = .int .i64 i ∧ Hid (HSt wk wx wk.heap.size n ss ln ms i 0 hv sz)) (fun _ _ _ _ v _ => n - (intOf v).toNat)
  case atStart => exact ⟨0, _, _, Nat.zero_le _, rfl, HSt.start wk n ss ln ms⟩
  case round =>
    obtain ⟨i, hv, sz, hi, rfl, HH⟩ := hrel
    by_cases hlt : i < n
    · have hbw : Below w.heap.size w wr := HB.out.trans (HH.out.bel.mono HB.out.size)
      obtain ⟨c0, c1, c2, c3, c4, c5, c6⟩ := HM.out.cells hbw hlt
      have hix := fun w => elem37 (cb := cb) hlt w
      have hba : ∀ o, Below wr.heap.size wr (wr.alloc o) := fun o => (Below.refl _ _).alloc (Nat.le_refl _) _
      have c6' : ∀ o, (wr.alloc o).cell? ⟨gb i, 2, none⟩ = some (.slice (la i) (ln i) (lc i)) := fun o => ((hba o).cell (World.block_lt_of_cell? wr _ c6)).trans c6
      have hln := HM.out.len i hlt
      clear hbw hba
      go_wp2_with fail
      obtain ⟨cblk, hcb⟩ : ∃ c, c = wr.heap.size := ⟨_, rfl⟩
      have Hcb : Hid (cblk = wr.heap.size) := hcb
      have hcbb : cblk ≠ wk.heap.size ∧ w.heap.size ≤ cblk := by
        have h1 := HH.out.map.lt
        have h2 := HB.out.size
        omega
      rw [← hcb]
      clear hcb
      go_loopw [10, 11, 12, 73] (fun _ _ _ v wx => ∃ (t : Nat) (hv : Nat → Value) (sz : Nat), t ≤ ln i ∧ v = .int .i64 t ∧ Hid (HSt wk wx wk.heap.size n ss ln ms i t hv sz) ∧ Hid (wx.cell? ⟨cblk, 4, none⟩ = some (.pointer (some ⟨gb i, 0, none⟩)) ∧ ∀ k, (hv i).ownBlock = some k → k ≠ cblk)) (fun _ _ _ v _ => ln i - (intOf v).toNat)
      case atStart =>
        refine ⟨0, hv, sz, Nat.zero_le _, rfl, HH.out.calm ((KB.refl _ _).alloc _), by rw [Hcb.out]; simp, fun k e => ?_⟩
        have := (HH.out.row i hlt).lt e
        have := Hcb.out
        omega
      case round =>
        obtain ⟨t, hv2, sz2, ht, rfl, HH2, Hcell⟩ := hrel
        clear c0 c1 c2 c3 c4 c5 c6 c6' HH Hcb
        have hbw : Below w.heap.size w wr := HB.out.trans (HH2.out.bel.mono HB.out.size)
        by_cases hlt3 : t < ln i
        · obtain ⟨b2, o2, hb2, hix2, hc2⟩ := ((HM.out.cr.mem i hlt).below hbw).elem22 hlt3 (lc i)
          have hlook := (HP.out.keep (KB.of (fun _ => False) HH2.out.bel) id).lookOk Try.underlying53 (zero3 wr) (HM.out.msz i t)
          cases hx : idxOf ss n (ms i t) with
          | none =>
            rw [hx] at hlook
            simp only [Option.map_none, Option.getD_none, Option.isSome_none] at hlook
            have HH3 : Hid (HSt wk wr wk.heap.size n ss ln ms i (t + 1) hv2 sz2) := HH2.out.stay hx
            clear HH2 hx
            go_wp2_with fail
            go_roundw
            case rel => exact ⟨t + 1, hv2, sz2, by omega, by go_num, HH3, Hcell⟩
            case measure => simp [intOf]; omega
          | some q =>
            rw [hx] at hlook
            simp only [Option.map_some, Option.getD_some, Option.isSome_some] at hlook
            obtain ⟨hqn, hqs⟩ := idxOf_some hx
            have Hx : Hid (idxOf ss n (ms i t) = some q) := hx
            have hcq := hc2
            rw [← hqs] at hcq hlook
            obtain ⟨_, _, _, _, _, c5, _⟩ := HM.out.cells hbw hlt
            have c8 := Hcell.out.1
            have HS : Hid (∀ W, KB (fun k => k = wk.heap.size ∨ (hv2 i).ownBlock = some k) wr W → W.cell? ⟨cblk, 4, none⟩ = some (.pointer (some ⟨gb i, 0, none⟩)) ∧ W.cell? ⟨gb i, 0, none⟩ = some (.string (ss i))) := fun W hk => by
              have h2 := World.block_lt_of_cell? w _ ((HM.out.cells (Below.refl _ w) hlt).2.2.2.2.2.1)
              have h3 := HB.out.size
              simp at h2
              refine ⟨(hk.cell (World.block_lt_of_cell? wr _ c8) (fun e => ?_)).trans c8, (hk.cell (World.block_lt_of_cell? wr _ c5) (fun e => ?_)).trans c5⟩
              · rcases e with e | e
                · exact hcbb.1 e
                · exact Hcell.out.2 _ e rfl
              · rcases e with e | e
                · have e' : gb i = wk.heap.size := e
                  omega
                · have h1 : wk.heap.size ≤ gb i := (HH2.out.blk i hlt _ e).1
                  omega
            have kd : Hid (KB (fun k => k = wk.heap.size ∨ (hv2 i).ownBlock = some k) wr wr.drew) := (KB.refl _ wr).drew
            have ka : Hid (∀ o, KB (fun k => k = wk.heap.size ∨ (hv2 i).ownBlock = some k) wr (wr.alloc o).drew) := fun o => ((KB.refl _ wr).alloc o).drew
            have kf : Hid (∀ o, KB (fun _ => False) wr (wr.alloc o).drew) := fun o => ((KB.refl _ wr).alloc o).drew
            have hL1 := HH2.out.look HM.out.inj (HM.out.ssz i) hlt ((KB.refl (fun k => (hv2 i).ownBlock = some k) wr).drew)
            have hL2 := HH2.out.look HM.out.inj (HM.out.ssz i) hlt (((KB.refl (fun k => (hv2 i).ownBlock = some k) wr).alloc (.cells #[.string (ss q)] 9)).drew)
            have sl : Hid ((strs ss (rowsTo ss n ln ms i t i)).length ≤ 131072) := by
              have h1 := adjPre_length ss n ms i t
              show (strs ss (rowsTo ss n ln ms i t i)).length ≤ 131072
              rw [strs_length]
              simp [rowsTo]
              omega
            obtain ⟨hS1, hS2⟩ := HS.out _ kd.out
            clear hbw hx hc2 hqs
            go_wp2_with fail
            go_region_held3 (fun w' => w'.cell? ⟨cblk, 4, none⟩ = some (.pointer (some ⟨gb i, 0, none⟩)) ∧ w'.cell? ⟨gb i, 0, none⟩ = some (.string (ss i))) (first | exact HS.out _ kd.out | exact HS.out _ (ka.out _) | exact HS.out _ kx.out | exact HS.out _ kz.out) ((refine step_append_lies _ (by rfl) (.tmp 96) (.tmp 98) 22 (by rfl) 0 9 i0 _ 1 16 Try.underlying22 hi0 hz0 hz1 hz2 rfl (by omega) (hv2 i) (strs ss (rowsTo ss n ln ms i t i)).length (strs ss (rowsTo ss n ln ms i t i)) (by simp [Act.eval]) ((HH2.out.row i hlt).alloc _) ⟨wr.heap.size, 0, none⟩ 1 1 [.string (ss q)] (by simp [Act.eval]) (by rfl) (World.news_of_block (cs := #[.string (ss q)]) (t := 9) (fr := (0, 0)) (heap_alloc_new _ _)) (by simp [Value.oneCell']) (by omega) (by have := sl.out; unfold maxLen; omega) (by have := sl.out; omega) (by simp) (wr.heap.size + 1) (by simp) ?_; intro g1 cap1 x1 hown1 hgrow1 hat1 hltg1; have kx : Hid (KB (fun k => k = wk.heap.size ∨ (hv2 i).ownBlock = some k) wr x1) := (ka.out _).grown hgrow1 (fun k e _ => Or.inr e); obtain ⟨w2, r2, HZ⟩ := HH2.out.push HM.out.inj (HM.out.ssz i) hlt hn Hx.out (kf.out _) hown1 hgrow1 hat1 (by omega); have kz : Hid (KB (fun k => k = wk.heap.size ∨ (hv2 i).ownBlock = some k) wr w2) := HZ.out.choose_spec.choose_spec.2.2; clear hown1 hgrow1 hat1 hltg1))
            all_goals (go_wp2_with fail; go_roundw)
            all_goals first | (simp [intOf]; omega; done) | (obtain ⟨hv3, sz3, h3, h4⟩ := HSt.relN HZ.out c8 hcbb.1 Hcell.out.2; exact ⟨t + 1, hv3, sz3, by omega, by go_num, h3, h4⟩)
        · obtain rfl : t = ln i := by omega
          have HH3 : Hid (HSt wk wr wk.heap.size n ss ln ms (i + 1) 0 hv2 sz2) := HH2.out.next hlt
          clear HH2 hbw
          go_wp2_with fail
          go_roundw
          case rel => exact ⟨i + 1, hv2, sz2, by omega, by go_num, HH3⟩
          case measure => simp [intOf]; omega
    · obtain rfl : i = n := by omega
      have hbw : Below w.heap.size w wr := HB.out.trans (HH.out.bel.mono HB.out.size)
      obtain ⟨la2, lc2, hKM⟩ := HH.out.kidMap HM.out
      have HKM : Hid (KidMap wr wk.heap.size sz i ss (adjL ss i ln ms) la2 lc2) := hKM
      have hlen := hKM.kids.len Try.underlying29
      have HBW : Hid (Below w.heap.size w wr) := hbw
      by_cases hz : sz = 0
      · obtain rfl := hz
        have hlen0 : ∀ ty, (Builtin.len_ #[29] ty #[.map (some wk.heap.size)]).run Try.prog wr = .ok (.int .i64 0) wr := hlen
        clear hKM hbw hlen
        go_wp2_with fail
        have := HE.out.1 wr (some ⟨cb, 0, none⟩) i (List.range i) HBW.out (HM.out.told HBW.out) (HE.out.2 (kid_none HKM.out))
        rw [List.length_range] at this
        exact this
      · have hd : ((sz : Int) == 0) = false := by simp; omega
        have Hz : Hid (sz ≠ 0) := hz
        clear hz hKM hbw
        go_upto_region 21 with fail
        exact HN.out wr pb wk.heap.size sz la2 lc2 HBW.out (HP.out.keep (KB.of (fun _ => False) HH.out.bel) id) HKM.out (by have := HH.out.nz Hz.out; rw [rowsTo_end] at this; exact this) _ _ _ _ _ _ _ _ _ _ _ _ _ _ _ _ _ _ _ _ _ _ _ _ _ _ _ _ _ _ _ _ _ _ _ _ _ _ _ _ _ _ _ _ _ _ _ _ _ _ _ _ _ _ _ _ _ _ _ _ _ _ _ _ _ _ _ _ _ _ _ _ _ _ _ _ _ _ _ _ _ _ _ _ _ _ _ _ _ _ _ _ _ _ _ _ _ _ _ _ _ _ _ _ _ _ _ _ _ _ _ _ _ _ _ _ _ _ _ _ _ _ _ _ _ _ _ _ _ _ _ _ _ _ _ _ _ _ _ _ _ _ _ _ _ _ _ _ _ _ _ _ _ _ _ _ _ _ _ _ _ _ _ _ _ _ _ _ _ _ _ _ _ _ _ _ _ _ _ _ _ _ _ _ _ _ _ _ _ _ _ _ _ _ _ _ _ _ _ _ _ _ _ _ _ _ _ _ _ _ _ _ _ _ _ _ _ _ _ _ _ _ _ _ _ _ _ _ _ _ _ _ _ _ _ _ _ _ _ _ _ _ _ _ _ _ _ _ _ _ _ _ _ _ _ _ _ _ _ _ _ _ _ _ _ _ _ _ _ _ _ _ _ _ _ _ _ _ _ _ _ _ _ _ _ _ _ _ _ _ _ _ _ _ _ _ _ _ _ _ _ _ _ _ _ _ _ _ _ _ _ _ _ _ _ _ _ _ _ _ _ _ _ _ _ _ _ _ _ _ _ _ _ _ _ _ _ _ _ (by assumption)
end Go.Proofs.Qxb6605609a

