/-
  membersFirst: regions 31 to 42.
-/
import Derived.Test.Qxb6605609aMf41
import Derived.Test.Qxb6605609aMf21
namespace Go.Proofs.Qxb6605609a
open Go.RowKit
variable {w : World} {cb n : Nat} {gb : Nat → Nat} {ss : Nat → ByteArray} {la : Nat → Option Addr} {ln lc : Nat → Nat} {ms : Nat → Nat → ByteArray} {Post : Ending → World → Prop}

theorem partL_push (cf : Nat → Nat) (i : Nat) : upd (partL cf i) (pof cf i) (partL cf i (pof cf i) ++ [i]) = partL cf (i + 1) := by
  funext p
  rw [partL_succ]
  by_cases e : pof cf i = p
  · rw [if_pos e, ← e, upd_same]
  · rw [if_neg e, upd_other _ _ (fun h => e h.symm)]

set_option maxRecDepth 1000000 in
set_option maxHeartbeats 4000000 in
theorem stage31 {adj : Nat → List Nat} {cf : Nat → Nat} (hM : MF w cb n gb ss la ln lc ms) (hcf : ∀ x, x < n → LeastOf adj n x (cf x)) (hnext : S43 w cb n ss adj cf Post) : S31 w cb n ss adj cf Post := by
  intro wk pb hb sz fb szf la2 lc2 seen hbel hp hkm hfo hno y1 y4 y5 y7 y8 y9 y10 y11 y12 y14 y15 y16 y17 y18 y19 y20 y21 y22 y23 y24 y25 y26 y27 y28 y29 y30 y31 y32 y33 y34 y35 y36 y37 y38 y39 y40 y41 y42 y43 y44 y45 y46 y47 y48 y49 y50 y51 y52 y53 y54 y55 y56 y57 y58 y59 y60 y61 y62 y63 y64 y65 y66 y67 y68 y69 y70 y71 y72 y73 y74 y75 y76 y77 y78 y79 y80 y81 y82 y83 y84 y85 y86 y87 y88 y89 y90 y91 y92 y93 y94 y95 y96 y97 y98 y99 y100 y101 y102 y103 y104 y105 y106 y107 y108 y109 y110 y111 y112 y113 y114 y115 y116 y117 y118 y119 y120 y121 y122 y123 y124 y125 y126 y127 y128 y129 y130 y131 y132 y133 y134 y135 y136 y137 y138 y139 y140 y141 y142 y143 y144 y145 y146 y147 y148 y149 y150 y151 y152 y153 y154 y155 y156 y157 y158 y159 y160 y161 y162 y163 y164 y165 y166 y167 y168 y169 y170 y171 y172 y173 y174 y175 y176 y177 y178 y179 y180 y181 y182 y183 y184 y185 y186 y187 y188 y189 y190 y191 y192 y193 y194 y195 y196 y197 y198 y199 y200 y201 y202 y203 y204 y205 y206 y207 y208 y209 y210 y211 y212 y213 y214 y215 y216 y217 y218 y219 y220 y221 y222 y223 y224 y225 y226 y227 y228 y229 y230 y231 y232 y233 y234 y235 y236 y237 y238 y239 y240 y241 y242 y243 y244 y245 y246 y247 y248 y249 y250 y251 y252 y253 y254 y255 y256 y257 y258 y259 y260 y261 y262 y263 y264 y265 y266 y267 y268 y269 y270 y271 y272 y273 y274 y275 y276 y277 y278 y279 y280 y281 y282 y283 y284 y285 y286 y287 y288 y289 y290 y291 y292 y293 y294 y295 y296 y297 y298 y299 y300 y301 y302 y303 y304 y305 y306 y307 y308 y309 y310 y311 y312 y313 y314 y315 y316 y317 y318 y319 y320 y321 y322 y323 y324 y325 y326 y327 y328 y329 y330 y331 y332 y333 y334 y335 y336 y337 y338 y339 y340 y341 K hK
  have HM : Hid (MF w cb n gb ss la ln lc ms) := hM
  have HN : Hid (S43 w cb n ss adj cf Post) := hnext
  have HB : Hid (Below w.heap.size w wk) := hbel
  have HP : Hid (Place wk pb n ss) := hp
  have HKM : Hid (KidMap wk hb sz n ss adj la2 lc2) := hkm
  have HF : Hid (SMap wk fb szf (nmF ss n (focG ss cf seen))) := hfo
  have Hno : Hid (∀ x, x < n → x ∉ seen → cf x = x) := hno
  have Hcf : Hid (∀ x, x < n → LeastOf adj n x (cf x)) := hcf
  have hn := hkm.nle
  have hmi := makeInts n (by omega)
  obtain ⟨i3, hp0, hq0, hq1, hq2⟩ := info_parts info3
  obtain ⟨i4, hr0, hs0, hs1, hs2⟩ := info_parts info43
  clear hM hnext hbel hp hkm hcf hfo hno
  have hr := rfl (a := rest25 31)
  conv at hr => lhs; whnf
  rw [← hr] at hK
  clear hr
  conv => arg 2; whnf
  go_wp2_with fail
  clear hmi
  obtain ⟨pfb, hpfb⟩ : ∃ p, p = wk.heap.size := ⟨_, rfl⟩
  have H0 : Hid (PSt cf wk (wk.alloc (.cells (madeInts n) 3)) pfb n 0 0 (.slice none 0 0) (fun _ => .slice none 0 0) (fun _ => [])) := by
    rw [hpfb]
    exact ⟨(World.rowIs_made wk (.int .i64 0) n 3).congr (fun j _ => by simp), Row.nil _ _, fun p hp => by omega, fun p q hp => by omega, fun p hp => by omega, fun b e => by simp [Value.ownBlock] at e, Nat.le_refl _, (Below.refl _ _).alloc (Nat.le_refl _) _⟩
  have hpfl : wk.heap.size ≤ pfb := by omega
  rw [← hpfb]
  clear hpfb
  go_loopw [19, 20, 21, 22, 23, 132] (fun v19 _ _ _ _ v wx => ∃ (i : Nat) (val : Nat → Value), i ≤ n ∧ v = .int .i64 i ∧ Hid (PSt cf wk wx pfb n i (rnk cf i) v19 val (partL cf i))) (fun _ _ _ _ _ v _ => n - (intOf v).toNat)
  case atStart => exact ⟨0, _, Nat.zero_le _, rfl, H0⟩
  case round =>
    obtain ⟨i, val, hi, rfl, HH⟩ := hrel
    clear H0
    by_cases hlt : i < n
    · have hbw : Below w.heap.size w wr := HB.out.trans (HH.out.bel.mono HB.out.size)
      obtain ⟨c0, c1, c2, c3, c4, c5, _⟩ := HM.out.cells hbw hlt
      have hix := fun w => elem37 (cb := cb) hlt w
      have hba : ∀ o, Below wr.heap.size wr (wr.alloc o) := fun o => (Below.refl _ _).alloc (Nat.le_refl _) _
      have c5' : ∀ o, (wr.alloc o).cell? ⟨gb i, 0, none⟩ = some (.string (ss i)) := fun o => ((hba o).cell (World.block_lt_of_cell? wr _ c5)).trans c5
      have hle := cf_le Hcf.out hlt
      have hcn : cf i < n := by omega
      obtain ⟨wa, hwa⟩ : ∃ wa, wa = wr.alloc (.cells #[.int .i64 0, .pointer none, .pointer none, .pointer none, .pointer (some ⟨gb i, 0, none⟩)] 50) := ⟨_, rfl⟩
      have HHa : Hid (PSt cf wk wa pfb n i (rnk cf i) u19 val (partL cf i)) := by rw [hwa]; exact HH.out.calm ((KB.refl _ _).alloc _)
      have hfl := (HF.out.keep (KB.of (fun _ => False) HHa.out.bel) id).lookOk Try.underlying57 (Try.zeroValue9 wa) (HM.out.ssz i)
      rw [nmF_at HM.out.inj hlt] at hfl
      have hpl := (HP.out.below HHa.out.bel).look Try.underlying53 (zero3 wa) (HM.out.ssz (cf i))
      rw [idxOf_at HM.out.inj hcn] at hpl
      simp only [Option.map_some, Option.getD_some] at hpl
      rw [hwa] at hfl hpl
      clear hbw hba
      have hcp : ∀ j o, j < n → (wr.alloc o).cell? ⟨pfb, j, none⟩ = some (.int .i64 (((if j < i then pof cf j else 0) : Nat) : Int)) ∧ (wr.alloc o).frozen? ⟨pfb, j, none⟩ = false := fun j o hj => by
        have h1 := rowIs_keep HH.out.row ((KB.refl (fun _ => False) wr).alloc o) id
        exact ⟨h1.cell hj, h1.frozen j⟩
      have hci := fun o => (hcp i o hlt).1
      have hfi := fun o => (hcp i o hlt).2
      have hxi := fun w => elem43 (b := pfb) (c := n) hlt w
      have hxc := fun w => elem43 (b := pfb) (c := n) hcn w
      by_cases hA : i ∈ seen ∧ cf i < i
      · obtain ⟨hsn, hlc⟩ := hA
        have hfl2 : (Instr.lookup 57 (.map (some fb)) (.string (ss i)) true).run Try.prog (wr.alloc (.cells #[.int .i64 0, .pointer none, .pointer none, .pointer none, .pointer (some ⟨gb i, 0, none⟩)] 50)) = .ok (.tuple #[.string (ss (cf i)), .bool true]) (wr.alloc (.cells #[.int .i64 0, .pointer none, .pointer none, .pointer none, .pointer (some ⟨gb i, 0, none⟩)] 50)) := by rw [hfl]; simp [focG, hsn]
        have hcc : ∀ o, (wr.alloc o).cell? ⟨pfb, cf i, none⟩ = some (.int .i64 ((pof cf i : Nat) : Int)) := fun o => by
          have e1 : pof cf (cf i) = pof cf i := by unfold pof; rw [cf_idem Hcf.out hlt]
          rw [(hcp (cf i) o hcn).1, if_pos hlc, e1]
        have hd : decide ((cf i : Int) < (i : Int)) = true := by simp; omega
        clear hfl hwa hcp
        go_upto_region 41 with fail
        obtain ⟨wz, hwz⟩ : ∃ wz, wz = (wr.alloc (.cells #[.int .i64 0, .pointer none, .pointer none, .pointer none, .pointer (some ⟨gb i, 0, none⟩)] 50)).setCell ⟨pfb, i, none⟩ (.int .i64 ((pof cf i : Nat) : Int)) := ⟨_, rfl⟩
        obtain ⟨vl, hvl⟩ : ∃ vl, vl = val := ⟨_, rfl⟩
        have HM3 : Hid (PSt cf wk wz pfb n (i + 1) (rnk cf (i + 1)) u19 vl (partL cf i)) := by
          have e : rnk cf (i + 1) = rnk cf i := by rw [rnk_succ, if_neg (by omega), Nat.add_zero]
          rw [hwz, e, hvl]
          exact (HH.out.calm ((KB.refl _ _).alloc _)).setPart rfl
        rw [← hwz]
        clear hwz hvl HH HHa hfl2 hpl c0 c1 c2 c3 c4 c5 c5' hci hfi hxc hcc
        have hm1 : 0 < rnk cf (i + 1) := by have := pof_lt Hcf.out (show i < i + 1 by omega) (show i + 1 ≤ n by omega); omega
        obtain ⟨gv, cv, ev, _, _, _⟩ := HM3.out.outer.form (by rw [vals_length]; exact hm1)
        rw [vals_length] at ev
        cases ev
        have hpm : pof cf i < rnk cf (i + 1) := pof_lt Hcf.out (by omega) (by omega)
        have sl : (partL cf i (pof cf i)).length ≤ 4096 := by
          have h1 : (partL cf i (pof cf i)).length ≤ (List.range i).length := List.length_filter_le _ _
          simp at h1
          omega
        refine region41 HM3.out hlt rfl hpm sl _ _ _ _ _ _ _ _ _ _ _ _ _ _ _ _ _ _ _ _ _ _ _ _ _ _ _ _ _ _ _ _ _ _ _ _ _ _ _ _ _ _ _ _ _ _ _ _ _ _ _ _ _ _ _ _ _ _ _ _ _ _ _ _ _ _ _ _ _ _ _ _ _ _ _ _ _ _ _ _ _ _ _ _ _ _ _ _ _ _ _ _ _ _ _ _ _ _ _ _ _ _ _ _ _ _ _ _ _ _ _ _ _ _ _ _ _ _ _ _ _ _ _ _ _ _ _ _ _ _ _ _ _ _ _ _ _ _ _ _ _ _ _ _ _ _ _ _ _ _ _ _ _ _ _ _ _ _ _ _ _ _ _ _ _ _ _ _ _ _ _ _ _ _ _ _ _ _ _ _ _ _ _ _ _ _ _ _ _ _ _ _ _ _ _ _ _ _ _ _ _ _ _ _ _ _ _ _ _ _ _ _ _ _ _ _ _ _ _ _ _ _ _ _ _ _ _ _ _ _ _ _ _ _ _ _ _ _ _ _ _ _ _ _ _ _ _ _ _ _ _ _ _ _ _ _ _ _ _ _ _ _ _ _ _ _ _ _ _ _ _ _ _ _ _ _ _ _ _ _ _ _ _ _ _ _ _ _ _ _ _ _ _ _ _ _ _ _ _ _ _ _ _ _ _ _ _ _ _ _ _ _ _ _ _ _ _ _ _ _ _ _ _ _ _ _ _ _ _ _ _ _ _ _ _ _ _ _ _ ?_
        intro x vl2 z172 z173 z174 z175 z176 z177 z178 z179 z180 z181 z182 z183 z184 z185 z186 z187 hz
        rw [partL_push] at hz
        have Hz : Hid (PSt cf wk x pfb n (i + 1) (rnk cf (i + 1)) _ vl2 (partL cf (i + 1))) := hz
        clear hz
        go_wp2_with fail
        go_roundw
        case rel => exact ⟨i + 1, vl2, by omega, by go_num, Hz⟩
        case measure => simp [intOf]; omega
      · have hcfi : cf i = i := by
          by_cases hsn : i ∈ seen
          · have : ¬ cf i < i := fun h => hA ⟨hsn, h⟩
            omega
          · exact Hno.out i hlt hsn
        have hr1 : rnk cf (i + 1) = rnk cf i + 1 := by rw [rnk_succ, if_pos hcfi]
        have hpo : pof cf i = rnk cf i := by simp [pof, hcfi]
        have hrle := rnk_le cf i
        obtain ⟨a19, c19, ev19⟩ := HH.out.outer.any
        rw [vals_length] at ev19
        have hvl0 : (vals (rnk cf i) val).length = rnk cf i := vals_length _ _
        subst ev19
        have HH2 : Hid (PSt cf wk ((wr.alloc (.cells #[.int .i64 0, .pointer none, .pointer none, .pointer none, .pointer (some ⟨gb i, 0, none⟩)] 50)).setCell ⟨pfb, i, none⟩ (.int .i64 ((rnk cf i : Nat) : Int))) pfb n (i + 1) (rnk cf i) (.slice a19 (rnk cf i) c19) val (partL cf i)) := (HH.out.calm ((KB.refl _ _).alloc _)).setPart hpo.symm
        have Hpe : Hid (partL cf i (rnk cf i) = []) := by
          show partL cf i (rnk cf i) = []
          unfold partL
          rw [List.filter_eq_nil_iff]
          intro q hq
          have h1 := pof_lt Hcf.out (List.mem_range.1 hq) hi
          simp
          omega
        have hrow19 : Hid (Row ((wr.alloc (.cells #[.int .i64 0, .pointer none, .pointer none, .pointer none, .pointer (some ⟨gb i, 0, none⟩)] 50)).setCell ⟨pfb, i, none⟩ (.int .i64 ((rnk cf i : Nat) : Int))) 43 (.slice a19 (rnk cf i) c19) (vals (rnk cf i) val)) := HH2.out.outer
        obtain ⟨wy, hwy⟩ : ∃ wy, wy = (wr.alloc (.cells #[.int .i64 0, .pointer none, .pointer none, .pointer none, .pointer (some ⟨gb i, 0, none⟩)] 50)).setCell ⟨pfb, i, none⟩ (.int .i64 ((rnk cf i : Nat) : Int)) := ⟨_, rfl⟩
        rw [← hwy] at HH2 hrow19
        have hb23 : Hid (i ∉ seen ∨ ¬ cf i < i) := by
          by_cases h : i ∈ seen
          · exact Or.inr (by omega)
          · exact Or.inl h
        clear hcp
        by_cases hsn : i ∈ seen
        · have hfl2 : (Instr.lookup 57 (.map (some fb)) (.string (ss i)) true).run Try.prog (wr.alloc (.cells #[.int .i64 0, .pointer none, .pointer none, .pointer none, .pointer (some ⟨gb i, 0, none⟩)] 50)) = .ok (.tuple #[.string (ss (cf i)), .bool true]) (wr.alloc (.cells #[.int .i64 0, .pointer none, .pointer none, .pointer none, .pointer (some ⟨gb i, 0, none⟩)] 50)) := by rw [hfl]; simp [focG, hsn]
          rw [hcfi] at hfl2 hpl
          have hd : decide ((i : Int) < (i : Int)) = false := by simp
          clear hfl hsn hA
          have Hcfi : Hid (cf i = i) := hcfi
          clear hcfi
          go_upto_region 40 with fail
          rw [← hwy]
          clear hwy
          go_upto_region 41 with (at_builtin; refine wpList_append_lies _ (by rfl) _ _ _ (by rfl) 0 43 i4 _ 1 24 Try.underlying40 hr0 hs0 hs1 hs2 rfl (by omega) (.slice a19 (rnk cf i) c19) (vals (rnk cf i) val).length (vals (rnk cf i) val) (by rfl) (hrow19.out.alloc _) ⟨wy.heap.size, 0, none⟩ 1 1 [.slice none 0 0] (by rfl) (by rfl) (World.news_of_block (cs := #[.slice none 0 0]) (t := 43) (fr := (0, 0)) (heap_alloc_new _ _)) (by simp [Value.oneCell']) (by omega) (by unfold maxLen; omega) (by omega) (by simp) (wy.heap.size + 1) (by simp) ?_; intro gq capq wz hownq hgrowq hatq hltq; have HM3' : Hid (PSt cf wk wz pfb n (i + 1) (rnk cf i + 1) (.slice (some ⟨gq, 0, none⟩) ((vals (rnk cf i) val).length + 1) capq) (upd val (rnk cf i) (.slice none 0 0)) (partL cf i)) := (HH2.out.addPart ((KB.refl _ _).alloc _) hownq hgrowq hatq (by omega) Hpe.out).1; clear hownq hgrowq hatq hltq)
          have HM3 : Hid (PSt cf wk wz pfb n (i + 1) (rnk cf (i + 1)) (.slice (some ⟨gq, 0, none⟩) (rnk cf (i + 1)) capq) (upd val (rnk cf i) (.slice none 0 0)) (partL cf i)) := by
            have h := HM3'.out
            rw [hvl0] at h
            rw [hr1]
            exact h
          have hvl1 : (vals (rnk cf i) val).length + 1 = rnk cf (i + 1) := by rw [hvl0, hr1]
          rw [← hr1]
          obtain ⟨vl, hvl⟩ : ∃ vl, vl = upd val (rnk cf i) (.slice none 0 0) := ⟨_, rfl⟩
          rw [← hvl] at HM3
          clear hvl HM3' HH HHa HH2 hfl2 hpl c0 c1 c2 c3 c4 c5 c5' hci hfi hxc hrow19 Hpe hvl0 hvl1 hr1 hrle
          have hm1 : 0 < rnk cf (i + 1) := by have := pof_lt Hcf.out (show i < i + 1 by omega) (show i + 1 ≤ n by omega); omega
          obtain ⟨gv, cv, ev, _, _, _⟩ := HM3.out.outer.form (by rw [vals_length]; exact hm1)
          rw [vals_length] at ev
          cases ev
          have hpm : pof cf i < rnk cf (i + 1) := pof_lt Hcf.out (by omega) (by omega)
          have sl : (partL cf i (pof cf i)).length ≤ 4096 := by
            have h1 : (partL cf i (pof cf i)).length ≤ (List.range i).length := List.length_filter_le _ _
            simp at h1
            omega
          refine region41 HM3.out hlt rfl hpm sl _ _ _ _ _ _ _ _ _ _ _ _ _ _ _ _ _ _ _ _ _ _ _ _ _ _ _ _ _ _ _ _ _ _ _ _ _ _ _ _ _ _ _ _ _ _ _ _ _ _ _ _ _ _ _ _ _ _ _ _ _ _ _ _ _ _ _ _ _ _ _ _ _ _ _ _ _ _ _ _ _ _ _ _ _ _ _ _ _ _ _ _ _ _ _ _ _ _ _ _ _ _ _ _ _ _ _ _ _ _ _ _ _ _ _ _ _ _ _ _ _ _ _ _ _ _ _ _ _ _ _ _ _ _ _ _ _ _ _ _ _ _ _ _ _ _ _ _ _ _ _ _ _ _ _ _ _ _ _ _ _ _ _ _ _ _ _ _ _ _ _ _ _ _ _ _ _ _ _ _ _ _ _ _ _ _ _ _ _ _ _ _ _ _ _ _ _ _ _ _ _ _ _ _ _ _ _ _ _ _ _ _ _ _ _ _ _ _ _ _ _ _ _ _ _ _ _ _ _ _ _ _ _ _ _ _ _ _ _ _ _ _ _ _ _ _ _ _ _ _ _ _ _ _ _ _ _ _ _ _ _ _ _ _ _ _ _ _ _ _ _ _ _ _ _ _ _ _ _ _ _ _ _ _ _ _ _ _ _ _ _ _ _ _ _ _ _ _ _ _ _ _ _ _ _ _ _ _ _ _ _ _ _ _ _ _ _ _ _ _ _ _ _ _ _ _ _ _ _ _ _ _ _ _ _ _ _ _ _ ?_
          intro x vl2 z172 z173 z174 z175 z176 z177 z178 z179 z180 z181 z182 z183 z184 z185 z186 z187 hz
          rw [partL_push] at hz
          have Hz : Hid (PSt cf wk x pfb n (i + 1) (rnk cf (i + 1)) _ vl2 (partL cf (i + 1))) := hz
          clear hz
          go_wp2_with fail
          go_roundw
          case rel => exact ⟨i + 1, vl2, by omega, by go_num, Hz⟩
          case measure => simp [intOf]; omega
        · have hfl2 : (Instr.lookup 57 (.map (some fb)) (.string (ss i)) true).run Try.prog (wr.alloc (.cells #[.int .i64 0, .pointer none, .pointer none, .pointer none, .pointer (some ⟨gb i, 0, none⟩)] 50)) = .ok (.tuple #[.string ⟨#[]⟩, .bool false]) (wr.alloc (.cells #[.int .i64 0, .pointer none, .pointer none, .pointer none, .pointer (some ⟨gb i, 0, none⟩)] 50)) := by rw [hfl]; simp [focG, hsn]
          clear hfl hsn hA
          have Hcfi : Hid (cf i = i) := hcfi
          clear hcfi
          go_upto_region 40 with fail
          rw [← hwy]
          clear hwy
          go_upto_region 41 with (at_builtin; refine wpList_append_lies _ (by rfl) _ _ _ (by rfl) 0 43 i4 _ 1 24 Try.underlying40 hr0 hs0 hs1 hs2 rfl (by omega) (.slice a19 (rnk cf i) c19) (vals (rnk cf i) val).length (vals (rnk cf i) val) (by rfl) (hrow19.out.alloc _) ⟨wy.heap.size, 0, none⟩ 1 1 [.slice none 0 0] (by rfl) (by rfl) (World.news_of_block (cs := #[.slice none 0 0]) (t := 43) (fr := (0, 0)) (heap_alloc_new _ _)) (by simp [Value.oneCell']) (by omega) (by unfold maxLen; omega) (by omega) (by simp) (wy.heap.size + 1) (by simp) ?_; intro gq capq wz hownq hgrowq hatq hltq; have HM3' : Hid (PSt cf wk wz pfb n (i + 1) (rnk cf i + 1) (.slice (some ⟨gq, 0, none⟩) ((vals (rnk cf i) val).length + 1) capq) (upd val (rnk cf i) (.slice none 0 0)) (partL cf i)) := (HH2.out.addPart ((KB.refl _ _).alloc _) hownq hgrowq hatq (by omega) Hpe.out).1; clear hownq hgrowq hatq hltq)
          have HM3 : Hid (PSt cf wk wz pfb n (i + 1) (rnk cf (i + 1)) (.slice (some ⟨gq, 0, none⟩) (rnk cf (i + 1)) capq) (upd val (rnk cf i) (.slice none 0 0)) (partL cf i)) := by
            have h := HM3'.out
            rw [hvl0] at h
            rw [hr1]
            exact h
          have hvl1 : (vals (rnk cf i) val).length + 1 = rnk cf (i + 1) := by rw [hvl0, hr1]
          rw [← hr1]
          obtain ⟨vl, hvl⟩ : ∃ vl, vl = upd val (rnk cf i) (.slice none 0 0) := ⟨_, rfl⟩
          rw [← hvl] at HM3
          clear hvl HM3' HH HHa HH2 hfl2 hpl c0 c1 c2 c3 c4 c5 c5' hci hfi hxc hrow19 Hpe hvl0 hvl1 hr1 hrle
          have hm1 : 0 < rnk cf (i + 1) := by have := pof_lt Hcf.out (show i < i + 1 by omega) (show i + 1 ≤ n by omega); omega
          obtain ⟨gv, cv, ev, _, _, _⟩ := HM3.out.outer.form (by rw [vals_length]; exact hm1)
          rw [vals_length] at ev
          cases ev
          have hpm : pof cf i < rnk cf (i + 1) := pof_lt Hcf.out (by omega) (by omega)
          have sl : (partL cf i (pof cf i)).length ≤ 4096 := by
            have h1 : (partL cf i (pof cf i)).length ≤ (List.range i).length := List.length_filter_le _ _
            simp at h1
            omega
          refine region41 HM3.out hlt rfl hpm sl _ _ _ _ _ _ _ _ _ _ _ _ _ _ _ _ _ _ _ _ _ _ _ _ _ _ _ _ _ _ _ _ _ _ _ _ _ _ _ _ _ _ _ _ _ _ _ _ _ _ _ _ _ _ _ _ _ _ _ _ _ _ _ _ _ _ _ _ _ _ _ _ _ _ _ _ _ _ _ _ _ _ _ _ _ _ _ _ _ _ _ _ _ _ _ _ _ _ _ _ _ _ _ _ _ _ _ _ _ _ _ _ _ _ _ _ _ _ _ _ _ _ _ _ _ _ _ _ _ _ _ _ _ _ _ _ _ _ _ _ _ _ _ _ _ _ _ _ _ _ _ _ _ _ _ _ _ _ _ _ _ _ _ _ _ _ _ _ _ _ _ _ _ _ _ _ _ _ _ _ _ _ _ _ _ _ _ _ _ _ _ _ _ _ _ _ _ _ _ _ _ _ _ _ _ _ _ _ _ _ _ _ _ _ _ _ _ _ _ _ _ _ _ _ _ _ _ _ _ _ _ _ _ _ _ _ _ _ _ _ _ _ _ _ _ _ _ _ _ _ _ _ _ _ _ _ _ _ _ _ _ _ _ _ _ _ _ _ _ _ _ _ _ _ _ _ _ _ _ _ _ _ _ _ _ _ _ _ _ _ _ _ _ _ _ _ _ _ _ _ _ _ _ _ _ _ _ _ _ _ _ _ _ _ _ _ _ _ _ _ _ _ _ _ _ _ _ _ _ _ _ _ _ _ _ _ _ _ _ ?_
          intro x vl2 z172 z173 z174 z175 z176 z177 z178 z179 z180 z181 z182 z183 z184 z185 z186 z187 hz
          rw [partL_push] at hz
          have Hz : Hid (PSt cf wk x pfb n (i + 1) (rnk cf (i + 1)) _ vl2 (partL cf (i + 1))) := hz
          clear hz
          go_wp2_with fail
          go_roundw
          case rel => exact ⟨i + 1, vl2, by omega, by go_num, Hz⟩
          case measure => simp [intOf]; omega
    · obtain rfl : i = n := by omega
      have hrle := rnk_le cf i
      obtain ⟨pa, pc, va, vc, ev, hrows⟩ := HH.out.rows (by omega) (fun p hp => by
        have h1 : (partL cf i p).length ≤ (List.range i).length := List.length_filter_le _ _
        simp at h1
        omega)
      subst ev
      have HR : Hid (IRows wr pa (rnk cf i) va vc (partL cf i)) := hrows
      have Hbf : Hid (Below wk.heap.size wk wr) := HH.out.bel
      have Hrow : Hid (wr.rowIs pfb 3 i (fun j => .int .i64 ((pof cf j : Nat) : Int))) := HH.out.row.congr (fun j hj => by simp [hj])
      clear hrows
      go_upto_region 43 with fail
      exact HN.out wr pb hb sz fb pfb (rnk cf i) pc pa la2 lc2 va vc (HB.out.trans (Hbf.out.mono HB.out.size)) (HP.out.below Hbf.out) (HKM.out.below Hbf.out) rfl Hrow.out HR.out _ _ _ _ _ _ _ _ _ _ _ _ _ _ _ _ _ _ _ _ _ _ _ _ _ _ _ _ _ _ _ _ _ _ _ _ _ _ _ _ _ _ _ _ _ _ _ _ _ _ _ _ _ _ _ _ _ _ _ _ _ _ _ _ _ _ _ _ _ _ _ _ _ _ _ _ _ _ _ _ _ _ _ _ _ _ _ _ _ _ _ _ _ _ _ _ _ _ _ _ _ _ _ _ _ _ _ _ _ _ _ _ _ _ _ _ _ _ _ _ _ _ _ _ _ _ _ _ _ _ _ _ _ _ _ _ _ _ _ _ _ _ _ _ _ _ _ _ _ _ _ _ _ _ _ _ _ _ _ _ _ _ _ _ _ _ _ _ _ _ _ _ _ _ _ _ _ _ _ _ _ _ _ _ _ _ _ _ _ _ _ _ _ _ _ _ _ _ _ _ _ _ _ _ _ _ _ _ _ _ _ _ _ _ _ _ _ _ _ _ _ _ _ _ _ _ _ _ _ _ _ _ _ _ _ _ _ _ _ _ _ _ _ _ _ _ _ _ _ _ _ _ _ _ _ _ _ _ _ _ _ _ _ _ _ _ _ _ _ _ _ _ _ _ _ _ _ _ _ _ _ _ _ _ _ _ _ _ _ _ _ _ _ _ _ _ _ _ _ _ _ _ _ _ _ _ _ _ _ _ _ _ _ _ _ _ _ _ _ _ _ _ _ _ _ _ _ _ _ _ _ _ _ _ _ _ (by assumption)
end Go.Proofs.Qxb6605609a

