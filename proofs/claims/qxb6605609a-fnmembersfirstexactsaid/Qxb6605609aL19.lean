/-
  FnMembersFirstMembersBefore: regions 19 to 44.
-/
import Derived.Test.Qxb6605609aLb
import Derived.Deep.RegionWith
import Derived.LaidEqlPtr
namespace Go.Proofs.Qxb6605609a
open Go.RowKit
variable {w : World} {ss : Nat → ByteArray} {la : Nat → Option Addr} {ln lc : Nat → Nat} {ms : Nat → Nat → ByteArray} {Post : Ending → World → Prop}

theorem elem37g {b off n c k : Nat} (hk : k < n) (w : World) : (Instr.indexAt 37 (.slice (some ⟨b, off, none⟩) n c) (.int .i64 (k : Int))).run Try.prog w = .ok (.pointer (some ⟨b, off + k * 5, none⟩)) w := by
  have h1 : (k : Int) < (n : Int) := by omega
  have h2 : (0 : Int) ≤ (k : Int) := by omega
  go_simp

theorem Created.cells {wx : World} {cb n : Nat} {gb : Nat → Nat} {la : Nat → Option Addr} {ln lc : Nat → Nat} (h : Created wx cb n gb ss la ln lc ms) {i : Nat} (hi : i < n) : wx.cell? ⟨cb, i * 5 + 4, none⟩ = some (.pointer (some ⟨gb i, 0, none⟩)) ∧ wx.cell? ⟨gb i, 0, none⟩ = some (.string (ss i)) ∧ wx.cell? ⟨gb i, 2, none⟩ = some (.slice (la i) (ln i) (lc i)) := by
  have g := h.grp i hi
  refine ⟨?_, by simp [World.cell?, g, grpObj], by simp [World.cell?, g, grpObj]⟩
  have := h.row.cell (show i * 5 + 4 < n * 5 by omega)
  rw [chCell4] at this
  exact this

theorem neq48 (b : Nat) (w : World) : (binOp .neq 48 (.pointer (some ⟨b, 0, none⟩)) (.pointer (some ⟨b, 0, none⟩))).run Try.prog w = .ok (.bool false) w := by
  obtain ⟨j, hj⟩ : ∃ j, Try.prog.info? 52 = some j := Option.isSome_iff_exists.1 (by kernel_rfl)
  have h : ∀ d : Nat, (Op.equalIn (d + 1) 48 (.pointer (some ⟨b, 0, none⟩)) (.pointer (some ⟨b, 0, none⟩))).run Try.prog w = .ok true w := fun d => by
    simp [Op.equalIn, run_underlying Try.underlying48, sizeOf, typeInfo, hj, run_sameAddr_same]
  simp only [binOp]
  simp [Op.equal, Op.maxDepth, h 9999]

/-- What is known of the places' positions after k rounds. -/
def PosOk (out : List Nat) (k : Nat) (pv : Nat → Int) : Prop := (∀ q, q < k → pv (out.getD q 0) = (q : Int)) ∧ ∀ i, (∀ q, q < k → out.getD q 0 ≠ i) → pv i = -1

theorem pos_step {W1 w5 : World} {pb ob n t i : Nat} {pv : Nat → Int} {out : List Nat} (Hp : w5.rowIs pb 3 n (fun i => .int .i64 (pv i))) (Ho : w5.rowIs ob 3 n (fun x => .int .i64 (((if x < t then out.getD x 0 else 0) : Nat) : Int))) (hne : pb < ob) (hin : i < n) (hlt : t < n) (hi : i = out.getD t 0) (hb : Below W1.heap.size W1 w5) (h1 : W1.heap.size ≤ pb) (h2 : W1.heap.size ≤ ob) :
    w5.cell? ⟨pb, i, none⟩ = some (.int .i64 (pv i)) ∧ w5.frozen? ⟨pb, i, none⟩ = false ∧ (w5.setCell ⟨pb, i, none⟩ (.int .i64 (t : Int))).cell? ⟨ob, t, none⟩ = some (.int .i64 (((if t < t then out.getD t 0 else 0) : Nat) : Int)) ∧ (w5.setCell ⟨pb, i, none⟩ (.int .i64 (t : Int))).frozen? ⟨ob, t, none⟩ = false ∧
    Hid (((w5.setCell ⟨pb, i, none⟩ (.int .i64 (t : Int))).setCell ⟨ob, t, none⟩ (.int .i64 (i : Int))).rowIs pb 3 n (fun x => .int .i64 (if x = i then (t : Int) else pv x)) ∧ ((w5.setCell ⟨pb, i, none⟩ (.int .i64 (t : Int))).setCell ⟨ob, t, none⟩ (.int .i64 (i : Int))).rowIs ob 3 n (fun x => .int .i64 (((if x < t + 1 then out.getD x 0 else 0) : Nat) : Int)) ∧ Below W1.heap.size W1 ((w5.setCell ⟨pb, i, none⟩ (.int .i64 (t : Int))).setCell ⟨ob, t, none⟩ (.int .i64 (i : Int)))) := by
  have k1 : KB (fun b => b = pb) w5 (w5.setCell ⟨pb, i, none⟩ (.int .i64 (t : Int))) := KB.setCell (p := ⟨pb, i, none⟩) (KB.refl (fun b => b = pb) w5) (fun _ => rfl) _
  have Ho1 := rowIs_keep Ho k1 (by omega)
  have k2 : KB (fun b => b = ob) (w5.setCell ⟨pb, i, none⟩ (.int .i64 (t : Int))) ((w5.setCell ⟨pb, i, none⟩ (.int .i64 (t : Int))).setCell ⟨ob, t, none⟩ (.int .i64 (i : Int))) := KB.setCell (p := ⟨ob, t, none⟩) (KB.refl (fun b => b = ob) _) (fun _ => rfl) _
  refine ⟨Hp.cell hin, Hp.frozen i, Ho1.cell hlt, Ho1.frozen t, rowIs_keep ((Hp.set i _).congr (fun x _ => ?_)) k2 (by omega), (Ho1.set t _).congr (fun x _ => ?_), (hb.setCell (p := ⟨pb, i, none⟩) h1 _).setCell (p := ⟨ob, t, none⟩) h2 _⟩
  · by_cases e : x = i <;> simp [e]
  · by_cases e : x = t
    · subst e
      rw [if_pos rfl, if_pos (by omega), hi]
    · rw [if_neg e]
      by_cases e2 : x < t
      · rw [if_pos e2, if_pos (by omega)]
      · rw [if_neg e2, if_neg (by omega)]
theorem PosOk.step {out : List Nat} {t n i : Nat} {pv : Nat → Int} (h : PosOk out t pv) (hi : i = out.getD t 0) (ht : t < n) (hnd : ∀ k k', k < n → k' < n → out.getD k 0 = out.getD k' 0 → k = k') : PosOk out (t + 1) (fun x => if x = i then (t : Int) else pv x) := by
  refine ⟨fun q hq => ?_, fun x hx => ?_⟩
  · show (if out.getD q 0 = i then (t : Int) else pv (out.getD q 0)) = (q : Int)
    by_cases e : q = t
    · rw [e, if_pos hi.symm]
    · have : out.getD q 0 ≠ i := fun e2 => e (hnd q t (by omega) ht (by rw [e2, hi]))
      rw [if_neg this]
      exact h.1 q (by omega)
  · show (if x = i then (t : Int) else pv x) = -1
    have : x ≠ i := fun e => hx t (by omega) (by rw [e, hi])
    rw [if_neg this]
    exact h.2 x (fun q hq => hx q (by omega))

set_option maxRecDepth 1000000 in
set_option maxHeartbeats 8000000 in
theorem law19 (hssz : ∀ i, (ss i).size ≤ maxLen) (hnext : L45 w ss ln ms Post) : L19 w ss ln ms Post := by
  intro wk a a1 ga n c c1 gc cb gb la la2 lc lc2 cf out hbel hs hL hn hln hasc hcr htold hcf hok y2 y3 y4 y5 y9 y10 y11 y12 y13 y14 y15 y16 y17 y18 y19 y20 y21 y22 y23 y24 y25 y26 y27 y28 y29 y30 y31 y32 y33 y34 y35 y36 y37 y38 y39 y40 y41 y42 y43 y44 y45 y46 y47 y48 y49 y50 y51 y52 y53 y54 y55 y56 y57 y58 y59 y60 y61 y62 y63 y64 y65 y66 y67 y68 y69 y70 y71 y72 y73 y74 y75 y76 y77 y78 y79 y80 y81 y82 y83 y84 y85 y86 y87 y88 y89 y90 y91 y92 y93 y94 y95 y96 y97 y98 y99 y100 y101 y102 y103 y104 y105 y106 y107 y108 y109 y110 y111 y112 y113 y114 y115 y116 y117 y118 y119 y120 y121 y122 y123 y124 y125 y126 y127 y128 y129 y130 y131 y132 y133 y134 y135 y136 y137 y138 y139 y140 y141 y142 y143 y144 y145 y146 y147 y148 y149 y150 y151 y152 y153 y154 y155 y156 y157 y158 y159 y160 y161 y162 y163 y164 y165 y166 y167 y168 y169 y170 y171 y172 y173 y174 y175 y176 y177 y178 y179 y180 y181 y182 y183 y184 y185 y186 y187 y188 y189 y190 y191 y192 y193 y194 y195 y196 y197 y198 y199 y200 y201 y202 y203 y204 y205 y206 y207 y208 y209 y210 y211 y212 y213 y214 y215 y216 y217 y218 y219 y220 y221 y222 y223 y224 y225 y226 y227 y228 y229 y230 y231 y232 y233 y234 y235 y236 y237 y238 y239 y240 y241 y242 y243 y244 y245 y246 y247 y248 y249 y250 y251 y252 y253 y254 y255 y256 y257 y258 y259 y260 y261 y262 y263 y264 y265 y266 y267 y268 y269 y270 y271 y272 y273 y274 y275 y276 y277 K hK
  have HN : Hid (L45 w ss ln ms Post) := hnext
  have HB : Hid (Below w.heap.size w wk) := hbel
  have HO : Hid (OutOk (adjL ss n ln ms) n cf out) := hok
  have HS : Hid (SlAt wk a n (fun j => .string (ss j))) := hs
  have HLi : Hid (Lists wk a1 n la ln lc ms) := hL
  have Hln : Hid (∀ k, k < n → ln k ≤ 131072) := hln
  have HA : Hid (Asc ss n) := hasc
  have HCr : Hid (Created wk cb n gb ss la2 ln lc2 ms) := hcr
  have HTo : Hid (Told wk ga gb out) := htold
  have Hcf : Hid (∀ x, x < n → LeastOf (adjL ss n ln ms) n x (cf x)) := hcf
  have Hsz : Hid (∀ i, (ss i).size ≤ maxLen) := hssz
  have hmk := makeMap53
  have hmi := makeInts n (by omega)
  clear hnext hbel hok hcf hs hL hln hasc hcr htold hssz
  have hr := rfl (a := rest6 19)
  conv at hr => lhs; whnf
  rw [← hr] at hK
  clear hr
  conv => arg 2; whnf
  go_wp2_with fail
  clear hmk
  go_loopw [10] (fun v wx => ∃ k : Nat, k ≤ n ∧ v = .int .i64 k ∧ Hid (SMap wx wk.heap.size k (fun s => (idxOf ss k s).map fun i : Nat => Value.int .i64 (i : Int))) ∧ Hid (Below wk.heap.size wk wx)) (fun v _ => n - (intOf v).toNat)
  case atStart => exact ⟨0, Nat.zero_le _, rfl, SMap.made wk, (Below.refl _ _).alloc (Nat.le_refl _) _⟩
  case round =>
    obtain ⟨k, hk, rfl, Hm, Hbw⟩ := hrel
    by_cases hlt : k < n
    · obtain ⟨b1, o1, hb1, hix1, hc1'⟩ := HS.out.elem22 hlt c
      have hc1 : wr.cell? ⟨b1, o1, none⟩ = some (.string (ss k)) := (Hbw.out.cell (p := ⟨b1, o1, none⟩) hb1).trans hc1'
      obtain ⟨w1, hrun, hm1, hg1⟩ := Hm.out.update Try.underlying53 (Hsz.out k) (by unfold maxLen; omega) (.int .i64 (k : Int))
      have Hm1 : Hid (SMap w1 wk.heap.size (k + 1) (fun s => (idxOf ss (k + 1) s).map fun i : Nat => Value.int .i64 (i : Int))) := map_step hlt HA.out.facts.1 hm1
      have Hb1 : Hid (Below wk.heap.size wk w1) := Hbw.out.grown hg1 Hbw.out.size (fun i hi => by cases hi; exact Nat.le_refl _)
      clear hm1 hg1 hc1'
      go_wp2_with fail
      go_roundw
      case rel => exact ⟨k + 1, by omega, by go_num, Hm1, Hb1⟩
      case measure => simp [intOf]; omega
    · obtain rfl : k = n := by omega
      go_wp2_with fail
      obtain ⟨pb, hpb⟩ : ∃ pb, pb = wr.heap.size := ⟨_, rfl⟩
      have H0 : Hid ((wr.alloc (.cells (madeInts k) 3)).rowIs pb 3 k (fun _ => .int .i64 0)) := by rw [hpb]; exact World.rowIs_made wr (.int .i64 0) k 3
      have Hpl : Hid (wr.heap.size ≤ pb) := by (show wr.heap.size ≤ pb; omega)
      have Hm2 : Hid (Place wr wk.heap.size k ss) := Hm
      obtain ⟨W1, hW1⟩ : ∃ W, W = wr := ⟨_, rfl⟩
      have HW1 : Hid (Place W1 wk.heap.size k ss ∧ Below wk.heap.size wk W1 ∧ W1.heap.size ≤ pb) := by rw [hW1]; exact ⟨Hm2, Hbw, Hpl⟩
      have Hst : Hid (Below W1.heap.size W1 (wr.alloc (.cells (madeInts k) 3))) := by rw [hW1]; exact (Below.refl _ _).alloc (Nat.le_refl _) _
      rw [← hpb]
      clear hpb Hm Hm2 Hpl Hbw hW1
      go_loopw [12] (fun v wx => ∃ q : Nat, q ≤ k ∧ v = .int .i64 q ∧ Hid (wx.rowIs pb 3 k (fun j => .int .i64 (if j < q then -1 else 0))) ∧ Hid (Below W1.heap.size W1 wx)) (fun v _ => k - (intOf v).toNat)
      case atStart => exact ⟨0, Nat.zero_le _, rfl, H0.out.congr (fun j _ => by simp), Hst⟩
      case round =>
        obtain ⟨q, hq, rfl, Hr, Hbw⟩ := hrel
        clear H0 Hst
        by_cases hlt2 : q < k
        · have hx := fun w => elem43 (b := pb) (c := k) hlt2 w
          have hcq := Hr.out.cell hlt2
          have hfq := Hr.out.frozen q
          have Hr2 : Hid ((wr.setCell ⟨pb, q, none⟩ (.int .i64 (-1))).rowIs pb 3 k (fun j => .int .i64 (if j < q + 1 then -1 else 0))) := (Hr.out.set q _).congr (fun j _ => by
            by_cases e : j = q
            · subst e; simp
            · by_cases e2 : j < q
              · simp [e, e2, show j < q + 1 by omega]
              · simp [e, e2, show ¬ j < q + 1 by omega])
          have Hb2 : Hid (Below W1.heap.size W1 (wr.setCell ⟨pb, q, none⟩ (.int .i64 (-1)))) := Hbw.out.setCell (p := ⟨pb, q, none⟩) HW1.out.2.2 _
          go_wp2_with fail
          go_roundw
          case rel => exact ⟨q + 1, by omega, by go_num, Hr2, Hb2⟩
          case measure => simp [intOf]; omega
        · obtain rfl : q = k := by omega
          go_wp2_with fail
          clear hmi
          obtain ⟨ob, hob⟩ : ∃ ob, ob = wr.heap.size := ⟨_, rfl⟩
          have Ho0 : Hid ((wr.alloc (.cells (madeInts q) 3)).rowIs ob 3 q (fun x => .int .i64 (((if x < 0 then out.getD x 0 else 0) : Nat) : Int))) := by rw [hob]; exact (World.rowIs_made wr (.int .i64 0) q 3).congr (fun j _ => by simp)
          have Hp0 : Hid ((wr.alloc (.cells (madeInts q) 3)).rowIs pb 3 q (fun _ => .int .i64 (-1))) := (rowIs_keep Hr.out ((KB.refl (fun _ => False) wr).alloc _) id).congr (fun j hj => by simp [hj])
          have Hst2 : Hid (Below W1.heap.size W1 (wr.alloc (.cells (madeInts q) 3))) := Hbw.out.alloc Hbw.out.size _
          have Hob : Hid (pb < ob ∧ W1.heap.size ≤ ob) := by
            have h1 := Hr.out.lt
            have h2 := Hbw.out.size
            exact ⟨by omega, by omega⟩
          rw [← hob]
          clear hob Hr Hbw
          have hlen := HO.out.len
          obtain ⟨HL, HLe⟩ : ∃ x : Nat, x = 0 := ⟨0, rfl⟩
          clear HLe
          go_loopw [4, 14, 15, 16, 17] (fun _ v _ _ _ wx => ∃ (t : Nat) (pv : Nat → Int), t ≤ q ∧ v = .int .i64 t ∧ Hid (wx.rowIs pb 3 q (fun i => .int .i64 (pv i))) ∧ Hid (wx.rowIs ob 3 q (fun x => .int .i64 (((if x < t then out.getD x 0 else 0) : Nat) : Int))) ∧ Hid (PosOk out t pv) ∧ Hid (Below W1.heap.size W1 wx)) (fun _ v _ _ _ _ => q - (intOf v).toNat)
          case atStart => exact ⟨0, fun _ => -1, Nat.zero_le _, rfl, Hp0, Ho0, ⟨fun x hx => by omega, fun _ _ => rfl⟩, Hst2⟩
          case round =>
            obtain ⟨t, pv, ht, rfl, Hp, Ho, Hpv, Hbw⟩ := hrel
            clear Hp0 Ho0 Hst2
            have hbk : Below wk.heap.size wk wr := HW1.out.2.1.trans (Hbw.out.mono HW1.out.2.1.size)
            by_cases hlt4 : t < q
            · obtain ⟨i, hi⟩ : ∃ i, i = out.getD t 0 := ⟨_, rfl⟩
              have hin : i < q := by rw [hi]; exact HO.out.lt t hlt4
              have Hi : Hid (i = out.getD t 0) := hi
              obtain ⟨gbk, goff, ega, hgb, hgc⟩ := HTo.out.2 (by omega)
              have hg : ∀ f, f < 5 → wr.cell? ⟨gbk, goff + t * 5 + f, none⟩ = some (chCell gb (i * 5 + f)) := fun f hf => by
                have h1 := hgc t f (by omega) hf
                rw [← hi, ← Nat.add_assoc] at h1
                exact (hbk.cell (p := ⟨gbk, goff + t * 5 + f, none⟩) hgb).trans h1
              have g0 := hg 0 (by omega)
              have g1 := hg 1 (by omega)
              have g2 := hg 2 (by omega)
              have g3 := hg 3 (by omega)
              have g4 := hg 4 (by omega)
              rw [Nat.add_zero, Nat.add_zero, chCell0] at g0
              rw [chCell1] at g1
              rw [chCell2] at g2
              rw [chCell3] at g3
              rw [chCell4] at g4
              subst ega
              have hxg := fun w => elem37g (b := gbk) (off := goff) (c := gc) hlt4 w
              have hxc := fun w => elem37 (cb := cb) hin w
              have hcr := HCr.out.below hbk
              obtain ⟨d4, d0, d2⟩ := hcr.cells hin
              have hpl := (HW1.out.1.below Hbw.out).lookOk Try.underlying53 (zero3 wr) (Hsz.out i)
              rw [idxOf_at HA.out.facts.1 hin] at hpl
              simp only [Option.map_some, Option.getD_some, Option.isSome_some] at hpl
              have hxp := fun w => elem43 (b := pb) (c := q) hin w
              have hpi := Hp.out.cell hin
              have hpvi : pv i = -1 := Hpv.out.2 i (fun x hx e => by
                have := HO.out.nd x t (by omega) hlt4 (by rw [e, hi])
                omega)
              rw [hpvi] at hpi
              obtain ⟨b7, o7, _, hix7, hc7⟩ := (HLi.out.below hbk).outer.elem23 hin c1
              have hsame := same13 (la2 i) (la i) (ln i) (lc2 i) (lc i) (ms i) wr.drew ((hcr.mem i hin).below (Below.refl _ _).drew) (((HLi.out.below hbk).inner i hin).below (Below.refl _ _).drew)
              have hnq := fun w => neq48 (gb i) w
              clear hgc hg hi hpvi hcr hgb
              go_upto_region 41 with fail
              go_region_with (go_at_call 13; refine hsame.mono ?_; rintro e w5 ⟨rfl, hb5⟩; have hb5' : Below wr.heap.size wr w5 := ⟨hb5.os, hb5.tape, hb5.output, hb5.size, hb5.block⟩; obtain ⟨p1, p2, p3, p4, HF⟩ := pos_step (W1 := W1) (Hp.out.of_block (hb5'.block pb Hp.out.lt)) (Ho.out.of_block (hb5'.block ob Ho.out.lt)) Hob.out.1 hin hlt4 Hi.out (Hbw.out.trans (hb5'.mono Hbw.out.size)) HW1.out.2.2 Hob.out.2; have hxo := fun w => elem43 (b := ob) (c := q) hlt4 w; clear hb5 hb5')
              all_goals (go_wp2_with fail; go_roundw)
              all_goals first | (simp [intOf]; omega; done) | exact ⟨t + 1, _, by omega, by go_num, HF.out.1, HF.out.2.1, Hpv.out.step Hi.out hlt4 HO.out.nd, HF.out.2.2⟩
            · obtain rfl : t = q := by omega
              have hnn : ∀ i, i < t → ∃ k : Nat, k < t ∧ out.getD k 0 = i ∧ pv i = (k : Int) := fun i hi => by
                obtain ⟨k, hk, e⟩ := HO.out.all i hi
                exact ⟨k, hk, e, by rw [← e]; exact Hpv.out.1 k hk⟩
              have HP2 : Hid (wr.rowIs pb 3 t (fun i => .int .i64 (((pv i).toNat : Nat) : Int))) := Hp.out.congr (fun i hi => by
                obtain ⟨k, _, _, e⟩ := hnn i hi
                rw [e]
                rfl)
              have HO2 : Hid (wr.rowIs ob 3 t (fun x => .int .i64 ((out.getD x 0 : Nat) : Int))) := Ho.out.congr (fun x hx => by simp [hx])
              have Hpo : Hid (∀ k, k < t → (pv (out.getD k 0)).toNat = k) := fun k hk => by rw [Hpv.out.1 k hk]; rfl
              have Hbk : Hid (Below wk.heap.size wk wr) := hbk
              clear hnn hbk
              go_upto_region 45 with fail
              exact HN.out wr a a1 ga t c c1 gc cb pb ob la lc cf out (fun i => (pv i).toNat) (HB.out.trans (Hbk.out.mono HB.out.size)) (HS.out.below Hbk.out) (HLi.out.below Hbk.out) hn Hln.out HA.out Hcf.out HO.out Hpo.out HP2.out HO2.out _ _ _ _ _ _ _ _ _ _ _ _ _ _ _ _ _ _ _ _ _ _ _ _ _ _ _ _ _ _ _ _ _ _ _ _ _ _ _ _ _ _ _ _ _ _ _ _ _ _ _ _ _ _ _ _ _ _ _ _ _ _ _ _ _ _ _ _ _ _ _ _ _ _ _ _ _ _ _ _ _ _ _ _ _ _ _ _ _ _ _ _ _ _ _ _ _ _ _ _ _ _ _ _ _ _ _ _ _ _ _ _ _ _ _ _ _ _ _ _ _ _ _ _ _ _ _ _ _ _ _ _ _ _ _ _ _ _ _ _ _ _ _ _ _ _ _ _ _ _ _ _ _ _ _ _ _ _ _ _ _ _ _ _ _ _ _ _ _ _ _ _ _ _ _ _ _ _ _ _ _ _ _ _ _ _ _ _ _ _ _ _ _ _ _ _ _ _ _ _ _ _ _ _ _ _ _ _ _ _ _ _ _ _ _ _ _ _ _ _ _ _ _ _ _ _ _ _ _ _ _ _ _ _ _ _ _ _ _ _ _ _ _ _ _ _ _ _ _ _ _ _ _ _ _ _ _ _ _ _ _ _ _ _ _ _ _ _ _ _ _ _ (by assumption)

end Go.Proofs.Qxb6605609a

