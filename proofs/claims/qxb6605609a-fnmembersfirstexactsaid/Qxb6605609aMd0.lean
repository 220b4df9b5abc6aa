/-
  zzMembersFirstModel: regions 0 to 6.
-/
import Derived.Test.Qxb6605609aMd6
namespace Go.Proofs.Qxb6605609a
open Go.RowKit

set_option maxRecDepth 1000000 in
def D2 (w : World) (ga ca : Option Addr) (gc cc n : Nat) (Post : Ending → World → Prop) : Prop :=
  ∀ (y2 y3 y6 y7 y8 y9 y10 y11 y12 y13 y14 y15 y16 y17 y18 y19 y20 y21 y22 y23 y24 y25 y26 y27 y28 y29 y30 y31 y32 y33 y34 y35 y36 y37 y38 y39 y40 y41 y42 y43 y44 y45 y46 y47 y48 y49 y50 y51 y52 y53 y54 y55 y56 y57 y58 y59 y60 y61 y62 y63 y64 y65 y66 y67 y68 y69 y70 y71 y72 y73 y74 y75 y76 y77 y78 y79 y80 y81 y82 y83 y84 y85 y86 y87 y88 y89 y90 y91 y92 y93 y94 y95 y96 y97 y98 y99 y100 y101 y102 y103 y104 y105 y106 y107 y108 y109 y110 y111 y112 y113 y114 y115 y116 y117 y118 y119 y120 y121 y122 y123 y124 y125 y126 y127 y128 y129 y130 y131 y132 y133 y134 y135 y136 y137 y138 y139 y140 y141 y142 y143 y144 y145 y146 y147 y148 y149 y150 y151 y152 y153 y154 y155 y156 y157 y158 y159 y160 y161 y162 y163 y164 y165 y166 y167 y168 y169 y170 y171 y172 y173 y174 y175 y176 y177 y178 y179 y180 y181 y182 y183 y184 y185 y186 y187 y188 y189 y190 y191 y192 y193 y194 y195 y196 y197 y198 y199 : Value), From21 2 Post ⟨#[.slice ga n gc, .slice ca n cc, y2, y3, .slice none 0 0, .int .i64 (n : Int), y6, y7, y8, y9, y10, y11, y12, y13, y14, y15, y16, y17, y18, y19, y20, y21, y22, y23, y24, y25, y26, y27, y28, y29, y30, y31, y32, y33, y34, y35, y36, y37, y38, y39, y40, y41, y42, y43, y44, y45, y46, y47, y48, y49, y50, y51, y52, y53, y54, y55, y56, y57, y58, y59, y60, y61, y62, y63, y64, y65, y66, y67, y68, y69, y70, y71, y72, y73, y74, y75, y76, y77, y78, y79, y80, y81, y82, y83, y84, y85, y86, y87, y88, y89, y90, y91, y92, y93, y94, y95, y96, y97, y98, y99, y100, y101, y102, y103, y104, y105, y106, y107, y108, y109, y110, y111, y112, y113, y114, y115, y116, y117, y118, y119, y120, y121, y122, y123, y124, y125, y126, y127, y128, y129, y130, y131, y132, y133, y134, y135, y136, y137, y138, y139, y140, y141, y142, y143, y144, y145, y146, y147, y148, y149, y150, y151, y152, y153, y154, y155, y156, y157, y158, y159, y160, y161, y162, y163, y164, y165, y166, y167, y168, y169, y170, y171, y172, y173, y174, y175, y176, y177, y178, y179, y180, y181, y182, y183, y184, y185, y186, y187, y188, y189, y190, y191, y192, y193, y194, y195, y196, y197, y198, y199], []⟩ w

set_option maxRecDepth 1000000 in
set_option maxHeartbeats 4000000 in
theorem model0 {w : World} {ga ca : Option Addr} {gc cc n : Nat} {va : Nat → Option Addr} {vc : Nat → Nat} {adj : Nat → List Nat} {cf : Nat → Nat} {Post : Ending → World → Prop} (hM : MD w ga n va vc adj ca cf) (hnext : D2 w ga ca gc cc n Post) :
    Calls Try.prog 21 #[.slice ga n gc, .slice ca n cc] w Post := by
  have HN : Hid (D2 w ga ca gc cc n Post) := hnext
  have hn := hM.nle
  clear hM hnext
  go_enter Try.func21, Try.ntmps21
  go_upto_region 2 with fail
  exact HN.out _ _ _ _ _ _ _ _ _ _ _ _ _ _ _ _ _ _ _ _ _ _ _ _ _ _ _ _ _ _ _ _ _ _ _ _ _ _ _ _ _ _ _ _ _ _ _ _ _ _ _ _ _ _ _ _ _ _ _ _ _ _ _ _ _ _ _ _ _ _ _ _ _ _ _ _ _ _ _ _ _ _ _ _ _ _ _ _ _ _ _ _ _ _ _ _ _ _ _ _ _ _ _ _ _ _ _ _ _ _ _ _ _ _ _ _ _ _ _ _ _ _ _ _ _ _ _ _ _ _ _ _ _ _ _ _ _ _ _ _ _ _ _ _ _ _ _ _ _ _ _ _ _ _ _ _ _ _ _ _ _ _ _ _ _ _ _ _ _ _ _ _ _ _ _ _ _ _ _ _ _ _ _ _ _ _ _ _ _ _ _ _ _ _ _ _ _ (by assumption)

set_option maxRecDepth 1000000 in
set_option maxHeartbeats 4000000 in
theorem model2 {w : World} {ga ca : Option Addr} {gc cc n : Nat} {va : Nat → Option Addr} {vc : Nat → Nat} {adj : Nat → List Nat} {cf : Nat → Nat} {Post : Ending → World → Prop} (hM : MD w ga n va vc adj ca cf) (hnext : D7 w ga ca gc cc n cf Post) : D2 w ga ca gc cc n Post := by
  intro y2 y3 y6 y7 y8 y9 y10 y11 y12 y13 y14 y15 y16 y17 y18 y19 y20 y21 y22 y23 y24 y25 y26 y27 y28 y29 y30 y31 y32 y33 y34 y35 y36 y37 y38 y39 y40 y41 y42 y43 y44 y45 y46 y47 y48 y49 y50 y51 y52 y53 y54 y55 y56 y57 y58 y59 y60 y61 y62 y63 y64 y65 y66 y67 y68 y69 y70 y71 y72 y73 y74 y75 y76 y77 y78 y79 y80 y81 y82 y83 y84 y85 y86 y87 y88 y89 y90 y91 y92 y93 y94 y95 y96 y97 y98 y99 y100 y101 y102 y103 y104 y105 y106 y107 y108 y109 y110 y111 y112 y113 y114 y115 y116 y117 y118 y119 y120 y121 y122 y123 y124 y125 y126 y127 y128 y129 y130 y131 y132 y133 y134 y135 y136 y137 y138 y139 y140 y141 y142 y143 y144 y145 y146 y147 y148 y149 y150 y151 y152 y153 y154 y155 y156 y157 y158 y159 y160 y161 y162 y163 y164 y165 y166 y167 y168 y169 y170 y171 y172 y173 y174 y175 y176 y177 y178 y179 y180 y181 y182 y183 y184 y185 y186 y187 y188 y189 y190 y191 y192 y193 y194 y195 y196 y197 y198 y199 K hK
  have HM : Hid (MD w ga n va vc adj ca cf) := hM
  have HN : Hid (D7 w ga ca gc cc n cf Post) := hnext
  have hn := hM.nle
  have hmr := makeRows n (by omega)
  clear hM hnext
  have hr := rfl (a := rest21 2)
  conv at hr => lhs; whnf
  rw [← hr] at hK
  clear hr
  conv => arg 2; whnf
  go_wp2_with fail
  clear hmr
  have H0 : Hid (Grid (w.alloc (.cells (madeRows n) 43)) w.heap.size n w.heap.size (fun _ => .slice none 0 0) (partC cf 0) ∧ Below w.heap.size w (w.alloc (.cells (madeRows n) 43))) := ⟨Grid.made w n w.heap.size, (Below.refl _ _).alloc (Nat.le_refl _) _⟩
  obtain ⟨ob, hob⟩ : ∃ ob, ob = w.heap.size := ⟨_, rfl⟩
  have H1 : Hid (Grid (w.alloc (.cells (madeRows n) 43)) ob n w.heap.size (fun _ => .slice none 0 0) (partC cf 0) ∧ Below w.heap.size w (w.alloc (.cells (madeRows n) 43))) := by rw [hob]; exact H0
  have Hob : Hid (w.heap.size ≤ ob) := by (show w.heap.size ≤ ob; omega)
  have hcw : (Value.slice (some ⟨w.heap.size, 0, none⟩) n n) = .slice (some ⟨ob, 0, none⟩) n n := by rw [hob]
  rw [hcw]
  clear H0 hob hcw
  go_loopw [7] (fun v wx => ∃ (i : Nat) (val : Nat → Value), i ≤ n ∧ v = .int .i64 i ∧ Hid (Grid wx ob n w.heap.size val (partC cf i) ∧ Below w.heap.size w wx)) (fun v _ => n - (intOf v).toNat)
  case atStart => exact ⟨0, _, Nat.zero_le _, rfl, H1⟩
  case round =>
    obtain ⟨i, val, hi, rfl, HG⟩ := hrel
    clear H1
    by_cases hlt : i < n
    · have hcr := HM.out.comp
      obtain ⟨b1, o1, hb1, hix1, hc1'⟩ := hcr.elem43 hlt cc
      have hc1 : wr.cell? ⟨b1, o1, none⟩ = some (.int .i64 ((cf i : Nat) : Int)) := (HG.out.2.cell (p := ⟨b1, o1, none⟩) hb1).trans hc1'
      have hfar : ¬ GridIn ob n val b1 := fun h => by
        have := HG.out.1.low Hob.out h
        have h2 : b1 < w.heap.size := hb1
        omega
      have hql := HM.out.lt i hlt
      have hll : (partC cf i (cf i)).length ≤ 4096 := by have := partC_len cf hi (cf i); omega
      clear hcr hc1'
      go_wp2_with fail
      refine region6 HG.out.1 HG.out.2.size hql hll hix1 hc1 hfar _ _ _ _ _ _ _ _ _ _ _ _ _ _ _ _ _ _ _ _ _ _ _ _ _ _ _ _ _ _ _ _ _ _ _ _ _ _ _ _ _ _ _ _ _ _ _ _ _ _ _ _ _ _ _ _ _ _ _ _ _ _ _ _ _ _ _ _ _ _ _ _ _ _ _ _ _ _ _ _ _ _ _ _ _ _ _ _ _ _ _ _ _ _ _ _ _ _ _ _ _ _ _ _ _ _ _ _ _ _ _ _ _ _ _ _ _ _ _ _ _ _ _ _ _ _ _ _ _ _ _ _ _ _ _ _ _ _ _ _ _ _ _ _ _ _ _ _ _ _ _ _ _ _ _ _ _ _ _ _ _ _ _ _ _ _ _ _ _ _ _ _ _ _ _ _ _ _ _ _ _ _ _ _ _ _ _ _ _ _ _ _ _ _ _ _ _ ?_
      rintro x val2 z34 z35 z36 z37 z38 z39 z40 z41 z42 z43 z44 z45 z46 z47 z48 z49 ⟨hx1, hx2, hx3⟩
      rw [← partC_succ] at hx1
      have HG2 : Hid (Grid x ob n w.heap.size val2 (partC cf (i + 1)) ∧ Below w.heap.size w x) := ⟨hx1, HG.out.2.trans (hx2.toBelow HG.out.2.size (fun k hk e => by have := HG.out.1.low Hob.out e; omega))⟩
      clear hx1 hx2 hx3 hc1 hfar hix1
      go_wp2_with fail
      go_roundw
      case rel => exact ⟨i + 1, _, by omega, by go_num, HG2⟩
      case measure => simp [intOf]; omega
    · obtain rfl : i = n := by omega
      obtain ⟨pva, pvc, hr⟩ := HG.out.1.rows (by omega) (fun r _ => by have := partC_len cf (Nat.le_refl i) r; omega)
      have HR : Hid (IRows wr (some ⟨ob, 0, none⟩) i pva pvc (partC cf i)) := hr
      clear hr
      go_upto_region 7 with fail
      exact HN.out wr ob pva pvc HG.out.2 HR.out _ _ _ _ _ _ _ _ _ _ _ _ _ _ _ _ _ _ _ _ _ _ _ _ _ _ _ _ _ _ _ _ _ _ _ _ _ _ _ _ _ _ _ _ _ _ _ _ _ _ _ _ _ _ _ _ _ _ _ _ _ _ _ _ _ _ _ _ _ _ _ _ _ _ _ _ _ _ _ _ _ _ _ _ _ _ _ _ _ _ _ _ _ _ _ _ _ _ _ _ _ _ _ _ _ _ _ _ _ _ _ _ _ _ _ _ _ _ _ _ _ _ _ _ _ _ _ _ _ _ _ _ _ _ _ _ _ _ _ _ _ _ _ _ _ _ _ _ _ _ _ _ _ _ _ _ _ _ _ _ _ _ _ _ _ _ _ _ _ _ _ _ _ _ _ _ _ _ _ _ _ _ _ _ _ _ _ _ _ _ _ _ _ _ _ _ (by assumption)

end Go.Proofs.Qxb6605609a
