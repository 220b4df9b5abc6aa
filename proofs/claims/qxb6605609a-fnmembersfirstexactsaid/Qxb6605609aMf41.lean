/-
  membersFirst: region 41: 'parts[partOf[i]] = append(parts[partOf[i]], i)'.
-/
import Derived.Test.Qxb6605609aMfParts
namespace Go.Proofs.Qxb6605609a
open Go.RowKit

theorem elem43 {b n c i : Nat} (hi : i < n) (w : World) : (Instr.indexAt 43 (.slice (some ⟨b, 0, none⟩) n c) (.int .i64 (i : Int))).run Try.prog w = .ok (.pointer (some ⟨b, i, none⟩)) w := by
  have h1 : (i : Int) < (n : Int) := by omega
  have h2 : (0 : Int) ≤ (i : Int) := by omega
  go_simp
theorem elem40 {b n c i : Nat} (hi : i < n) (w : World) : (Instr.indexAt 40 (.slice (some ⟨b, 0, none⟩) n c) (.int .i64 (i : Int))).run Try.prog w = .ok (.pointer (some ⟨b, i, none⟩)) w := by
  have h1 : (i : Int) < (n : Int) := by omega
  have h2 : (0 : Int) ≤ (i : Int) := by omega
  go_simp

/-- The region of number k. -/
def regAt (k : Nat) : Code → Option Code
  | .region n o d => if n == k then some (.region n o d) else none
  | .seq a b => match regAt k a with
    | some c => some c
    | none => regAt k b
  | .block _ c => regAt k c
  | .loop c => regAt k c
  | .scope c => regAt k c
  | .cond _ a b => match regAt k a with
    | some c => some c
    | none => regAt k b
  | _ => none
noncomputable def reg25 (k : Nat) : Code := (Try.f25.body.bind (regAt k)).getD .skip

set_option maxRecDepth 1000000 in
set_option maxHeartbeats 8000000 in
theorem region41 {cf : Nat → Nat} {wk wz : World} {pfb n m gv cv i q : Nat} {vl : Nat → Value} {L1 : Nat → List Nat} {K K2 K3 : Act → World → Prop} {Post : Ending → World → Prop}
    (hP : PSt cf wk wz pfb n (i + 1) m (.slice (some ⟨gv, 0, none⟩) m cv) vl L1) (hlt : i < n) (hq : pof cf i = q) (hqm : q < m) (hl : (L1 q).length ≤ 4096) (y0 y1 y2 y3 y4 y5 y6 y7 y8 y9 y10 y11 y12 y13 y14 y15 y16 y17 y21 y22 y23 y24 y25 y26 y27 y28 y29 y30 y31 y32 y33 y34 y35 y36 y37 y38 y39 y40 y41 y42 y43 y44 y45 y46 y47 y48 y49 y50 y51 y52 y53 y54 y55 y56 y57 y58 y59 y60 y61 y62 y63 y64 y65 y66 y67 y68 y69 y70 y71 y72 y73 y74 y75 y76 y77 y78 y79 y80 y81 y82 y83 y84 y85 y86 y87 y88 y89 y90 y91 y92 y93 y94 y95 y96 y97 y98 y99 y100 y101 y102 y103 y104 y105 y106 y107 y108 y109 y110 y111 y112 y113 y114 y115 y116 y117 y118 y119 y120 y121 y122 y123 y124 y125 y126 y127 y128 y129 y130 y131 y132 y133 y134 y135 y136 y137 y138 y139 y140 y141 y142 y143 y144 y145 y146 y147 y148 y149 y150 y151 y152 y153 y154 y155 y156 y157 y158 y159 y160 y161 y162 y163 y164 y165 y166 y167 y168 y169 y170 y171 y172 y173 y174 y175 y176 y177 y178 y179 y180 y181 y182 y183 y184 y185 y186 y187 y188 y189 y190 y191 y192 y193 y194 y195 y196 y197 y198 y199 y200 y201 y202 y203 y204 y205 y206 y207 y208 y209 y210 y211 y212 y213 y214 y215 y216 y217 y218 y219 y220 y221 y222 y223 y224 y225 y226 y227 y228 y229 y230 y231 y232 y233 y234 y235 y236 y237 y238 y239 y240 y241 y242 y243 y244 y245 y246 y247 y248 y249 y250 y251 y252 y253 y254 y255 y256 y257 y258 y259 y260 y261 y262 y263 y264 y265 y266 y267 y268 y269 y270 y271 y272 y273 y274 y275 y276 y277 y278 y279 y280 y281 y282 y283 y284 y285 y286 y287 y288 y289 y290 y291 y292 y293 y294 y295 y296 y297 y298 y299 y300 y301 y302 y303 y304 y305 y306 y307 y308 y309 y310 y311 y312 y313 y314 y315 y316 y317 y318 y319 y320 y321 y322 y323 y324 y325 y326 y327 y328 y329 y330 y331 y332 y333 y334 y335 y336 y337 y338 y339 y340 y341 : Value)
    (hK : ∀ (x : World) (vl' : Nat → Value) (z172 z173 z174 z175 z176 z177 z178 z179 z180 z181 z182 z183 z184 z185 z186 z187 : Value), PSt cf wk x pfb n (i + 1) m (.slice (some ⟨gv, 0, none⟩) m cv) vl' (upd L1 q (L1 q ++ [i])) → K ⟨#[y0, y1, y2, y3, y4, y5, y6, y7, y8, y9, y10, y11, y12, y13, y14, y15, y16, y17, .slice (some ⟨pfb, 0, none⟩) n n, .slice (some ⟨gv, 0, none⟩) m cv, .int .i64 (i : Int), y21, y22, y23, y24, y25, y26, y27, y28, y29, y30, y31, y32, y33, y34, y35, y36, y37, y38, y39, y40, y41, y42, y43, y44, y45, y46, y47, y48, y49, y50, y51, y52, y53, y54, y55, y56, y57, y58, y59, y60, y61, y62, y63, y64, y65, y66, y67, y68, y69, y70, y71, y72, y73, y74, y75, y76, y77, y78, y79, y80, y81, y82, y83, y84, y85, y86, y87, y88, y89, y90, y91, y92, y93, y94, y95, y96, y97, y98, y99, y100, y101, y102, y103, y104, y105, y106, y107, y108, y109, y110, y111, y112, y113, y114, y115, y116, y117, y118, y119, y120, y121, y122, y123, y124, y125, y126, y127, y128, y129, y130, y131, y132, y133, y134, y135, y136, y137, y138, y139, y140, y141, y142, y143, y144, y145, y146, y147, y148, y149, y150, y151, y152, y153, y154, y155, y156, y157, y158, y159, y160, y161, y162, y163, y164, y165, y166, y167, y168, y169, y170, y171, z172, z173, z174, z175, z176, z177, z178, z179, z180, z181, z182, z183, z184, z185, z186, z187, y188, y189, y190, y191, y192, y193, y194, y195, y196, y197, y198, y199, y200, y201, y202, y203, y204, y205, y206, y207, y208, y209, y210, y211, y212, y213, y214, y215, y216, y217, y218, y219, y220, y221, y222, y223, y224, y225, y226, y227, y228, y229, y230, y231, y232, y233, y234, y235, y236, y237, y238, y239, y240, y241, y242, y243, y244, y245, y246, y247, y248, y249, y250, y251, y252, y253, y254, y255, y256, y257, y258, y259, y260, y261, y262, y263, y264, y265, y266, y267, y268, y269, y270, y271, y272, y273, y274, y275, y276, y277, y278, y279, y280, y281, y282, y283, y284, y285, y286, y287, y288, y289, y290, y291, y292, y293, y294, y295, y296, y297, y298, y299, y300, y301, y302, y303, y304, y305, y306, y307, y308, y309, y310, y311, y312, y313, y314, y315, y316, y317, y318, y319, y320, y321, y322, y323, y324, y325, y326, y327, y328, y329, y330, y331, y332, y333, y334, y335, y336, y337, y338, y339, y340, y341], []⟩ x) :
    (reg25 41).wp Try.prog (Exit.inBlock 11 (Exit.then K (Exit.then K2 (Exit.inBlock 10 (Exit.then K3 (bodyPost Try.prog Try.f25 Post)))))) ⟨#[y0, y1, y2, y3, y4, y5, y6, y7, y8, y9, y10, y11, y12, y13, y14, y15, y16, y17, .slice (some ⟨pfb, 0, none⟩) n n, .slice (some ⟨gv, 0, none⟩) m cv, .int .i64 (i : Int), y21, y22, y23, y24, y25, y26, y27, y28, y29, y30, y31, y32, y33, y34, y35, y36, y37, y38, y39, y40, y41, y42, y43, y44, y45, y46, y47, y48, y49, y50, y51, y52, y53, y54, y55, y56, y57, y58, y59, y60, y61, y62, y63, y64, y65, y66, y67, y68, y69, y70, y71, y72, y73, y74, y75, y76, y77, y78, y79, y80, y81, y82, y83, y84, y85, y86, y87, y88, y89, y90, y91, y92, y93, y94, y95, y96, y97, y98, y99, y100, y101, y102, y103, y104, y105, y106, y107, y108, y109, y110, y111, y112, y113, y114, y115, y116, y117, y118, y119, y120, y121, y122, y123, y124, y125, y126, y127, y128, y129, y130, y131, y132, y133, y134, y135, y136, y137, y138, y139, y140, y141, y142, y143, y144, y145, y146, y147, y148, y149, y150, y151, y152, y153, y154, y155, y156, y157, y158, y159, y160, y161, y162, y163, y164, y165, y166, y167, y168, y169, y170, y171, y172, y173, y174, y175, y176, y177, y178, y179, y180, y181, y182, y183, y184, y185, y186, y187, y188, y189, y190, y191, y192, y193, y194, y195, y196, y197, y198, y199, y200, y201, y202, y203, y204, y205, y206, y207, y208, y209, y210, y211, y212, y213, y214, y215, y216, y217, y218, y219, y220, y221, y222, y223, y224, y225, y226, y227, y228, y229, y230, y231, y232, y233, y234, y235, y236, y237, y238, y239, y240, y241, y242, y243, y244, y245, y246, y247, y248, y249, y250, y251, y252, y253, y254, y255, y256, y257, y258, y259, y260, y261, y262, y263, y264, y265, y266, y267, y268, y269, y270, y271, y272, y273, y274, y275, y276, y277, y278, y279, y280, y281, y282, y283, y284, y285, y286, y287, y288, y289, y290, y291, y292, y293, y294, y295, y296, y297, y298, y299, y300, y301, y302, y303, y304, y305, y306, y307, y308, y309, y310, y311, y312, y313, y314, y315, y316, y317, y318, y319, y320, y321, y322, y323, y324, y325, y326, y327, y328, y329, y330, y331, y332, y333, y334, y335, y336, y337, y338, y339, y340, y341], []⟩ wz := by
  obtain ⟨i3, hp0, hq0, hq1, hq2⟩ := info_parts info3
  have HM3 : Hid (PSt cf wk wz pfb n (i + 1) m (.slice (some ⟨gv, 0, none⟩) m cv) vl L1) := hP
  have hxi := fun w => elem43 (b := pfb) (c := n) hlt w
  have hx40 := fun w => elem40 (b := gv) (c := cv) hqm w
  have Hqm : Hid (q < m) := hqm
  have HK : Hid (∀ (x : World) (vl' : Nat → Value) (z172 z173 z174 z175 z176 z177 z178 z179 z180 z181 z182 z183 z184 z185 z186 z187 : Value), PSt cf wk x pfb n (i + 1) m (.slice (some ⟨gv, 0, none⟩) m cv) vl' (upd L1 q (L1 q ++ [i])) → K ⟨#[y0, y1, y2, y3, y4, y5, y6, y7, y8, y9, y10, y11, y12, y13, y14, y15, y16, y17, .slice (some ⟨pfb, 0, none⟩) n n, .slice (some ⟨gv, 0, none⟩) m cv, .int .i64 (i : Int), y21, y22, y23, y24, y25, y26, y27, y28, y29, y30, y31, y32, y33, y34, y35, y36, y37, y38, y39, y40, y41, y42, y43, y44, y45, y46, y47, y48, y49, y50, y51, y52, y53, y54, y55, y56, y57, y58, y59, y60, y61, y62, y63, y64, y65, y66, y67, y68, y69, y70, y71, y72, y73, y74, y75, y76, y77, y78, y79, y80, y81, y82, y83, y84, y85, y86, y87, y88, y89, y90, y91, y92, y93, y94, y95, y96, y97, y98, y99, y100, y101, y102, y103, y104, y105, y106, y107, y108, y109, y110, y111, y112, y113, y114, y115, y116, y117, y118, y119, y120, y121, y122, y123, y124, y125, y126, y127, y128, y129, y130, y131, y132, y133, y134, y135, y136, y137, y138, y139, y140, y141, y142, y143, y144, y145, y146, y147, y148, y149, y150, y151, y152, y153, y154, y155, y156, y157, y158, y159, y160, y161, y162, y163, y164, y165, y166, y167, y168, y169, y170, y171, z172, z173, z174, z175, z176, z177, z178, z179, z180, z181, z182, z183, z184, z185, z186, z187, y188, y189, y190, y191, y192, y193, y194, y195, y196, y197, y198, y199, y200, y201, y202, y203, y204, y205, y206, y207, y208, y209, y210, y211, y212, y213, y214, y215, y216, y217, y218, y219, y220, y221, y222, y223, y224, y225, y226, y227, y228, y229, y230, y231, y232, y233, y234, y235, y236, y237, y238, y239, y240, y241, y242, y243, y244, y245, y246, y247, y248, y249, y250, y251, y252, y253, y254, y255, y256, y257, y258, y259, y260, y261, y262, y263, y264, y265, y266, y267, y268, y269, y270, y271, y272, y273, y274, y275, y276, y277, y278, y279, y280, y281, y282, y283, y284, y285, y286, y287, y288, y289, y290, y291, y292, y293, y294, y295, y296, y297, y298, y299, y300, y301, y302, y303, y304, y305, y306, y307, y308, y309, y310, y311, y312, y313, y314, y315, y316, y317, y318, y319, y320, y321, y322, y323, y324, y325, y326, y327, y328, y329, y330, y331, y332, y333, y334, y335, y336, y337, y338, y339, y340, y341], []⟩ x) := hK
  obtain ⟨gv', cv', ev, _, _, hcs⟩ := hP.outer.form (by rw [vals_length]; omega)
  have egv : gv = gv' := by
    injection ev with e1
    exact congrArg Addr.block (Option.some.inj e1)
  have c9 := (hcs q _ (vals_at vl hqm)).1
  rw [← egv] at c9
  have c9' : ∀ o, (wz.alloc o).cell? ⟨gv, q, none⟩ = some (vl q) := fun o => (((KB.refl (fun _ => False) wz).alloc o).cell (World.block_lt_of_cell? wz _ c9) id).trans c9
  have c7 : wz.cell? ⟨pfb, i, none⟩ = some (.int .i64 (q : Int)) := by rw [hP.row.cell hlt, ← hq]; simp
  have HS : Hid (∀ W, KB (fun b => b = gv ∨ (vl q).ownBlock = some b) wz W → W.cell? ⟨pfb, i, none⟩ = some (.int .i64 (q : Int))) := fun W hk => (hk.cell (World.block_lt_of_cell? wz _ c7) (fun e => by
    rcases e with e | e
    · exact (HM3.out.vb gv rfl).1 e.symm
    · exact (HM3.out.far _ Hqm.out _ e).1 rfl)).trans c7
  have kf : Hid (∀ o, KB (fun _ => False) wz (wz.alloc o).drew) := fun o => ((KB.refl _ wz).alloc o).drew
  have sl : Hid ((ints (L1 q)).length ≤ 4096) := by
    show (ints (L1 q)).length ≤ 4096
    rw [ints_length]
    exact hl
  have c7' := fun o => HS.out _ ((KB.refl (fun b => b = gv ∨ (vl q).ownBlock = some b) wz).alloc o)
  clear hcs hP hK hl hqm ev egv hq
  conv => arg 2; whnf
  go_region_law (refine step_append_lies _ (by rfl) (.tmp 183) (.tmp 185) 43 (by rfl) 0 3 i3 _ 1 8 Try.underlying43 hp0 hq0 hq1 hq2 rfl (by omega) (vl q) (ints (L1 q)).length (ints (L1 q)) (by simp [Act.eval]) ((HM3.out.own q Hqm.out).alloc _) ⟨wz.heap.size, 0, none⟩ 1 1 [.int .i64 (i : Int)] (by simp [Act.eval]) (by rfl) (World.news_of_block (cs := #[.int .i64 (i : Int)]) (t := 3) (fr := (0, 0)) (heap_alloc_new _ _)) (by simp [Value.oneCell']) (by omega) (by have := sl.out; unfold maxLen; omega) (by have := sl.out; omega) (by simp) (wz.heap.size + 1) (by simp) ?_; intro g1 cap1 x1 hown1 hgrow1 hat1 hltg1; obtain ⟨hc9, hf9, kx', kz⟩ := HM3.out.push Hqm.out (kf.out _) hown1 hgrow1 hat1 (by omega); have hc7x := HS.out _ kx'; clear hown1 hgrow1 hat1 hltg1 kx')
  all_goals (first | exact HK.out _ _ _ _ _ _ _ _ _ _ _ _ _ _ _ _ _ _ kz.out.2 | (go_wp2_with fail; exact HK.out _ _ _ _ _ _ _ _ _ _ _ _ _ _ _ _ _ _ kz.out.2))

end Go.Proofs.Qxb6605609a
