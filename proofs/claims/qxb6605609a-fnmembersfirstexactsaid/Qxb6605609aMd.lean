/-
  zzMembersFirstModel: its code in parts; what it is handed; its stages.
-/
import Derived.Test.Qxb6605609aMfWait
import Derived.Test.Qxb6605609aMf41
import Derived.Test.Qxb6605609aMfHeap
import Derived.Test.Qxb6605609aKosW
namespace Go.Proofs.Qxb6605609a
open Go.RowKit

noncomputable def code21 (k : Nat) : Code := (Try.f21.body.bind (tailAt k)).getD .skip
noncomputable def head21 (k : Nat) : Code := match code21 k with
  | .seq a _ => a
  | c => c
noncomputable def rest21 (k : Nat) : Code := match code21 k with
  | .seq _ b => b
  | _ => .skip
/-- From region k on. -/
def From21 (k : Nat) (Post : Ending → World → Prop) (a : Act) (w : World) : Prop :=
  ∀ K : Act → World → Prop, (∀ a w, (rest21 k).wp Try.prog (bodyPost Try.prog Try.f21 Post) a w → K a w) → (head21 k).wp Try.prog (Exit.then K (bodyPost Try.prog Try.f21 Post)) a w
noncomputable def reg21 (k : Nat) : Code := (Try.f21.body.bind (regAt k)).getD .skip

/-- The places (of the first k) whose part is named r. -/
def partC (cf : Nat → Nat) (k r : Nat) : List Nat := (List.range k).filter fun i => decide (cf i = r)
theorem partC_succ (cf : Nat → Nat) (k : Nat) : partC cf (k + 1) = upd (partC cf k) (cf k) (partC cf k (cf k) ++ [k]) := by
  funext r
  unfold partC
  rw [List.range_succ, List.filter_append]
  by_cases e : r = cf k
  · subst e
    rw [upd_same]
    simp
  · rw [upd_other _ _ e]
    simp
    exact fun h => e h.symm
theorem partC_len (cf : Nat → Nat) {k n : Nat} (hk : k ≤ n) (r : Nat) : (partC cf k r).length ≤ n := by
  have h1 : (partC cf k r).length ≤ (List.range k).length := List.length_filter_le _ _
  simp at h1
  omega
theorem partC_mem {cf : Nat → Nat} {k r i : Nat} : i ∈ partC cf k r ↔ i < k ∧ cf i = r := by simp [partC]

/-- What the model is handed. -/
structure MD (w : World) (ga : Option Addr) (n : Nat) (va : Nat → Option Addr) (vc : Nat → Nat) (adj : Nat → List Nat) (ca : Option Addr) (cf : Nat → Nat) : Prop where
  nle : n ≤ 4096
  rows : IRows w ga n va vc adj
  comp : SlAt w ca n (fun i => .int .i64 ((cf i : Nat) : Int))
  lt : ∀ i, i < n → cf i < n
  idem : ∀ i, i < n → cf (cf i) = cf i
  adjlt : ∀ i, i < n → ∀ j ∈ adj i, j < n

/-- For which parts each part waits: parts named by their least places. -/
structure WaitC (adj : Nat → List Nat) (cf : Nat → Nat) (n : Nat) (wl hol : Nat → List Nat) : Prop where
  mem : ∀ p q, p < n → (q ∈ wl p ↔ q ≠ p ∧ ∃ i, i < n ∧ cf i = p ∧ ∃ j ∈ adj i, cf j = q)
  nd : ∀ p, p < n → (wl p).Nodup
  lt : ∀ p q, q ∈ wl p → q < n
  hmem : ∀ q p, q < n → (p ∈ hol q ↔ p < n ∧ q ∈ wl p)
  hnd : ∀ q, q < n → (hol q).Nodup
/-- The waiting, with those that never come. -/
def wlC (cf : Nat → Nat) (n : Nat) (wl : Nat → List Nat) (p : Nat) : List Nat := if cf p = p then wl p else [n]

/-- What the model's stages hand on at last. -/
def EndsC (w : World) (adj : Nat → List Nat) (cf : Nat → Nat) (n : Nat) (Post : Ending → World → Prop) : Prop :=
  ∀ (w' : World) (a : Option Addr) (c : Nat) (wl hol : Nat → List Nat) (D : List Nat) (ws : Nat → Int), Below w.heap.size w w' → WaitC adj cf n wl hol → Kahn n (wlC cf n wl) D [] [] ws → Lst (fun a b => a ≤ b) n (wlC cf n wl) D → SlAt w' a (D.flatMap (partC cf n)).length (fun k => .int .i64 (((D.flatMap (partC cf n)).getD k 0 : Nat) : Int)) → Post (.returned (.slice a (D.flatMap (partC cf n)).length c)) w'

set_option maxRecDepth 1000000 in
def D7 (w : World) (ga ca : Option Addr) (gc cc n : Nat) (cf : Nat → Nat) (Post : Ending → World → Prop) : Prop :=
  ∀ (wk : World) (ob : Nat) (pva : Nat → Option Addr) (pvc : Nat → Nat), Below w.heap.size w wk → IRows wk (some ⟨ob, 0, none⟩) n pva pvc (partC cf n) → ∀ (y2 y3 y7 y8 y9 y10 y11 y12 y13 y14 y15 y16 y17 y18 y19 y20 y21 y22 y23 y24 y25 y26 y27 y28 y29 y30 y31 y32 y33 y34 y35 y36 y37 y38 y39 y40 y41 y42 y43 y44 y45 y46 y47 y48 y49 y50 y51 y52 y53 y54 y55 y56 y57 y58 y59 y60 y61 y62 y63 y64 y65 y66 y67 y68 y69 y70 y71 y72 y73 y74 y75 y76 y77 y78 y79 y80 y81 y82 y83 y84 y85 y86 y87 y88 y89 y90 y91 y92 y93 y94 y95 y96 y97 y98 y99 y100 y101 y102 y103 y104 y105 y106 y107 y108 y109 y110 y111 y112 y113 y114 y115 y116 y117 y118 y119 y120 y121 y122 y123 y124 y125 y126 y127 y128 y129 y130 y131 y132 y133 y134 y135 y136 y137 y138 y139 y140 y141 y142 y143 y144 y145 y146 y147 y148 y149 y150 y151 y152 y153 y154 y155 y156 y157 y158 y159 y160 y161 y162 y163 y164 y165 y166 y167 y168 y169 y170 y171 y172 y173 y174 y175 y176 y177 y178 y179 y180 y181 y182 y183 y184 y185 y186 y187 y188 y189 y190 y191 y192 y193 y194 y195 y196 y197 y198 y199 : Value), From21 7 Post ⟨#[.slice ga n gc, .slice ca n cc, y2, y3, .slice none 0 0, .int .i64 (n : Int), .slice (some ⟨ob, 0, none⟩) n n, y7, y8, y9, y10, y11, y12, y13, y14, y15, y16, y17, y18, y19, y20, y21, y22, y23, y24, y25, y26, y27, y28, y29, y30, y31, y32, y33, y34, y35, y36, y37, y38, y39, y40, y41, y42, y43, y44, y45, y46, y47, y48, y49, y50, y51, y52, y53, y54, y55, y56, y57, y58, y59, y60, y61, y62, y63, y64, y65, y66, y67, y68, y69, y70, y71, y72, y73, y74, y75, y76, y77, y78, y79, y80, y81, y82, y83, y84, y85, y86, y87, y88, y89, y90, y91, y92, y93, y94, y95, y96, y97, y98, y99, y100, y101, y102, y103, y104, y105, y106, y107, y108, y109, y110, y111, y112, y113, y114, y115, y116, y117, y118, y119, y120, y121, y122, y123, y124, y125, y126, y127, y128, y129, y130, y131, y132, y133, y134, y135, y136, y137, y138, y139, y140, y141, y142, y143, y144, y145, y146, y147, y148, y149, y150, y151, y152, y153, y154, y155, y156, y157, y158, y159, y160, y161, y162, y163, y164, y165, y166, y167, y168, y169, y170, y171, y172, y173, y174, y175, y176, y177, y178, y179, y180, y181, y182, y183, y184, y185, y186, y187, y188, y189, y190, y191, y192, y193, y194, y195, y196, y197, y198, y199], []⟩ wk
set_option maxRecDepth 1000000 in
def D27 (w : World) (ga ca : Option Addr) (gc cc n : Nat) (adj : Nat → List Nat) (cf : Nat → Nat) (Post : Ending → World → Prop) : Prop :=
  ∀ (wk w4 : World) (ob wb hob : Nat) (pva : Nat → Option Addr) (pvc : Nat → Nat) (val : Nat → Value) (wl hol : Nat → List Nat), Below w.heap.size w w4 → IRows w4 (some ⟨ob, 0, none⟩) n pva pvc (partC cf n) → Below w4.heap.size w4 wk → w4.heap.size ≤ wb → w4.heap.size ≤ hob → wk.rowIs wb 3 n (fun p => .int .i64 (((wl p).length : Nat) : Int)) → Grid wk hob n w4.heap.size val hol → ¬ GridIn hob n val wb → WaitC adj cf n wl hol → ∀ (y2 y3 y7 y10 y11 y12 y13 y14 y15 y16 y17 y18 y19 y20 y21 y22 y23 y24 y25 y26 y27 y28 y29 y30 y31 y32 y33 y34 y35 y36 y37 y38 y39 y40 y41 y42 y43 y44 y45 y46 y47 y48 y49 y50 y51 y52 y53 y54 y55 y56 y57 y58 y59 y60 y61 y62 y63 y64 y65 y66 y67 y68 y69 y70 y71 y72 y73 y74 y75 y76 y77 y78 y79 y80 y81 y82 y83 y84 y85 y86 y87 y88 y89 y90 y91 y92 y93 y94 y95 y96 y97 y98 y99 y100 y101 y102 y103 y104 y105 y106 y107 y108 y109 y110 y111 y112 y113 y114 y115 y116 y117 y118 y119 y120 y121 y122 y123 y124 y125 y126 y127 y128 y129 y130 y131 y132 y133 y134 y135 y136 y137 y138 y139 y140 y141 y142 y143 y144 y145 y146 y147 y148 y149 y150 y151 y152 y153 y154 y155 y156 y157 y158 y159 y160 y161 y162 y163 y164 y165 y166 y167 y168 y169 y170 y171 y172 y173 y174 y175 y176 y177 y178 y179 y180 y181 y182 y183 y184 y185 y186 y187 y188 y189 y190 y191 y192 y193 y194 y195 y196 y197 y198 y199 : Value), From21 27 Post ⟨#[.slice ga n gc, .slice ca n cc, y2, y3, .slice none 0 0, .int .i64 (n : Int), .slice (some ⟨ob, 0, none⟩) n n, y7, .slice (some ⟨wb, 0, none⟩) n n, .slice (some ⟨hob, 0, none⟩) n n, y10, y11, y12, y13, y14, y15, y16, y17, y18, y19, y20, y21, y22, y23, y24, y25, y26, y27, y28, y29, y30, y31, y32, y33, y34, y35, y36, y37, y38, y39, y40, y41, y42, y43, y44, y45, y46, y47, y48, y49, y50, y51, y52, y53, y54, y55, y56, y57, y58, y59, y60, y61, y62, y63, y64, y65, y66, y67, y68, y69, y70, y71, y72, y73, y74, y75, y76, y77, y78, y79, y80, y81, y82, y83, y84, y85, y86, y87, y88, y89, y90, y91, y92, y93, y94, y95, y96, y97, y98, y99, y100, y101, y102, y103, y104, y105, y106, y107, y108, y109, y110, y111, y112, y113, y114, y115, y116, y117, y118, y119, y120, y121, y122, y123, y124, y125, y126, y127, y128, y129, y130, y131, y132, y133, y134, y135, y136, y137, y138, y139, y140, y141, y142, y143, y144, y145, y146, y147, y148, y149, y150, y151, y152, y153, y154, y155, y156, y157, y158, y159, y160, y161, y162, y163, y164, y165, y166, y167, y168, y169, y170, y171, y172, y173, y174, y175, y176, y177, y178, y179, y180, y181, y182, y183, y184, y185, y186, y187, y188, y189, y190, y191, y192, y193, y194, y195, y196, y197, y198, y199], []⟩ wk
set_option maxRecDepth 1000000 in
def D33 (w : World) (ga ca : Option Addr) (gc cc n : Nat) (adj : Nat → List Nat) (cf : Nat → Nat) (Post : Ending → World → Prop) : Prop :=
  ∀ (wk w4 : World) (ob wb hob rb : Nat) (pva : Nat → Option Addr) (pvc : Nat → Nat) (val : Nat → Value) (wl hol : Nat → List Nat), Below w.heap.size w w4 → IRows w4 (some ⟨ob, 0, none⟩) n pva pvc (partC cf n) → Below w4.heap.size w4 wk → w4.heap.size ≤ wb → w4.heap.size ≤ hob → w4.heap.size ≤ rb → wb < rb → wk.rowIs wb 3 n (fun p => .int .i64 (((wl p).length : Nat) : Int)) → Grid wk hob n w4.heap.size val hol → ¬ GridIn hob n val wb → ¬ GridIn hob n val rb → WaitC adj cf n wl hol → wk.rowIs rb 4 n (fun p => .bool (decide (cf p = p ∧ wl p = []))) → ∀ (y2 y3 y7 y10 y11 y12 y13 y14 y15 y16 y18 y19 y20 y21 y22 y23 y24 y25 y26 y27 y28 y29 y30 y31 y32 y33 y34 y35 y36 y37 y38 y39 y40 y41 y42 y43 y44 y45 y46 y47 y48 y49 y50 y51 y52 y53 y54 y55 y56 y57 y58 y59 y60 y61 y62 y63 y64 y65 y66 y67 y68 y69 y70 y71 y72 y73 y74 y75 y76 y77 y78 y79 y80 y81 y82 y83 y84 y85 y86 y87 y88 y89 y90 y91 y92 y93 y94 y95 y96 y97 y98 y99 y100 y101 y102 y103 y104 y105 y106 y107 y108 y109 y110 y111 y112 y113 y114 y115 y116 y117 y118 y119 y120 y121 y122 y123 y124 y125 y126 y127 y128 y129 y130 y131 y132 y133 y134 y135 y136 y137 y138 y139 y140 y141 y142 y143 y144 y145 y146 y147 y148 y149 y150 y151 y152 y153 y154 y155 y156 y157 y158 y159 y160 y161 y162 y163 y164 y165 y166 y167 y168 y169 y170 y171 y172 y173 y174 y175 y176 y177 y178 y179 y180 y181 y182 y183 y184 y185 y186 y187 y188 y189 y190 y191 y192 y193 y194 y195 y196 y197 y198 y199 : Value), From21 33 Post ⟨#[.slice ga n gc, .slice ca n cc, y2, y3, .slice none 0 0, .int .i64 (n : Int), .slice (some ⟨ob, 0, none⟩) n n, y7, .slice (some ⟨wb, 0, none⟩) n n, .slice (some ⟨hob, 0, none⟩) n n, y10, y11, y12, y13, y14, y15, y16, .slice (some ⟨rb, 0, none⟩) n n, y18, y19, y20, y21, y22, y23, y24, y25, y26, y27, y28, y29, y30, y31, y32, y33, y34, y35, y36, y37, y38, y39, y40, y41, y42, y43, y44, y45, y46, y47, y48, y49, y50, y51, y52, y53, y54, y55, y56, y57, y58, y59, y60, y61, y62, y63, y64, y65, y66, y67, y68, y69, y70, y71, y72, y73, y74, y75, y76, y77, y78, y79, y80, y81, y82, y83, y84, y85, y86, y87, y88, y89, y90, y91, y92, y93, y94, y95, y96, y97, y98, y99, y100, y101, y102, y103, y104, y105, y106, y107, y108, y109, y110, y111, y112, y113, y114, y115, y116, y117, y118, y119, y120, y121, y122, y123, y124, y125, y126, y127, y128, y129, y130, y131, y132, y133, y134, y135, y136, y137, y138, y139, y140, y141, y142, y143, y144, y145, y146, y147, y148, y149, y150, y151, y152, y153, y154, y155, y156, y157, y158, y159, y160, y161, y162, y163, y164, y165, y166, y167, y168, y169, y170, y171, y172, y173, y174, y175, y176, y177, y178, y179, y180, y181, y182, y183, y184, y185, y186, y187, y188, y189, y190, y191, y192, y193, y194, y195, y196, y197, y198, y199], []⟩ wk

end Go.Proofs.Qxb6605609a
