/-
  FnMembersFirstMembersBefore: regions 45 to 68.
-/
import Derived.Test.Qxb6605609aLb
namespace Go.Proofs.Qxb6605609a
open Go.RowKit
variable {w : World} {ss : Nat → ByteArray} {la : Nat → Option Addr} {ln lc : Nat → Nat} {ms : Nat → Nat → ByteArray} {Post : Ending → World → Prop}

/-- A part that another has followed. -/
def Cl (cf : Nat → Nat) (out : List Nat) (k x : Nat) : Prop := ∃ q, q + 1 < k ∧ cf (out.getD q 0) ≠ cf (out.getD (q + 1) 0) ∧ cf (out.getD q 0) = x

theorem Cl.step {cf : Nat → Nat} {out : List Nat} {k x : Nat} : Cl cf out (k + 1 + 1) x ↔ Cl cf out (k + 1) x ∨ (cf (out.getD k 0) ≠ cf (out.getD (k + 1) 0) ∧ cf (out.getD k 0) = x) := by
  constructor
  · rintro ⟨q, h1, h2, h3⟩
    by_cases e : q = k
    · subst e; exact Or.inr ⟨h2, h3⟩
    · exact Or.inl ⟨q, by omega, h2, h3⟩
  · rintro (⟨q, h1, h2, h3⟩ | ⟨h2, h3⟩)
    · exact ⟨q, by omega, h2, h3⟩
    · exact ⟨k, by omega, h2, h3⟩

theorem OutOk.open' {adj : Nat → List Nat} {n : Nat} {cf : Nat → Nat} {out : List Nat} (h : OutOk adj n cf out) {k : Nat} (hk : k + 1 < n) (hne : cf (out.getD k 0) ≠ cf (out.getD (k + 1) 0)) : ¬ Cl cf out (k + 1 + 1) (cf (out.getD (k + 1) 0)) := by
  rintro ⟨q, h1, h2, h3⟩
  by_cases e : q = k
  · subst e; exact hne h3
  · have := h.tog q (q + 1) (k + 1) (by omega) (by omega) hk h3
    exact h2 this.symm

open Classical in
set_option maxRecDepth 1000000 in
set_option maxHeartbeats 4000000 in
theorem law56 (hT : ∀ w', Below w.heap.size w w' → Post (.returned (.bool true)) w') : L56 w Post := by
  intro wk a a1 ga ca n c c1 gc cb pb ob cc adj cf out hbel hn hok hcfn hor hco y2 y3 y4 y5 y9 y10 y12 y14 y15 y16 y17 y18 y19 y21 y22 y23 y24 y25 y26 y27 y28 y29 y30 y31 y32 y33 y34 y35 y36 y37 y38 y39 y40 y41 y42 y43 y44 y45 y46 y47 y48 y49 y50 y51 y52 y53 y54 y55 y56 y57 y58 y59 y60 y61 y62 y63 y64 y65 y66 y67 y68 y69 y70 y71 y72 y73 y74 y75 y76 y77 y78 y79 y80 y81 y82 y83 y84 y85 y86 y87 y88 y89 y90 y91 y92 y93 y94 y95 y96 y97 y98 y99 y100 y101 y102 y103 y104 y105 y106 y107 y108 y109 y110 y111 y112 y113 y114 y115 y116 y117 y118 y119 y120 y121 y122 y123 y124 y125 y126 y127 y128 y129 y130 y131 y132 y133 y134 y135 y136 y137 y138 y139 y140 y141 y142 y143 y144 y145 y146 y147 y148 y149 y150 y151 y152 y153 y154 y155 y156 y157 y158 y159 y160 y161 y162 y163 y164 y165 y166 y167 y168 y169 y170 y171 y172 y173 y174 y175 y176 y177 y178 y179 y180 y181 y182 y183 y184 y185 y186 y187 y188 y189 y190 y191 y192 y193 y194 y195 y196 y197 y198 y199 y200 y201 y202 y203 y204 y205 y206 y207 y208 y209 y210 y211 y212 y213 y214 y215 y216 y217 y218 y219 y220 y221 y222 y223 y224 y225 y226 y227 y228 y229 y230 y231 y232 y233 y234 y235 y236 y237 y238 y239 y240 y241 y242 y243 y244 y245 y246 y247 y248 y249 y250 y251 y252 y253 y254 y255 y256 y257 y258 y259 y260 y261 y262 y263 y264 y265 y266 y267 y268 y269 y270 y271 y272 y273 y274 y275 y276 y277 K hK
  have HT : Hid (∀ w', Below w.heap.size w w' → Post (.returned (.bool true)) w') := hT
  have HB : Hid (Below w.heap.size w wk) := hbel
  have HO : Hid (OutOk adj n cf out) := hok
  have HR : Hid (wk.rowIs ob 3 n (fun k => .int .i64 ((out.getD k 0 : Nat) : Int))) := hor
  have HC : Hid (SlAt wk ca n (fun i => .int .i64 ((cf i : Nat) : Int))) := hco
  have Hcn : Hid (∀ i, i < n → cf i < n) := hcfn
  have hmb := makeBools n (by omega)
  clear hT hbel hok hor hco hcfn
  have hr := rfl (a := rest6 56)
  conv at hr => lhs; whnf
  rw [← hr] at hK
  clear hr
  conv => arg 2; whnf
  go_wp2_with fail
  clear hmb
  obtain ⟨lb, hlb⟩ : ∃ lb, lb = wk.heap.size := ⟨_, rfl⟩
  have H0 : Hid ((wk.alloc (.cells (madeBools n) 4)).rowIs lb 4 n (fun x => .bool (decide (Cl cf out 1 x)))) := by
    rw [hlb]
    exact (World.rowIs_made wk (.bool false) n 4).congr (fun j _ => by
      have : ¬ Cl cf out 1 j := fun ⟨q, h, _⟩ => by omega
      simp [this])
  have Hl : Hid (wk.heap.size ≤ lb) := by (show wk.heap.size ≤ lb; omega)
  rw [← hlb]
  clear hlb
  go_loopw [4, 25, 26, 27] (fun _ v _ _ wx => ∃ k : Nat, (k + 1 ≤ n ∨ k = 0) ∧ v = .int .i64 ((k + 1 : Nat) : Int) ∧ Hid (wx.rowIs lb 4 n (fun x => .bool (decide (Cl cf out (k + 1) x)))) ∧ Hid (Below wk.heap.size wk wx)) (fun _ v _ _ _ => n - (intOf v).toNat)
  case atStart => exact ⟨0, Or.inr rfl, rfl, H0, (Below.refl _ _).alloc (Nat.le_refl _) _⟩
  case round =>
    obtain ⟨k, hk, rfl, HL, Hbw⟩ := hrel
    clear H0
    by_cases hlt : k + 1 < n
    · have hor := HR.out.of_block (Hbw.out.block ob HR.out.lt)
      have ho1 := hor.cell (show k < n by omega)
      have ho2 := hor.cell hlt
      obtain ⟨A, hA⟩ : ∃ A, A = out.getD k 0 := ⟨_, rfl⟩
      obtain ⟨B, hB⟩ : ∃ B, B = out.getD (k + 1) 0 := ⟨_, rfl⟩
      have hAn : A < n := by rw [hA]; exact HO.out.lt k (by omega)
      have hBn : B < n := by rw [hB]; exact HO.out.lt (k + 1) hlt
      have HAB : Hid (A = out.getD k 0 ∧ B = out.getD (k + 1) 0) := ⟨hA, hB⟩
      rw [← hA] at ho1
      rw [← hB] at ho2
      have hx1 := fun w => elem43 (b := ob) (c := n) (show k < n by omega) w
      have hx2 := fun w => elem43 (b := ob) (c := n) hlt w
      have ek1 : ((k + 1 : Nat) : Int) = (k : Int) + 1 := by omega
      rw [ek1] at hx2
      obtain ⟨b1, o1, _, hix1, hc1⟩ := (HC.out.below Hbw.out).elem43 hAn cc
      obtain ⟨b2, o2, hb2, hix2, hc2'⟩ := HC.out.elem43 hBn cc
      have hc2 : wr.cell? ⟨b2, o2, none⟩ = some (.int .i64 ((cf B : Nat) : Int)) := (Hbw.out.cell (p := ⟨b2, o2, none⟩) hb2).trans hc2'
      clear hc2'
      have hkk : (k : Int) < (n : Int) := by omega
      have hkk2 : (k : Int) + 1 < (n : Int) := by omega
      have Hbq : Hid (∀ q, Below wk.heap.size wk (wr.drewN q)) := fun q => below_drewN Hbw.out q
      have HLq : Hid (∀ q, (wr.drewN q).rowIs lb 4 n (fun x => .bool (decide (Cl cf out (k + 1) x)))) := fun q => HL.out.of_block rfl
      obtain ⟨ca1, hca1⟩ : ∃ z, z = cf A := ⟨_, rfl⟩
      obtain ⟨cb1, hcb1⟩ : ∃ z, z = cf B := ⟨_, rfl⟩
      have hcan : ca1 < n := by rw [hca1]; exact Hcn.out A hAn
      have hcbn : cb1 < n := by rw [hcb1]; exact Hcn.out B hBn
      rw [← hca1] at hc1
      rw [← hcb1] at hc2
      have HCC : Hid (ca1 = cf A ∧ cb1 = cf B) := ⟨hca1, hcb1⟩
      clear hA hB hor hca1 hcb1 ek1
      by_cases he : ca1 = cb1
      · have hle : A ≤ B := by
          rw [HAB.out.1, HAB.out.2]
          exact HO.out.asc k hlt (by rw [← HAB.out.1, ← HAB.out.2, ← HCC.out.1, ← HCC.out.2]; exact he)
        have HL2 : Hid (∀ q, (wr.drewN q).rowIs lb 4 n (fun x => .bool (decide (Cl cf out (k + 1 + 1) x)))) := fun q => (HLq.out q).congr (fun x _ => by
          have e1 : cf (out.getD k 0) = cf (out.getD (k + 1) 0) := by rw [← HAB.out.1, ← HAB.out.2, ← HCC.out.1, ← HCC.out.2]; exact he
          have : Cl cf out (k + 1 + 1) x ↔ Cl cf out (k + 1) x := by rw [Cl.step]; exact ⟨fun h => h.elim id (fun h => absurd e1 h.1), Or.inl⟩
          simp only [this])
        subst he
        have hle2 : (A : Int) ≤ (B : Int) := by omega
        have hd : decide ((B : Int) < (A : Int)) = false := by simp; omega
        go_wp2_with fail
        go_quiet (fail)
        go_wp2_with fail
        go_roundw
        case rel => exact ⟨k + 1, Or.inl (by omega), by go_num, HL2.out _, Hbq.out _⟩
        case measure => simp [intOf]; omega
      · have hd : ((ca1 : Int) == (cb1 : Int)) = false := by simp; omega
        have hne : cf (out.getD k 0) ≠ cf (out.getD (k + 1) 0) := by rw [← HAB.out.1, ← HAB.out.2, ← HCC.out.1, ← HCC.out.2]; exact he
        have hxa := fun w => elem55 lb hcan w
        have hxb := fun w => elem55 lb hcbn w
        have hca := HL.out.cell hcan
        have hfa := HL.out.frozen ca1
        have HL3 : Hid ((wr.setCell ⟨lb, ca1, none⟩ (.bool true)).rowIs lb 4 n (fun x => .bool (decide (Cl cf out (k + 1 + 1) x)))) := (HL.out.set ca1 _).congr (fun x _ => by
          have h1 : Cl cf out (k + 1 + 1) x ↔ Cl cf out (k + 1) x ∨ ca1 = x := by
            rw [Cl.step]
            exact ⟨fun h => h.elim Or.inl (fun h => Or.inr (by rw [HCC.out.1, HAB.out.1]; exact h.2)), fun h => h.elim Or.inl (fun h => Or.inr ⟨hne, by rw [← HAB.out.1, ← HCC.out.1]; exact h⟩)⟩
          by_cases e : x = ca1
          · subst e
            have : Cl cf out (k + 1 + 1) x := h1.2 (Or.inr rfl)
            simp [this]
          · have : Cl cf out (k + 1 + 1) x ↔ Cl cf out (k + 1) x := by
              rw [h1]
              exact ⟨fun h => h.elim id (fun h => absurd h.symm e), Or.inl⟩
            simp only [this, e, if_false])
        have hopen : ¬ Cl cf out (k + 1 + 1) cb1 := by
          rw [HCC.out.2, HAB.out.2]
          exact HO.out.open' hlt hne
        have hcb1 : (wr.setCell ⟨lb, ca1, none⟩ (.bool true)).cell? ⟨lb, cb1, none⟩ = some (.bool false) := by
          rw [HL3.out.cell hcbn]
          simp [hopen]
        have HL2 : Hid (∀ q, ((wr.drewN q).setCell ⟨lb, ca1, none⟩ (.bool true)).rowIs lb 4 n (fun x => .bool (decide (Cl cf out (k + 1 + 1) x)))) := fun q => HL3.out.of_block rfl
        have Hb3 : Hid (∀ q, Below wk.heap.size wk ((wr.drewN q).setCell ⟨lb, ca1, none⟩ (.bool true))) := fun q => (Hbq.out q).setCell (p := ⟨lb, ca1, none⟩) Hl.out _
        have hcbq : ∀ q, ((wr.drewN q).setCell ⟨lb, ca1, none⟩ (.bool true)).cell? ⟨lb, cb1, none⟩ = some (.bool false) := fun q => by
          rw [(HL2.out q).cell hcbn]
          simp [hopen]
        have hc2q : ∀ q, ((wr.drewN q).setCell ⟨lb, ca1, none⟩ (.bool true)).cell? ⟨b2, o2, none⟩ = some (.int .i64 ((cb1 : Nat) : Int)) := fun q => by
          have hb4 : Below wk.heap.size wr ((wr.drewN q).setCell ⟨lb, ca1, none⟩ (.bool true)) := (below_drewN (Below.refl _ _) q).setCell (p := ⟨lb, ca1, none⟩) Hl.out _
          exact (hb4.cell (p := ⟨b2, o2, none⟩) hb2).trans hc2
        have Hne : Hid (ca1 ≠ cb1) := he
        clear he hne hopen hcb1
        go_wp2_with fail
        go_quiet (fail)
        go_wp2_with fail
        go_roundw
        case rel => exact ⟨k + 1, Or.inl (by omega), by go_num, HL2.out _, Hb3.out _⟩
        case measure => simp [intOf]; omega
    · have Hfin : Hid (Below w.heap.size w wr) := HB.out.trans (Hbw.out.mono HB.out.size)
      go_wp2_with fail
      exact HT.out _ Hfin.out

end Go.Proofs.Qxb6605609a

