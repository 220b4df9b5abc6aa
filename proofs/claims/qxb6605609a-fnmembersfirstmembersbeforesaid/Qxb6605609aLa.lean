/-
  FnMembersFirstMembersBefore: regions 0 to 18.
-/
import Derived.Test.Qxb6605609aLb
namespace Go.Proofs.Qxb6605609a
open Go.RowKit
variable {w : World} {ss : Nat → ByteArray} {la : Nat → Option Addr} {ln lc : Nat → Nat} {ms : Nat → Nat → ByteArray} {Post : Ending → World → Prop}

set_option maxRecDepth 1000000 in
set_option maxHeartbeats 4000000 in
theorem law0 (a a1 : Option Addr) (n0 n1 c c1 : Nat) (hs : SlAt w a n0 fun j => .string (ss j)) (hL : Lists w a1 n1 la ln lc ms) (hb : ∀ j, (ss j).size ≤ maxLen) (hmb : ∀ k j, (ms k j).size ≤ maxLen) (hT : ∀ w', Below w.heap.size w w' → Post (.returned (.bool true)) w') (hnext : L12 w ss ln ms Post) :
    Calls Try.prog 6 #[.slice a n0 c, .slice a1 n1 c1] w Post := by
  have HT : Hid (∀ w', Below w.heap.size w w' → Post (.returned (.bool true)) w') := hT
  have HN : Hid (L12 w ss ln ms Post) := hnext
  have h23 := bytes23 a a1 n0 c n1 c1 ss la ln lc ms w hs hL hb hmb
  have h8 := strBytes8 a n0 c ss w hs hb
  have h9 := listsBytes9 a1 n1 c1 la ln lc ms w hL hmb
  have hn0 := hs.small
  have hn1 := hL.outer.small
  clear hT hnext hmb
  go_enter Try.func6, Try.ntmps6
  go_wp2_with fail
  refine h23.mono ?_
  rintro e w' ⟨⟨b, rfl⟩, rfl⟩
  cases b with
  | false =>
    go_wp2_with fail
    exact HT.out _ (Below.refl _ _)
  | true =>
    go_wp2_with fail
    refine h8.mono ?_
    rintro e w1 ⟨⟨z, rfl, hz0, hz1, _⟩, rfl⟩
    go_wp2_with fail
    refine h9.mono ?_
    rintro e w1 ⟨⟨z2, rfl, hy0, hy1, hy2⟩, rfl⟩
    have Hy2 : Hid (z2 ≤ 2097152 → ∀ k, k < n1 → 16 * (ln k : Int) ≤ z2) := hy2
    clear hy2 h23 h8 h9
    by_cases hbig : (1048576 : Int) < z + z2
    · go_wp2_with fail
      exact HT.out _ (Below.refl _ _)
    · by_cases hn : (4096 : Int) < (n0 : Int)
      · go_wp2_with fail
        exact HT.out _ (Below.refl _ _)
      · by_cases he : n1 = n0
        · subst he
          have hln : Hid (∀ k, k < n1 → ln k ≤ 131072) := fun k hk => by
            have := Hy2.out (by omega) k hk
            omega
          have hd : decide ((4096 : Int) < (n1 : Int)) = false := by simp; omega
          have hd2 : ((n1 : Int) != (n1 : Int)) = false := by simp
          clear Hy2
          go_wp2_with fail
          go_loopw [5] (fun v wx => ∃ k : Nat, 1 ≤ k ∧ (k ≤ n1 ∨ k = 1) ∧ v = .int .i64 k ∧ Hid (∀ q, 1 ≤ q → q < k → (ss (q - 1)).data.toList < (ss q).data.toList) ∧ Hid (Below w1.heap.size w1 wx)) (fun v _ => n1 - (intOf v).toNat)
          case atStart => exact ⟨1, Nat.le_refl _, Or.inr rfl, rfl, fun q h1 h2 => by omega, Below.refl _ _⟩
          case round =>
            obtain ⟨k, hk1, hk2, rfl, Hasc, Hbw⟩ := hrel
            by_cases hlt : k < n1
            · obtain ⟨b1, o1, hb1, hix1, hc1'⟩ := hs.elem22 (show k - 1 < n1 by omega) c
              obtain ⟨b2, o2, hb2, hix2, hc2'⟩ := hs.elem22 hlt c
              have hc1 : wr.cell? ⟨b1, o1, none⟩ = some (.string (ss (k - 1))) := (Hbw.out.cell (p := ⟨b1, o1, none⟩) hb1).trans hc1'
              have hc2 : wr.cell? ⟨b2, o2, none⟩ = some (.string (ss k)) := (Hbw.out.cell (p := ⟨b2, o2, none⟩) hb2).trans hc2'
              have ek : ((k - 1 : Nat) : Int) = (k : Int) - 1 := by omega
              rw [ek] at hix1
              obtain ⟨s1, es1⟩ : ∃ s1, s1 = ss (k - 1) := ⟨_, rfl⟩
              obtain ⟨s2, es2⟩ : ∃ s2, s2 = ss k := ⟨_, rfl⟩
              rw [← es1] at hc1
              rw [← es2] at hc2
              have Es : Hid (s1 = ss (k - 1) ∧ s2 = ss k) := ⟨es1, es2⟩
              clear es1 es2 hc1' hc2' ek
              have Hbq : Hid (∀ q, Below w1.heap.size w1 (wr.drewN q)) := fun q => below_drewN Hbw.out q
              by_cases hlss : Op.bytesLess s1.toList s2.toList = true
              · have Hlt2 : Hid ((ss (k - 1)).data.toList < (ss k).data.toList) := by
                  have h0 := hlss
                  rw [ByteArray.toList_eq, ByteArray.toList_eq, bytesLess_eq, Es.out.1, Es.out.2] at h0
                  exact (of_decide_eq_true h0 : (ss (k - 1)).data.toList < (ss k).data.toList)
                go_wp2_with fail
                go_quiet (fail)
                go_wp2_with fail
                go_roundw
                case rel =>
                  refine ⟨k + 1, by omega, Or.inl (by omega), by go_num, fun q h1 h2 => ?_, Hbq.out _⟩
                  by_cases e : q = k
                  · rw [e]; exact Hlt2.out
                  · exact Hasc.out q h1 (by omega)
                case measure => simp [intOf]; omega
              · have hls0 : Op.bytesLess s1.toList s2.toList = false := by simpa using hlss
                clear hlss
                go_wp2_with fail
                go_quiet (fail)
                go_wp2_with fail
                exact HT.out _ (Hbq.out _)
            · have HAsc : Hid (Asc ss n1) := fun q h1 h2 => Hasc.out q h1 (by omega)
              have Hs : Hid (SlAt wr a n1 (fun j => .string (ss j)) ∧ Lists wr a1 n1 la ln lc ms) := ⟨hs.below Hbw.out, hL.below Hbw.out⟩
              clear Hasc
              go_upto_region 12 with fail
              exact HN.out wr a a1 n1 c c1 la lc Hbw.out Hs.out.1 Hs.out.2 (by omega) hln.out HAsc.out _ _ _ _ _ _ _ _ _ _ _ _ _ _ _ _ _ _ _ _ _ _ _ _ _ _ _ _ _ _ _ _ _ _ _ _ _ _ _ _ _ _ _ _ _ _ _ _ _ _ _ _ _ _ _ _ _ _ _ _ _ _ _ _ _ _ _ _ _ _ _ _ _ _ _ _ _ _ _ _ _ _ _ _ _ _ _ _ _ _ _ _ _ _ _ _ _ _ _ _ _ _ _ _ _ _ _ _ _ _ _ _ _ _ _ _ _ _ _ _ _ _ _ _ _ _ _ _ _ _ _ _ _ _ _ _ _ _ _ _ _ _ _ _ _ _ _ _ _ _ _ _ _ _ _ _ _ _ _ _ _ _ _ _ _ _ _ _ _ _ _ _ _ _ _ _ _ _ _ _ _ _ _ _ _ _ _ _ _ _ _ _ _ _ _ _ _ _ _ _ _ _ _ _ _ _ _ _ _ _ _ _ _ _ _ _ _ _ _ _ _ _ _ _ _ _ _ _ _ _ _ _ _ _ _ _ _ _ _ _ _ _ _ _ _ _ _ _ _ _ _ _ _ _ _ _ _ _ _ _ _ _ _ _ _ _ _ _ _ _ _ _ _ _ _ _ _ (by assumption)
        · have hd : decide ((4096 : Int) < (n0 : Int)) = false := by simp; omega
          have hd2 : ((n1 : Int) != (n0 : Int)) = true := by simp; omega
          have hd3 : ((n1 : Int) == (n0 : Int)) = false := by simp; omega
          go_wp2_with fail
          exact HT.out _ (Below.refl _ _)

set_option maxRecDepth 1000000 in
set_option maxHeartbeats 4000000 in
theorem law12 (hssz : ∀ i, (ss i).size ≤ maxLen) (hmsz : ∀ i j, (ms i j).size ≤ maxLen)
    (hout : ∀ (n : Nat) (cf : Nat → Nat), n ≤ 4096 → (∀ x, x < n → LeastOf (adjL ss n ln ms) n x (cf x)) → ((∀ i, adjL ss n ln ms i = []) → OutOk (adjL ss n ln ms) n cf (List.range n)) ∧ ∀ (wl hol : Nat → List Nat) (D : List Nat) (ws : Nat → Int), Waits (adjL ss n ln ms) cf n (rnk cf n) wl hol → Kahn (rnk cf n) wl D [] [] ws → OutOk (adjL ss n ln ms) n cf (D.flatMap (partL cf n)))
    (hnext : L19 w ss ln ms Post) : L12 w ss ln ms Post := by
  intro wk a a1 n c c1 la lc hbel hs hL hn hln hasc y2 y3 y4 y5 y6 y7 y8 y9 y10 y11 y12 y13 y14 y15 y16 y17 y18 y19 y20 y21 y22 y23 y24 y25 y26 y27 y28 y29 y30 y31 y32 y33 y34 y35 y36 y37 y38 y39 y40 y41 y42 y43 y44 y45 y46 y47 y48 y49 y50 y51 y52 y53 y54 y55 y56 y57 y58 y59 y60 y61 y62 y63 y64 y65 y66 y67 y68 y69 y70 y71 y72 y73 y74 y75 y76 y77 y78 y79 y80 y81 y82 y83 y84 y85 y86 y87 y88 y89 y90 y91 y92 y93 y94 y95 y96 y97 y98 y99 y100 y101 y102 y103 y104 y105 y106 y107 y108 y109 y110 y111 y112 y113 y114 y115 y116 y117 y118 y119 y120 y121 y122 y123 y124 y125 y126 y127 y128 y129 y130 y131 y132 y133 y134 y135 y136 y137 y138 y139 y140 y141 y142 y143 y144 y145 y146 y147 y148 y149 y150 y151 y152 y153 y154 y155 y156 y157 y158 y159 y160 y161 y162 y163 y164 y165 y166 y167 y168 y169 y170 y171 y172 y173 y174 y175 y176 y177 y178 y179 y180 y181 y182 y183 y184 y185 y186 y187 y188 y189 y190 y191 y192 y193 y194 y195 y196 y197 y198 y199 y200 y201 y202 y203 y204 y205 y206 y207 y208 y209 y210 y211 y212 y213 y214 y215 y216 y217 y218 y219 y220 y221 y222 y223 y224 y225 y226 y227 y228 y229 y230 y231 y232 y233 y234 y235 y236 y237 y238 y239 y240 y241 y242 y243 y244 y245 y246 y247 y248 y249 y250 y251 y252 y253 y254 y255 y256 y257 y258 y259 y260 y261 y262 y263 y264 y265 y266 y267 y268 y269 y270 y271 y272 y273 y274 y275 y276 y277 K hK
  have HN : Hid (L19 w ss ln ms Post) := hnext
  have HB : Hid (Below w.heap.size w wk) := hbel
  have HA : Hid (Asc ss n) := hasc
  have HO : Hid (∀ (n : Nat) (cf : Nat → Nat), n ≤ 4096 → (∀ x, x < n → LeastOf (adjL ss n ln ms) n x (cf x)) → ((∀ i, adjL ss n ln ms i = []) → OutOk (adjL ss n ln ms) n cf (List.range n)) ∧ ∀ (wl hol : Nat → List Nat) (D : List Nat) (ws : Nat → Int), Waits (adjL ss n ln ms) cf n (rnk cf n) wl hol → Kahn (rnk cf n) wl D [] [] ws → OutOk (adjL ss n ln ms) n cf (D.flatMap (partL cf n))) := hout
  have h10 := clone10 a n c ss wk hs (by omega)
  have HL : Hid (Lists wk a1 n la ln lc ms) := hL
  have Hln : Hid (∀ k, k < n → ln k ≤ 131072) := hln
  have Hsz : Hid ((∀ i, (ss i).size ≤ maxLen) ∧ ∀ i j, (ms i j).size ≤ maxLen) := ⟨hssz, hmsz⟩
  clear hnext hbel hasc hout hL hln hssz hmsz hs
  have hr := rfl (a := rest6 12)
  conv at hr => lhs; whnf
  rw [← hr] at hK
  clear hr
  conv => arg 2; whnf
  go_wp2_with fail
  refine h10.mono ?_
  rintro e w1 ⟨⟨a2, c2, rfl, hs2, _⟩, hb1⟩
  have Hs2 : Hid (SlAt w1 a2 n (fun j => .string (ss j))) := hs2
  have h11 := cloneLists11 a1 n c1 la ln lc ms w1 (HL.out.below hb1) (by omega) (fun k hk => by have := Hln.out k hk; omega)
  have Hb1 : Hid (Below wk.heap.size wk w1) := hb1
  clear hs2 h10 hb1
  go_wp2_with fail
  refine h11.mono ?_
  rintro e w2 ⟨⟨a3, c3, la3, lc3, rfl, hl3⟩, hb2⟩
  have Hl3 : Hid (Lists w2 a3 n la3 ln lc3 ms) := hl3
  have Hb2 : Hid (Below w1.heap.size w1 w2) := hb2
  have h11b := cloneLists11 a3 n c3 la3 ln lc3 ms w2 hl3 (by omega) (fun k hk => by have := Hln.out k hk; omega)
  clear hl3 hb2 h11
  go_wp2_with fail
  refine h11b.mono ?_
  rintro e w3 ⟨⟨a4, c4, la4, lc4, rfl, hl4⟩, hb3⟩
  have Hb3 : Hid (Below w2.heap.size w2 w3) := hb3
  have hs3 : SlAt w3 a2 n (fun j => .string (ss j)) := (Hs2.out.below Hb2.out).below hb3
  have h18 := creat18 a2 a4 n c2 c4 ss la4 ln lc4 ms w3 hn hs3 hl4
  have Hs3 : Hid (SlAt w3 a2 n (fun j => .string (ss j))) := hs3
  have Hl3' : Hid (Lists w3 a3 n la3 ln lc3 ms) := Hl3.out.below hb3
  clear hl4 hb3 hs3 h11b
  go_wp2_with fail
  refine h18.mono ?_
  rintro e w4 ⟨⟨rfl, gb, hcr, _⟩, hb4⟩
  have Hb4 : Hid (Below w3.heap.size w3 w4) := hb4
  have Hcr : Hid (Created w4 w3.heap.size n gb ss la4 ln lc4 ms) := hcr
  obtain ⟨f1, f2, f3⟩ := HA.out.facts
  have hMF : MF w4 w3.heap.size n gb ss la4 ln lc4 ms := ⟨hn, hcr, Hsz.out.1, Hsz.out.2, Hln.out, f1, f2, f3⟩
  obtain ⟨cf, hcf⟩ : ∃ cf : Nat → Nat, ∀ x, x < n → LeastOf (adjL ss n ln ms) n x (cf x) := by
    refine ⟨fun x => if h : x < n then Classical.choose (exists_leastOf (adjL ss n ln ms) h) else 0, fun x hx => ?_⟩
    show LeastOf _ _ _ (dite _ _ _)
    rw [dif_pos hx]
    exact Classical.choose_spec (exists_leastOf (adjL ss n ln ms) hx)
  have Hcf : Hid (∀ x, x < n → LeastOf (adjL ss n ln ms) n x (cf x)) := hcf
  have hoo := HO.out n cf hn hcf
  have hmf := mf25 (Post := fun e w' => ∃ ga c out, e = .returned (.slice ga out.length c) ∧ Below w4.heap.size w4 w' ∧ Told w' ga gb out ∧ OutOk (adjL ss n ln ms) n cf out) (ok := OutOk (adjL ss n ln ms) n cf) hMF hcf HeapLaw.any (fun w' ga c out h1 h2 h3 => ⟨ga, c, out, rfl, h1, h2, h3⟩) hoo.1 (fun wl hol D ws h1 h2 _ => ⟨hoo.2 wl hol D ws h1 h2, by rw [(hoo.2 wl hol D ws h1 h2).len]; exact hn⟩)
  have h19 := zz19 hmf (fun e w' ⟨ga, c, out, h, _⟩ => ⟨_, h⟩)
  clear hcr hb4 f1 f2 f3 hMF hcf hoo hmf h18
  go_wp2_with fail
  refine h19.mono ?_
  rintro e w5 ⟨ga, gc, out, rfl, hb5, htold, hook⟩
  have Hook : Hid (OutOk (adjL ss n ln ms) n cf out) := hook
  have Htold : Hid (Told w5 ga gb out) := htold
  have Hb5 : Hid (Below w4.heap.size w4 w5) := hb5
  have hlen := hook.len
  rw [hlen]
  have Hbw : Hid (Below w.heap.size w w5) := by
    have e1 : Below w.heap.size w w1 := HB.out.trans (Hb1.out.mono HB.out.size)
    have e2 : Below w.heap.size w w2 := e1.trans (Hb2.out.mono e1.size)
    have e3 : Below w.heap.size w w3 := e2.trans (Hb3.out.mono e2.size)
    have e4 : Below w.heap.size w w4 := e3.trans (Hb4.out.mono e3.size)
    exact e4.trans (Hb5.out.mono e4.size)
  have hd : ((n : Int) != (n : Int)) = false := by simp
  clear hook htold hb5 hlen h19
  go_upto_region 19 with fail
  exact HN.out w5 a2 a3 ga n c2 c3 gc w3.heap.size gb la3 la4 lc3 lc4 cf out Hbw.out ((Hs3.out.below Hb4.out).below Hb5.out) ((Hl3'.out.below Hb4.out).below Hb5.out) hn Hln.out HA.out (Hcr.out.below Hb5.out) Htold.out Hcf.out Hook.out _ _ _ _ _ _ _ _ _ _ _ _ _ _ _ _ _ _ _ _ _ _ _ _ _ _ _ _ _ _ _ _ _ _ _ _ _ _ _ _ _ _ _ _ _ _ _ _ _ _ _ _ _ _ _ _ _ _ _ _ _ _ _ _ _ _ _ _ _ _ _ _ _ _ _ _ _ _ _ _ _ _ _ _ _ _ _ _ _ _ _ _ _ _ _ _ _ _ _ _ _ _ _ _ _ _ _ _ _ _ _ _ _ _ _ _ _ _ _ _ _ _ _ _ _ _ _ _ _ _ _ _ _ _ _ _ _ _ _ _ _ _ _ _ _ _ _ _ _ _ _ _ _ _ _ _ _ _ _ _ _ _ _ _ _ _ _ _ _ _ _ _ _ _ _ _ _ _ _ _ _ _ _ _ _ _ _ _ _ _ _ _ _ _ _ _ _ _ _ _ _ _ _ _ _ _ _ _ _ _ _ _ _ _ _ _ _ _ _ _ _ _ _ _ _ _ _ _ _ _ _ _ _ _ _ _ _ _ _ _ _ _ _ _ _ _ _ _ _ _ _ _ _ _ _ _ _ _ _ _ _ _ _ _ _ _ _ _ _ _ _ _ _ _ (by assumption)

end Go.Proofs.Qxb6605609a

