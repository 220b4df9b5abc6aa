/-
  THE WALK OF cyclesOf's CLOSURE (Tarjan).
-/
import Derived.Test.Qxb6605609aCycP
import Derived.Deep.CutRange
import Derived.Deep.LoopGhost
namespace Go.Proofs.Qxb6605609a
open Go.RowKit

/-- What the walk from k leaves. -/
def WalkOk (T : TC) (w : World) (s : TSt) (k : Nat) (e : Ending) (w' : World) : Prop := e = .returned (.tuple #[]) ∧ ∃ s1, Kids T.adj k (s.enter k) (T.adj k) s1 ∧ TW T w' (s1.close T.adj k) ∧ KB T.M w w'

theorem cinfo9 : (Try.prog.info? 9).map (fun i => (i.zero, i.size, i.bytes)) = some (some (.string ByteArray.empty), 1, 16) := by kernel_rfl
theorem cinfo22 : (Try.prog.info? 22).map (fun i => (i.zero, i.size, i.bytes)) = some (some (.slice none 0 0), 1, 24) := by kernel_rfl

set_option maxRecDepth 100000 in
set_option maxHeartbeats 4000000 in
theorem walk31 {T : TC} (H : TH T) : ∀ (m : Nat) (w : World) (s : TSt) (k : Nat) (gray : List Nat), T.n - s.cnt ≤ m → k < T.n → s.num k = none → TW T w s → Tar T.adj gray s → (∀ g ∈ gray, Reach T.adj g k) →
    Calls Try.prog 31 #[.string (T.nm k), .pointer (some ⟨T.c1, 0, none⟩), .pointer (some ⟨T.c2, 0, none⟩), .pointer (some ⟨T.c3, 0, none⟩), .pointer (some ⟨T.c4, 0, none⟩), .pointer (some ⟨T.c5, 0, none⟩), .pointer (some ⟨T.c6, 0, none⟩), .pointer (some ⟨T.c7, 0, none⟩)] w (WalkOk T w s k) := by
  intro m
  induction m with
  | zero =>
    intro w s k gray hm hk hn hW
    have := hW.cnt_lt hk hn
    omega
  | succ m ih =>
  intro w s k gray hm hk hn hW hT hg
  have IH := show Hid (∀ (w : World) (s : TSt) (k : Nat) (gray : List Nat), T.n - s.cnt ≤ m → k < T.n → s.num k = none → TW T w s → Tar T.adj gray s → (∀ g ∈ gray, Reach T.adj g k) → Calls Try.prog 31 #[.string (T.nm k), .pointer (some ⟨T.c1, 0, none⟩), .pointer (some ⟨T.c2, 0, none⟩), .pointer (some ⟨T.c3, 0, none⟩), .pointer (some ⟨T.c4, 0, none⟩), .pointer (some ⟨T.c5, 0, none⟩), .pointer (some ⟨T.c6, 0, none⟩), .pointer (some ⟨T.c7, 0, none⟩)] w (WalkOk T w s k)) from ih
  clear ih
  have HT : Hid (Tar T.adj (k :: gray) (s.enter k)) := hT.enter hn hg
  have hstl : s.stack.length ≤ 4096 := by
    have h1 := H.nle
    obtain ⟨_, _, _, _, h2, _⟩ := hW
    have := nodup_le hT.nd h2
    omega
  clear hT hg
  obtain ⟨i0, hi0, hz0, hz1, hz2⟩ := info_parts cinfo9
  have HW : Hid (TW T w s) := hW
  have hcle := hW.cnt_le
  have hnle := H.nle
  have hc : s.cnt ≤ 4096 := by omega
  obtain ⟨sv, cv, es, hX, h1, h2, h3⟩ := hW
  have k1 := hX.k.k1
  have k2 := hX.k.k2
  have hlen := (hX.drew H).vis.len Try.underlying53
  obtain ⟨w1, r1, X1, kb1⟩ := (hX.drew H).setVis H hk hc (.int .i64 (s.cnt : Int))
  have k12 := X1.k.k2
  obtain ⟨w2, r2, X2, kb2⟩ := X1.setLow H hk hc (.int .i64 (s.cnt : Int))
  have k24 := X2.k.k4
  have k23 := X2.stk.cell
  have hkb : KB (fun _ => False) w2 (w2.alloc (.cells #[.string (T.nm k)] 9)) := (KB.refl _ _).alloc _
  have k24' : (w2.alloc (.cells #[.string (T.nm k)] 9)).cell? ⟨T.c4, 0, none⟩ = some (.map (some T.ob)) := (hkb.cell (World.block_lt_of_cell? w2 _ k24) id).trans k24
  have k23' : (w2.alloc (.cells #[.string (T.nm k)] 9)).cell? ⟨T.c3, 0, none⟩ = some sv := (hkb.cell (World.block_lt_of_cell? w2 _ k23) id).trans k23
  have HK : Hid (KB T.M w w2) := (show KB T.M w w1 from ⟨kb1.os, kb1.tape, kb1.output, kb1.size, kb1.block⟩).trans kb2 (fun _ _ h => h)
  have HX : Hid (TX _ _ _ _ _ _ _ _ _ _ _ _ _) := X2
  have sl : Hid ((strs T.nm s.stack.reverse).length ≤ 4096) := by
    show (strs T.nm s.stack.reverse).length ≤ 4096
    rw [strs_length, List.length_reverse]; exact hstl
  clear X1 X2 hX kb1 kb2 h1 h2 h3 hkb
  go_enter Try.func31, Try.ntmps31
  go_wp2_with fail
  go_region
  go_wp2_with fail
  go_cut [] from 15 (fun wx => Hid (TW T wx (s.enter k) ∧ KB T.M w wx))
  case first =>
    go_region_law (refine step_append_lies _ (by rfl) (.tmp 25) (.tmp 27) 22 (by rfl) 0 9 i0 _ 1 16 Try.underlying22 hi0 hz0 hz1 hz2 rfl (by omega) sv (strs T.nm s.stack.reverse).length (strs T.nm s.stack.reverse) (by simp [Act.eval]) (HX.out.stk.own.alloc _) ⟨w2.heap.size, 0, none⟩ 1 1 [.string (T.nm k)] (by simp [Act.eval]) (by rfl) (World.news_of_block (cs := #[.string (T.nm k)]) (t := 9) (fr := (0, 0)) (heap_alloc_new _ _)) (by simp [Value.oneCell']) (by omega) (by have := sl.out; unfold maxLen; omega) (by have := sl.out; omega) (by simp) (w2.heap.size + 1) (by simp) ?_; intro g1 cap1 x1 hown1 hgrow1 hat1 hltg1; obtain ⟨hc2, hf2, hc4, hc4', w3, r3, HX3⟩ := HX.out.stkPushed H hown1 hgrow1 hat1 rfl hk hc (.bool true); clear hown1 hgrow1 hat1 hltg1)
    all_goals (go_wp2_with fail; go_meet)
    all_goals exact ⟨TW.entered hk hn HW.out HX3.out.1, HK.out.trans HX3.out.2 (fun _ _ h => h)⟩
  case rest =>
    clear HX HK r1 r2 k1 k2 k12 k23 k24 k23' k24' hlen
    obtain ⟨⟨sv3, cv3, es3, X3, _⟩, _⟩ := hcut.out
    have k5 := X3.k.k5
    have hkid := X3.kidAt H hk
    clear X3
    go_wp2_with fail
    clear k5 hkid hi0 hz0 hz1 hz2 sl hstl
    have hal := H.adjlen k
    go_loopw [10, 11, 12, 33] (fun _ _ _ vi wx => ∃ (j : Nat), j ≤ (T.adj k).length ∧ vi = .int .i64 j ∧ Hid (∃ sj, Kids T.adj k (s.enter k) ((T.adj k).take j) sj ∧ TW T wx sj ∧ KB T.M w wx)) (fun _ _ _ vi _ => (T.adj k).length - (intOf vi).toNat)
    case atStart => exact ⟨0, Nat.zero_le _, rfl, s.enter k, .nil, hcut.out.1, hcut.out.2⟩
    case round =>
      clear hcut
      obtain ⟨j, hj, rfl, Hs⟩ := hrel
      obtain ⟨sj, hK, hTW, hKB⟩ := Hs.out
      clear Hs
      have P := kids_keep hK gray s.cnt HT.out (fun c hc => List.mem_of_mem_take hc) (TSt.enter_self s k) (by simp [TSt.enter])
      have hnk : sj.num k = some s.cnt := P.ext.num k _ (TSt.enter_self s k)
      have hcnt : s.cnt + 1 ≤ sj.cnt := P.ext.cnt
      have hTW' := hTW
      obtain ⟨svj, cvj, esj, X, _⟩ := hTW'
      by_cases hlt : j < (T.adj k).length
      · obtain ⟨c, hce⟩ : ∃ c, c = (T.adj k).getD j 0 := ⟨_, rfl⟩
        have hca : c ∈ T.adj k := by rw [hce, List.getD_eq_getElem?_getD, List.getElem?_eq_getElem hlt]; exact List.getElem_mem hlt
        have hcn : c < T.n := H.adjlt k c hca
        have htk : (T.adj k).take (j + 1) = (T.adj k).take j ++ [c] := by
          rw [List.take_add_one, List.getElem?_eq_getElem hlt, hce, List.getD_eq_getElem?_getD, List.getElem?_eq_getElem hlt]; rfl
        obtain ⟨b1, o1, _, hix1, hc1⟩ := (X.list H hk).elem22 hlt (T.lc k)
        rw [← hce] at hc1
        have k1 := X.k.k1
        have k2 := X.k.k2
        have k4 := X.k.k4
        have k6 : wr.cell? ⟨T.c6, 0, none⟩ = some (.func (.func 31) #[] #[.pointer (some ⟨T.c1, 0, none⟩), .pointer (some ⟨T.c2, 0, none⟩), .pointer (some ⟨T.c3, 0, none⟩), .pointer (some ⟨T.c4, 0, none⟩), .pointer (some ⟨T.c5, 0, none⟩), .pointer (some ⟨T.c6, 0, none⟩), .pointer (some ⟨T.c7, 0, none⟩)]) := X.k.k6
        have hvo := X.visOk H hcn
        have Hce : Hid (c = (T.adj k).getD j 0) := hce
        have Htk : Hid ((T.adj k).take (j + 1) = (T.adj k).take j ++ [c]) := htk
        have HP : Hid (KidsPost _ _ _ _ _ _) := P
        have HKj : Hid (Kids T.adj k (s.enter k) ((T.adj k).take j) sj ∧ TW T wr sj ∧ KB T.M w wr) := ⟨hK, hTW, hKB⟩
        have HXj : Hid (TX _ _ _ _ _ _ _ _ _ _ _ _ _) := X
        clear hce htk P hK hTW hKB X
        cases hcv : sj.num c with
        | none =>
          have e1 : (numG sj c).getD (.int .i64 0) = .int .i64 0 := by simp [numG, hcv]
          have e2 : (numG sj c).isSome = false := by simp [numG, hcv]
          rw [e1, e2] at hvo
          have hcv' : Hid (sj.num c = none) := hcv
          clear e1 e2 hcv
          go_wp2_with fail
          refine (IH.out wr sj c (k :: gray) (by omega) hcn hcv'.out HKj.out.2.1 HP.out.tar (HP.out.tar.child hnk hca)).mono ?_
          rintro e w' ⟨rfl, s1, hK1, hTW1, hKB1⟩
          obtain ⟨s2, es2⟩ : ∃ s2, s2 = s1.close T.adj c := ⟨_, rfl⟩
          rw [← es2] at hTW1
          have P1 := kids_keep hK1 (k :: gray) sj.cnt (HP.out.tar.enter hcv'.out (HP.out.tar.child hnk hca)) (fun x hx => hx) (TSt.enter_self sj c) (by simp [TSt.enter])
          have n2k : s2.num k = some s.cnt := by rw [es2, close_num]; exact P1.ext.num k _ (TSt.enter_num hnk hcv'.out)
          have n2c : s2.num c = some sj.cnt := by rw [es2, close_num]; exact P1.ext.num c _ (TSt.enter_self sj c)
          have HK2 : Hid (Kids T.adj k (s.enter k) ((T.adj k).take (j + 1)) (s2.lowTo k (s2.low c))) := by
            show Kids T.adj k (s.enter k) ((T.adj k).take (j + 1)) (s2.lowTo k (s2.low c))
            rw [Htk.out, es2]
            exact HKj.out.1.snoc (.new hcv'.out hK1 .nil)
          clear es2 hK1 P1
          obtain ⟨hlk, hlc, k2', wz, rz, HZ⟩ := hTW1.lower H hk hcn n2k n2c
          go_wp2_with fail
          go_roundw
          case rel => exact ⟨j + 1, by omega, by go_num, _, HK2.out, HZ.out.1, (HKj.out.2.2.trans hKB1 (fun _ _ h => h)).trans HZ.out.2 (fun _ _ h => h)⟩
          case measure => simp [intOf]; omega
        | some i =>
          have e1 : (numG sj c).getD (.int .i64 0) = .int .i64 (i : Int) := by simp [numG, hcv]
          have e2 : (numG sj c).isSome = true := by simp [numG, hcv]
          rw [e1, e2] at hvo
          have hon := HXj.out.onAt H hcn
          have e3 : (onG sj c).getD (.bool false) = .bool (decide (c ∈ sj.stack)) := by simp [onG, hcv]
          rw [e3] at hon
          have hcv' : Hid (sj.num c = some i) := hcv
          obtain ⟨hlk, hvc, wz, rz, HZ⟩ := HKj.out.2.1.lower' H hk hcn hnk hcv
          clear e1 e2 e3 hcv
          by_cases hst : c ∈ sj.stack
          · have HK2 : Hid (Kids T.adj k (s.enter k) ((T.adj k).take (j + 1)) (sj.lowTo k i)) := by
              show Kids T.adj k (s.enter k) ((T.adj k).take (j + 1)) (sj.lowTo k i)
              rw [Htk.out]
              exact HKj.out.1.snoc (.stk hcv'.out hst .nil)
            rw [decide_eq_true hst] at hon
            clear hst
            go_wp2_with fail
            go_roundw
            case rel => exact ⟨j + 1, by omega, by go_num, _, HK2.out, HZ.out.1, HKj.out.2.2.trans HZ.out.2 (fun _ _ h => h)⟩
            case measure => simp [intOf]; omega
          · have HK2 : Hid (Kids T.adj k (s.enter k) ((T.adj k).take (j + 1)) sj) := by
              show Kids T.adj k (s.enter k) ((T.adj k).take (j + 1)) sj
              rw [Htk.out]
              exact HKj.out.1.snoc (.old hcv'.out hst .nil)
            rw [decide_eq_false hst] at hon
            clear hst rz HZ
            go_wp2_with fail
            go_roundw
            case rel => exact ⟨j + 1, by omega, by go_num, _, HK2.out, HKj.out.2.1, HKj.out.2.2⟩
            case measure => simp [intOf]; omega
      · obtain rfl : j = (T.adj k).length := by omega
        rw [List.take_length] at hK P
        have k1 := X.k.k1
        have k2 := X.k.k2
        have hlk := X.lowAt H hk
        have hvk := X.visAt H hk
        have e1 : (lowG sj k).getD (.int .i64 0) = .int .i64 ((sj.low k : Nat) : Int) := by simp [lowG, hnk]
        have e2 : (numG sj k).getD (.int .i64 0) = .int .i64 ((s.cnt : Nat) : Int) := by simp [numG, hnk]
        rw [e1] at hlk
        rw [e2] at hvk
        have Hnk : Hid (sj.num k = some s.cnt) := hnk
        have HP : Hid (KidsPost _ _ _ _ _ _) := P
        have HKj : Hid (Kids T.adj k (s.enter k) (T.adj k) sj ∧ TW T wr sj ∧ KB T.M w wr) := ⟨hK, hTW, hKB⟩
        have hcj : sj.cnt ≤ 4096 := by have := hTW.cnt_le; omega
        clear P hK hTW hKB X e1 e2 hnk
        obtain ⟨lk, elk⟩ : ∃ lk, lk = sj.low k := ⟨_, rfl⟩
        rw [← elk] at hlk
        by_cases hq : lk = s.cnt
        · have Hq : Hid (sj.num k = some (sj.low k)) := by
            show sj.num k = some (sj.low k)
            rw [← elk, hq]; exact Hnk.out
          rw [hq] at hlk
          clear elk hq
          have HPS : Hid (PopSt T w wr sj (.slice none 0 0) [] sj.stack) := PopSt.start HKj.out.2.1 HKj.out.2.2
          have Hks : Hid (k ∈ sj.stack) := HP.out.tar.gin k (List.mem_cons_self ..)
          go_wp2_with fail
          clear k1 k2 hlk hvk
          have Hfa : Hid (sj.stack.Nodup ∧ (∀ x ∈ sj.stack, ∃ i, sj.num x = some i) ∧ (∀ x ∈ sj.stack, x < T.n)) := ⟨HP.out.tar.nd, HP.out.tar.vis, by obtain ⟨_, _, _, _, h, _⟩ := HKj.out.2.1; exact h⟩
          have HWs : Hid (∃ w0, TW T w0 sj) := ⟨wr, HKj.out.2.1⟩
          have HKs : Hid (Kids T.adj k (s.enter k) (T.adj k) sj) := HKj.out.1
          have Hsl : Hid (sj.stack.length ≤ 4096) := by
            have := nodup_le Hfa.out.1 Hfa.out.2.2
            show sj.stack.length ≤ 4096
            omega
          obtain ⟨i0, hi0, hz0, hz1, hz2⟩ := info_parts cinfo9
          obtain ⟨i1, hj0, hy0, hy1, hy2⟩ := info_parts cinfo22
          clear HKj
          go_loopg [13, 14] sj.stack.length (fun gk v13 _ wx => ∃ (done rest : List Nat), Hid (gk = rest.length) ∧ Hid (k ∈ rest) ∧ Hid (k ∉ done) ∧ Hid (PopSt T w wx sj v13 done rest))
          case atStart => exact ⟨[], sj.stack, rfl, Hks, by (show k ∉ ([] : List Nat); simp), HPS⟩
          case round =>
            obtain ⟨done, rest, Hg, Hkr, Hkd, HPr⟩ := hrel
            clear HPS
            obtain ⟨x, r, er⟩ : ∃ x r, rest = x :: r := by
              have := Hkr.out
              cases rest with
              | nil => cases this
              | cons x r => exact ⟨x, r, rfl⟩
            subst er
            have hst := HPr.out.1
            have hsl := Hsl.out
            rw [hst] at hsl
            have hlr : r.length + 1 ≤ 4096 := by simp at hsl; omega
            have hld : done.length ≤ 4096 := by simp at hsl; omega
            have hxn : x < T.n := Hfa.out.2.2 x (by rw [hst]; simp)
            have sld : Hid ((strs T.nm done).length ≤ 4096) := by
              show (strs T.nm done).length ≤ 4096
              rw [strs_length]; exact hld
            clear hst hsl hld
            obtain ⟨g, cap, hc3, hf3, hcap, hcx, hc4, hc4', wz, rz, HZ⟩ := HPr.out.top H Hfa.out.1 Hfa.out.2.1 Hfa.out.2.2 hcj
            clear HPr
            have hix : ∀ w : World, (Instr.indexAt 22 (.slice (some ⟨g, 0, none⟩) (r.length + 1) cap) (.int .i64 (r.length : Int))).run Try.prog w = .ok (.pointer (some ⟨g, r.length, none⟩)) w := fun w => by
              have h1 : (r.length : Int) < (r.length : Int) + 1 := by omega
              have h2 : (0 : Int) ≤ (r.length : Int) := by omega
              have h3 : ¬ ((r.length : Int) + 1 ≤ (r.length : Int)) := by omega
              go_simp
            have b1 : (0 : Int) ≤ (r.length : Int) := by omega
            have b2 : (r.length : Int) ≤ (cap : Int) := by omega
            obtain ⟨q, eq⟩ : ∃ q, q = r.length := ⟨_, rfl⟩
            have Eq : Hid (q = r.length) := eq
            rw [← eq] at hlr hcap hc3 hcx hc4' rz hix b1 b2
            clear eq
            go_wp2_with fail
            go_region
            by_cases hxk : x = k
            · obtain rfl := hxk
              have hx9 : decide (x ∈ [x]) = true := by simp
              clear hx9
              by_cases hL : 0 < done.length
              · have hd : decide ((1 : Int) < ((strs T.nm done).length : Int) + 1) = true := by rw [strs_length]; simp; omega
                have HL : Hid (0 < done.length) := hL
                clear hL
                go_wp2_with (at_builtin; refine wpList_append_lies _ (by rfl) _ _ _ (by rfl) 0 9 i0 _ 1 16 Try.underlying22 hi0 hz0 hz1 hz2 rfl (by omega) u13 (strs T.nm done).length (strs T.nm done) (by rfl) (HZ.out.1.alloc _) ⟨wz.heap.size, 0, none⟩ 1 1 [.string (T.nm x)] (by rfl) (by rfl) (World.news_of_block (cs := #[.string (T.nm x)]) (t := 9) (fr := (0, 0)) (heap_alloc_new _ _)) (by simp [Value.oneCell']) (by omega) (by have := sld.out; unfold maxLen; omega) (by have := sld.out; omega) (by simp) (wz.heap.size + 1) (by simp) ?_; intro g1 cap1 x1 hown1 hgrow1 hat1 hltg1; have HPn := show Hid (PopSt _ _ _ _ _ _ _) from HZ.out.2 _ g1 cap1 _ x1 hown1 hgrow1 hat1 rfl; clear hown1 hgrow1 hat1 hltg1)
                obtain ⟨sv7, cv7, es7, X7, hrow7, _⟩ := HPn.out.2.2
                refine (sort33 (T := T) H.mono H.mono' x1 (.slice (some ⟨g1, 0, none⟩) ((strs T.nm done).length + 1) cap1) (done ++ [x]) hrow7 (by simp) (fun y hy => Hfa.out.2.2 y (by rw [HPn.out.1]; exact List.mem_append_left _ hy)) (by have := sld.out; rw [strs_length] at this; simp; omega)).mono ?_
                rintro e w7 ⟨rfl, hrow8, hkb8⟩
                obtain ⟨cv8, es8, hc7, hrow9, hle8, HT8⟩ := HPn.out.told H (by simp [strs]) Hq.out Hkd.out (Or.inl (by have h0 := HL.out; have h2 : (done ++ [x]).length = done.length + 1 := (by simp); omega)) HWs.out Hfa.out.1 hrow8 hkb8
                clear hrow8 hkb8 hrow7 X7
                go_wp2_with (at_builtin; refine wpList_append_lies _ (by rfl) _ _ _ (by rfl) 0 22 i1 _ 1 24 Try.underlying23 hj0 hy0 hy1 hy2 rfl (by omega) cv8 es8.length es8 (by rfl) (hrow9.alloc _) ⟨w7.heap.size, 0, none⟩ 1 1 [.slice (some ⟨g1, 0, none⟩) ((strs T.nm done).length + 1) cap1] (by rfl) (by rfl) (World.news_of_block (cs := #[.slice (some ⟨g1, 0, none⟩) ((strs T.nm done).length + 1) cap1]) (t := 22) (fr := (0, 0)) (heap_alloc_new _ _)) (by simp [Value.oneCell']) (by omega) (by have := hle8.out; unfold maxLen; omega) (by have := hle8.out; omega) (by simp) (w7.heap.size + 1) (by simp) ?_; intro g2 cap2 x2 hown2 hgrow2 hat2 hltg2; obtain ⟨hc7', hf7, HT9⟩ := HT8.out _ g2 cap2 _ x2 hown2 hgrow2 hat2 rfl; clear hown2 hgrow2 hat2 hltg2)
                go_end0
                exact ⟨rfl, sj, HKs.out, HT9.out.1, HT9.out.2⟩
              · have hd : decide ((1 : Int) < ((strs T.nm done).length : Int) + 1) = false := by rw [strs_length]; simp; omega
                have HL : Hid (done.length = 0) := by (show done.length = 0; omega)
                clear hL
                go_wp2_with (at_builtin; refine wpList_append_lies _ (by rfl) _ _ _ (by rfl) 0 9 i0 _ 1 16 Try.underlying22 hi0 hz0 hz1 hz2 rfl (by omega) u13 (strs T.nm done).length (strs T.nm done) (by rfl) (HZ.out.1.alloc _) ⟨wz.heap.size, 0, none⟩ 1 1 [.string (T.nm x)] (by rfl) (by rfl) (World.news_of_block (cs := #[.string (T.nm x)]) (t := 9) (fr := (0, 0)) (heap_alloc_new _ _)) (by simp [Value.oneCell']) (by omega) (by have := sld.out; unfold maxLen; omega) (by have := sld.out; omega) (by simp) (wz.heap.size + 1) (by simp) ?_; intro g1 cap1 x1 hown1 hgrow1 hat1 hltg1; have HPn := show Hid (PopSt _ _ _ _ _ _ _) from HZ.out.2 _ g1 cap1 _ x1 hown1 hgrow1 hat1 rfl; clear hown1 hgrow1 hat1 hltg1; obtain ⟨svn, cvn, esn, Xn, _⟩ := HPn.out.2.2; have k5 := Xn.k.k5; have hkid := Xn.kidAt H hk; have hls := Xn.list H hk; clear Xn)
                refine (holds32 _ _ _ _ _ x1 hls).mono ?_
                rintro e w6 ⟨⟨b, rfl, hb⟩, rfl⟩
                have Hb : Hid (b = true ↔ x ∈ T.adj x) := by
                  show b = true ↔ x ∈ T.adj x
                  rw [hb]
                  constructor
                  · rintro ⟨j, hj, e⟩
                    have hjm : (T.adj x).getD j 0 ∈ T.adj x := by rw [List.getD_eq_getElem?_getD, List.getElem?_eq_getElem hj]; exact List.getElem_mem hj
                    have hj0 := H.inj _ _ (H.adjlt x _ hjm) hk e
                    rw [hj0] at hjm
                    exact hjm
                  · intro hm
                    obtain ⟨j, hj, e⟩ := List.getElem_of_mem hm
                    exact ⟨j, hj, by rw [List.getD_eq_getElem?_getD, List.getElem?_eq_getElem hj, Option.getD_some, e]⟩
                clear hb hls
                cases b with
                | true =>
                  go_wp2_with fail
                  obtain ⟨sv7, cv7, es7, X7, hrow7, _⟩ := HPn.out.2.2
                  refine (sort33 (T := T) H.mono H.mono' w6 (.slice (some ⟨g1, 0, none⟩) ((strs T.nm done).length + 1) cap1) (done ++ [x]) hrow7 (by simp) (fun y hy => Hfa.out.2.2 y (by rw [HPn.out.1]; exact List.mem_append_left _ hy)) (by have := sld.out; rw [strs_length] at this; simp; omega)).mono ?_
                  rintro e w7 ⟨rfl, hrow8, hkb8⟩
                  obtain ⟨cv8, es8, hc7, hrow9, hle8, HT8⟩ := HPn.out.told H (by simp [strs]) Hq.out Hkd.out (Or.inr (Hb.out.1 (by first | rfl | trivial))) HWs.out Hfa.out.1 hrow8 hkb8
                  clear hrow8 hkb8 hrow7 X7
                  go_wp2_with (at_builtin; refine wpList_append_lies _ (by rfl) _ _ _ (by rfl) 0 22 i1 _ 1 24 Try.underlying23 hj0 hy0 hy1 hy2 rfl (by omega) cv8 es8.length es8 (by rfl) (hrow9.alloc _) ⟨w7.heap.size, 0, none⟩ 1 1 [.slice (some ⟨g1, 0, none⟩) ((strs T.nm done).length + 1) cap1] (by rfl) (by rfl) (World.news_of_block (cs := #[.slice (some ⟨g1, 0, none⟩) ((strs T.nm done).length + 1) cap1]) (t := 22) (fr := (0, 0)) (heap_alloc_new _ _)) (by simp [Value.oneCell']) (by omega) (by have := hle8.out; unfold maxLen; omega) (by have := hle8.out; omega) (by simp) (w7.heap.size + 1) (by simp) ?_; intro g2 cap2 x2 hown2 hgrow2 hat2 hltg2; obtain ⟨hc7', hf7, HT9⟩ := HT8.out _ g2 cap2 _ x2 hown2 hgrow2 hat2 rfl; clear hown2 hgrow2 hat2 hltg2)
                  go_end0
                  exact ⟨rfl, sj, HKs.out, HT9.out.1, HT9.out.2⟩
                | false =>
                  go_wp2_with fail
                  go_end0
                  exact ⟨rfl, sj, HKs.out, HPn.out.close Hq.out Hkd.out (fun h => h.elim (fun h => by have h0 := HL.out; rw [List.length_append, h0] at h; simp at h) (fun h => by have h3 := Hb.out.2 h; cases h3)) HWs.out, HPn.out.2.1⟩
            · have hne := toList_other (fun e => hxk (H.inj x k hxn hk e))
              have Hxk : Hid (x ≠ k) := hxk
              clear hxk
              go_wp2_with (at_builtin; refine wpList_append_lies _ (by rfl) _ _ _ (by rfl) 0 9 i0 _ 1 16 Try.underlying22 hi0 hz0 hz1 hz2 rfl (by omega) u13 (strs T.nm done).length (strs T.nm done) (by rfl) (HZ.out.1.alloc _) ⟨wz.heap.size, 0, none⟩ 1 1 [.string (T.nm x)] (by rfl) (by rfl) (World.news_of_block (cs := #[.string (T.nm x)]) (t := 9) (fr := (0, 0)) (heap_alloc_new _ _)) (by simp [Value.oneCell']) (by omega) (by have := sld.out; unfold maxLen; omega) (by have := sld.out; omega) (by simp) (wz.heap.size + 1) (by simp) ?_; intro g1 cap1 x1 hown1 hgrow1 hat1 hltg1; have HPn := show Hid (PopSt _ _ _ _ _ _ _) from HZ.out.2 _ g1 cap1 _ x1 hown1 hgrow1 hat1 rfl; clear hown1 hgrow1 hat1 hltg1)
              go_roundg r.length
              case measure => rw [Hg.out]; simp
              case rel => exact ⟨done ++ [x], r, rfl, (by show k ∈ r; rcases List.mem_cons.1 Hkr.out with e | e; exact absurd e.symm Hxk.out; exact e), (by show k ∉ done ++ [x]; intro hm; rcases List.mem_append.1 hm with e | e; exact Hkd.out e; exact Hxk.out (List.mem_singleton.1 e).symm), HPn⟩
        · have hb1 : ((lk : Int) == (s.cnt : Int)) = false := by simp; omega
          have hb2 : ((lk : Int) != (s.cnt : Int)) = true := by simp; omega
          have Hq : Hid (lk ≠ s.cnt) := hq
          have Elk : Hid (lk = sj.low k) := elk
          clear elk hq
          go_wp2_with fail
          go_end0
          refine ⟨rfl, sj, HKj.out.1, ?_, HKj.out.2.2⟩
          have ec : sj.close T.adj k = sj := by
            unfold TSt.close
            rw [if_neg]
            rw [Hnk.out, ← Elk.out]
            intro h
            exact Hq.out (Option.some.inj h).symm
          rw [ec]
          exact HKj.out.2.1
end Go.Proofs.Qxb6605609a
