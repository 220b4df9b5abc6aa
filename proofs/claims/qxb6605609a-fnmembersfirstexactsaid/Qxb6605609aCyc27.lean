/-
  THE WALK OF cyclesOf.
-/
import Derived.Test.Qxb6605609aCyc27a
import Derived.Test.Qxb6605609aCycW
namespace Go.Proofs.Qxb6605609a
open Go.RowKit Go.Maps Go.WideMaps Go.Sort

/-- The surroundings at the walk's start. -/
def T27 (w W : World) (cb n : Nat) (nm : Nat → ByteArray) (adj : Nat → List Nat) (la : Nat → Option Addr) (lc : Nat → Nat) : TC where
  c1 := w.heap.size + 1 + 1 + 1
  c2 := w.heap.size + 1 + 1 + 1 + 1
  c3 := w.heap.size + 1 + 1 + 1 + 1 + 1 + 1 + 1
  c4 := w.heap.size + 1 + 1 + 1 + 1 + 1 + 1
  c5 := w.heap.size
  c6 := w.heap.size + 1 + 1 + 1 + 1 + 1 + 1 + 1 + 1 + 1
  c7 := w.heap.size + 1 + 1 + 1 + 1 + 1 + 1 + 1 + 1
  vb := w.heap.size + 1
  lb := w.heap.size + 1 + 1
  ob := w.heap.size + 1 + 1 + 1 + 1 + 1
  cb := cb
  n := n
  nm := nm
  adj := adj
  la := la
  lc := lc
  w0 := w
  M := fun k => k = w.heap.size + 7 ∨ k = w.heap.size + 8 ∨ k = w.heap.size + 1 ∨ k = w.heap.size + 2 ∨ k = w.heap.size + 5 ∨ W.heap.size ≤ k
  base := W.heap.size

section
variable {w W : World} {cb sz n : Nat} {nm : Nat → ByteArray} {adj : Nat → List Nat} {la : Nat → Option Addr} {lc : Nat → Nat}

theorem KidMap.th (h : KidMap w cb sz n nm adj la lc) (hW : w.heap.size + 10 ≤ W.heap.size) : TH (T27 w W cb n nm adj la lc) where
  nle := h.nle
  sz := h.nsz
  inj := h.inj
  mono := h.mono
  mono' := h.mono'
  adjlt := h.adjlt
  adjlen := h.adjlen
  kids := ⟨sz, h.kids⟩
  lists := h.lists
  nil := h.nil
  low := fun k hk => by simp only [T27] at hk ⊢; omega
  new := fun k hk => by simp only [T27] at hk ⊢; omega
  m1 := by simp only [T27]; omega
  m2 := by simp only [T27]; omega
  m4 := by simp only [T27]; omega
  m5 := by simp only [T27]; omega
  m6 := by simp only [T27]; omega
  y3 := Or.inl rfl
  y7 := Or.inr (Or.inl rfl)
  yv := Or.inr (Or.inr (Or.inl rfl))
  yl := Or.inr (Or.inr (Or.inr (Or.inl rfl)))
  yo := Or.inr (Or.inr (Or.inr (Or.inr (Or.inl rfl))))
  dist := by simp [T27]; omega

theorem cntV_start (m : Nat) : cntV TSt.start.num m = 0 := by
  induction m with
  | zero => rfl
  | succ m ih => unfold cntV; rw [ih]; rfl

theorem SMap.none' {b : Nat} (h : SMap W b 0 (fun _ => none)) (g : Nat → Option Value) (hg : ∀ i, g i = none) : SMap W b 0 (nmF nm n g) :=
  h.congr fun s _ => by
    unfold nmF
    cases idxOf nm n s with
    | none => rfl
    | some i => exact (hg i).symm

theorem TW.start27 {W0 : World} (hM : Made w W0 cb) {S : Nat → Prop} (hk : KB S W0 W) (hS : ∀ k, k < w.heap.size + 10 → ¬ S k) : TW (T27 w W cb n nm adj la lc) W TSt.start := by
  obtain ⟨k1, k2, k4, k5, k6, v, l, o, s, c, b⟩ := hM.keep hk hS
  refine ⟨.slice none 0 0, .slice none 0 0, [], ⟨⟨k1, k2, k4, k5, k6, b, Nat.le_refl _⟩, v.none' _ (fun _ => rfl), l.none' _ (fun _ => rfl), o.none' _ (fun _ => rfl), s, c, ⟨rfl, fun i v c h => by simp at h⟩, fun k e => by simp [Value.ownBlock] at e, fun k e => by simp [Value.ownBlock] at e⟩, fun x hx => by simp [TSt.start] at hx, (cntV_start _).symm, fun c hc => by simp [TSt.start] at hc, by simp [TSt.start]⟩
end

theorem row_at {w1 : World} {a b m : Nat} (h : a = b) (hr : Row w1 9 (.slice (some ⟨a, 0, none⟩) 0 m) []) : Row w1 9 (.slice (some ⟨b, 0, none⟩) 0 m) [] := by subst h; exact hr

/-- A key of the map is the name of a place. -/
theorem key_place {D : DataW Value} {nm : Nat → ByteArray} {n : Nat} {g : Nat → Option Value} (hf : ∀ s : ByteArray, s.size ≤ maxLen → ∀ zd, D.atKey (kstr s) zd = atStr (nmF nm n g) s zd) {x : List UInt8} (hx : x.length ≤ maxLen) {yd : DataW Value} (hat : ∀ zd, D.atKey (.string x) zd = yd) : ∃ i, i < n ∧ x = (nm i).data.toList ∧ (g i).isSome := by
  have h1 := hf ⟨x.toArray⟩ (by simpa [ByteArray.size] using hx)
  have e0 : kstr ⟨x.toArray⟩ = .string x := by simp [kstr]
  rw [e0] at h1
  cases hn : nmF nm n g ⟨x.toArray⟩ with
  | none =>
    exfalso
    have a := h1 (.held (.bool true))
    have b := h1 (.held (.bool false))
    rw [hat] at a b
    simp only [atStr, hn] at a b
    rw [a] at b
    cases b
  | some v =>
    unfold nmF at hn
    cases hi : idxOf nm n ⟨x.toArray⟩ with
    | none => rw [hi] at hn; cases hn
    | some i =>
      rw [hi] at hn
      obtain ⟨h2, h3⟩ := idxOf_some hi
      exact ⟨i, h2, by rw [h3], by rw [show g i = some v from hn]; rfl⟩

/-- A place that has children is among the keys. -/
theorem key_all {D : DataW Value} {nm : Nat → ByteArray} {n : Nat} {g : Nat → Option Value} (hinj : ∀ i j, i < n → j < n → nm i = nm j → i = j) (hsz : ∀ i, (nm i).size ≤ maxLen) (hf : ∀ s : ByteArray, s.size ≤ maxLen → ∀ zd, D.atKey (kstr s) zd = atStr (nmF nm n g) s zd) {left : Lit → Bool} {l : List Nat} (hlt : ∀ i ∈ l, i < n) (hC : Collected D left (l.map fun i => (nm i).data.toList)) (hl : ∀ kl, left kl = false) {i : Nat} (hi : i < n) (hg : (g i).isSome) : i ∈ l := by
  have hh : Maps.has D (kstr (nm i)) = true := by
    rw [SMap.has (hf (nm i) (hsz i)), nmF_at hinj hi]
    exact hg
  have := (hC.2 (nm i).data.toList).2 ⟨hh, hl _⟩
  obtain ⟨j, hj, e⟩ := List.mem_map.1 this
  have : nm j = nm i := by
    cases h1 : nm j
    cases h2 : nm i
    rw [h1, h2] at e
    simp at e
    simp [e]
  rw [← hinj j i (hlt j hj) hi this]
  exact hj

set_option maxRecDepth 100000 in
set_option maxHeartbeats 2000000 in
theorem cyc27 (w : World) (cb sz n : Nat) (nm : Nat → ByteArray) (adj : Nat → List Nat) (la : Nat → Option Addr) (lc : Nat → Nat) (hK : KidMap w cb sz n nm adj la lc) (hsome : ∃ i, adj i ≠ []) :
    Calls Try.prog 27 #[.map (some cb)] w fun e w' => CycRes w w' nm adj n e ∧ Below w.heap.size w w' := by
  have HK : Hid (KidMap w cb sz n nm adj la lc) := hK
  have hM := made27 w cb
  have hkm : KB (fun _ => False) w (madeW w cb) := KB.of _ hM.bel
  obtain ⟨D, hown, hD, hf⟩ := hK.kids.keep hkm id
  have hsz : Maps.size D ≤ 4096 := by rw [hD]; exact hK.small
  have hcb : cb < w.heap.size := hK.kids.lt
  have HF : Hid (∀ s : ByteArray, s.size ≤ maxLen → ∀ zd, D.atKey (kstr s) zd = atStr (nmF nm n (kidG adj la lc)) s zd) := hf
  have HM : Hid (Made w (madeW w cb) cb) := hM
  have hms := hM.size
  obtain ⟨i0, hi0, hz0, hz1, hz2⟩ := info_parts cinfo9
  have m1 := makeMap53n
  have m2 := makeMap31n
  clear hK hf hM hkm hD
  go_enter Try.func27, Try.ntmps27
  go_wp2_with (first
    | (at_len; refine wpList_len_own _ rfl _ 29 rfl 9 22 Try.underlying29 heldElem cb sz D rfl hown ?_)
    | (at_make; (refine wpList_make_own _ rfl _ _ 22 rfl 0 9 i0 (.string ByteArray.empty) 1 Try.underlying22 hi0 hz0 hz1 _ _ _ (Maps.size D) rfl rfl rfl (by rw [hz2]; omega) (by unfold maxLen; omega) (Nat.zero_le _) ?_; intro w1 hrow1 hg1; have hk1 : Hid (KB (fun _ => False) (madeW w cb) w1) := (KB.refl (fun _ => False) (madeW w cb)).grown (show (madeW w cb).grownBy w1 none from hg1) (fun k e _ => by cases e); have k5w := (hk1.out.cell (World.block_lt_of_cell? _ _ HM.out.k5) id).trans HM.out.k5; have Hrow1 : Hid (Row w1 9 (.slice (some ⟨w.heap.size + 1 + 1 + 1 + 1 + 1 + 1 + 1 + 1 + 1 + 1, 0, none⟩) 0 (Maps.size D)) []) := row_at hms (show Row w1 9 (.slice (some ⟨(madeW w cb).heap.size, 0, none⟩) 0 (Maps.size D)) [] from hrow1); have hown1 := hown.kept (show (madeW w cb).grownBy w1 none from hg1) (by simp); clear hrow1 hg1))
    | (at_range; refine wpList_range_own _ rfl _ 29 rfl 9 22 law9 Try.underlying29 heldElem cb sz D rfl hown1 ?_; intro w0 hrg0 hg0 hs0; have HR0 : Hid (w0.ranges Try.prog 9 heldElem cb w1.heap.size sz D (Maps.has D) (Maps.size D)) := hrg0; have hk0 : Hid (KB (fun _ => False) w1 w0) := (KB.refl (fun _ => False) w1).grown hg0 (fun k e _ => by cases e); clear hrg0 hg0 hs0))
  clear m1 m2 k5w hown hown1
  have hsz' : Hid (Maps.size D ≤ 4096) := hsz
  have hw1s : Hid (w.heap.size + 10 ≤ w1.heap.size) := by
    have := hk1.out.size
    show w.heap.size + 10 ≤ w1.heap.size
    omega
  clear hms hsz
  go_frame
  go_loopw [9, 10] (fun v _ wr => ∃ (left : Lit → Bool) (cnt : Nat) (l : List Nat), Hid (wr.ranges Try.prog 9 heldElem cb w1.heap.size sz D left cnt) ∧ Hid (l.length + cnt ≤ Maps.size D) ∧ Hid (Row wr 9 v (strs nm l)) ∧ Hid (∀ k, v.ownBlock = some k → w.heap.size + 10 ≤ k) ∧ Hid (∀ i ∈ l, i < n) ∧ Hid (Collected D left (l.map fun i => (nm i).data.toList)) ∧ Hid (KB (fun k => w.heap.size + 10 ≤ k) (madeW w cb) wr)) (fun _ _ wr => wr.rangeLeft cb w1.heap.size)
  case atStart =>
    exact ⟨_, _, [], HR0, by (show 0 + _ ≤ _; omega), Hrow1.out.keep hk0.out (fun _ _ h => h), (fun k e => by simp [Value.ownBlock] at e; omega), (fun i hi => by cases hi), Collected.start D, (hk1.out.trans hk0.out (fun _ _ h => h)).mono (fun _ _ h => h.elim)⟩
  case round =>
    obtain ⟨left, cnt, l, HR, hlc, Hrow, Hvb, Hln, HC, Hkb⟩ := hrel
    clear HR0 Hrow1 hk0 hk1
    go_wp2_with (at_next; refine wpList_next_ranges _ rfl _ rfl 9 law9 heldElem encStr (id : Value → Value) (fun key kl hk => by obtain ⟨x, hx, _⟩ := Maps.keyOf_str Try.underlying9 hk; exact ⟨x, hx⟩) (fun v y hv => ⟨v, rfl⟩) cb w1.heap.size sz _ _ _ rfl HR.out ?_ ?_)
    · intro hc0 hl0
      have hlne : Hid (0 < l.length ∧ ∀ i, adj i ≠ [] → i ∈ l) := by
        have hall : ∀ i, adj i ≠ [] → i ∈ l := fun i hi => by
          have hin : i < n := by
            by_cases h : i < n
            · exact h
            · exact absurd (HK.out.adjout i (by omega)) hi
          exact key_all HK.out.inj HK.out.nsz HF.out Hln.out HC.out hl0 hin (by simp [kidG, hi])
        obtain ⟨i, hi⟩ := hsome
        exact ⟨List.length_pos_of_mem (hall i hi), hall⟩
      have hll : Hid (l.length ≤ 4096) := by
        have h1 := hlc.out
        have h2 := hsz'.out
        show l.length ≤ 4096
        omega
      clear hc0 hl0 HR HC HF hsome
      go_wp2_with fail
      refine (sort33 (T := T27 w wr cb n nm adj la lc) HK.out.mono HK.out.mono' wr u9 l Hrow.out hlne.out.1 Hln.out (by have := hll.out; omega)).mono ?_
      rintro e w5 ⟨rfl, hrow5, hkb5⟩
      have hL5 : (strs nm (srt l)).length = (srt l).length := strs_length _ _
      have hL6 : (srt l).length = l.length := srt_length l
      obtain ⟨a9, c9, ev9, hsl9⟩ := Row.slAt (show Row w5 9 u9 (strs nm (srt l)) from hrow5) (by have := hll.out; omega) (fun j => .string (nm ((srt l).getD j 0))) (fun i hi => by
        rw [hL5] at hi
        simp [strs, List.getElem?_eq_getElem hi])
      rw [hL5] at ev9 hsl9
      have Hkb5 : Hid (KB (fun k => w.heap.size + 10 ≤ k) (madeW w cb) w5) := Hkb.out.trans hkb5 (fun k _ e => Hvb.out k e)
      have hsz5 : w.heap.size + 10 ≤ w5.heap.size := by
        have h1 := Hkb5.out.size
        have h2 := HM.out.size
        omega
      have HT : TH (T27 w w5 cb n nm adj la lc) := HK.out.th hsz5
      have HW : Hid (TW (T27 w w5 cb n nm adj la lc) w5 TSt.start) := TW.start27 HM.out Hkb5.out (fun k hk => by omega)
      have hnm9 : ∀ b off, a9 = some ⟨b, off, none⟩ → ¬ (T27 w w5 cb n nm adj la lc).M b := fun b off e hb => by
        have ho : u9.ownBlock = some b := by rw [ev9, e]; rfl
        have h1 := Hvb.out b ho
        have h2 := Row.lt (show Row w5 9 u9 (strs nm (srt l)) from hrow5) ho
        simp only [T27] at hb
        omega
      have Hn9 : Hid (∀ b off, a9 = some ⟨b, off, none⟩ → ¬ (T27 w w5 cb n nm adj la lc).M b) := hnm9
      have hlb : (srt l).length ≤ 4096 := by have := hll.out; omega
      have HmL : Hid ((∀ i ∈ srt l, i < n) ∧ ∀ i, adj i ≠ [] → i ∈ srt l) := ⟨fun i hi => Hln.out i (srt_mem.1 hi), fun i hi => srt_mem.2 (hlne.out.2 i hi)⟩
      obtain ⟨L, hLe⟩ : ∃ L, L = srt l := ⟨_, rfl⟩
      rw [← hLe] at ev9 hsl9 hlb HmL
      subst ev9
      clear hrow5 hkb5 hL5 hL6 hLe hlne hll Hkb Hvb Hln Hrow hlc hnm9
      obtain ⟨T, hTe⟩ : ∃ T, T = T27 w w5 cb n nm adj la lc := ⟨_, rfl⟩
      have ETn : Hid (T = T27 w w5 cb n nm adj la lc) := hTe
      rw [← hTe] at HT HW Hn9
      clear hTe
      go_wp2_with fail
      go_loopw [12, 13, 14, 36] (fun _ _ _ vi wx => ∃ (j : Nat), j ≤ L.length ∧ vi = .int .i64 j ∧ Hid (∃ s, TW T wx s ∧ Tar adj [] s ∧ (∀ i, i < j → ∃ t, s.num (L.getD i 0) = some t) ∧ KB T.M w5 wx)) (fun _ _ _ vi _ => L.length - (intOf vi).toNat)
      case atStart => exact ⟨0, Nat.zero_le _, rfl, TSt.start, HW.out, Tar.start adj, fun i hi => by omega, KB.refl _ _⟩
      case round =>
        obtain ⟨j, hj, rfl, Hs⟩ := hrel
        obtain ⟨s, hTW, hTar, hvis, hkb⟩ := Hs.out
        clear Hs HW
        have eT := ETn.out
        have hTW' := hTW
        obtain ⟨sv, cv, es, X, hX2, hX3, hX4, hX5⟩ := hTW'
        by_cases hlt : j < L.length
        · obtain ⟨x, hx⟩ : ∃ x, x = L.getD j 0 := ⟨_, rfl⟩
          have hxL : x ∈ L := by rw [hx, List.getD_eq_getElem?_getD, List.getElem?_eq_getElem hlt]; exact List.getElem_mem hlt
          have hxn : x < n := HmL.out.1 x hxL
          obtain ⟨b1, o1, _, hix1, hc1⟩ := (hsl9.keep hkb Hn9.out).elem22 hlt c9
          rw [← hx] at hc1
          have k1 := X.k.k1
          have k6 := X.k.k6
          have hvo := X.visOk HT (c := x) (by rw [eT]; exact hxn)
          have hHx : Hid (x = L.getD j 0) := hx
          have HS : Hid (TW T wr s ∧ Tar adj [] s ∧ (∀ i, i < j → ∃ t, s.num (L.getD i 0) = some t) ∧ KB T.M w5 wr) := ⟨hTW, hTar, hvis, hkb⟩
          rw [eT] at k1 k6 hvo
          simp only [T27, TC.bound] at k1 k6 hvo
          clear hx hTW hTar hvis hkb X hX2 hX3 hX4 hX5 eT
          cases hnx : s.num x with
          | none =>
            have e1 : (numG s x).getD (.int .i64 0) = .int .i64 0 := by simp [numG, hnx]
            have e2 : (numG s x).isSome = false := by simp [numG, hnx]
            rw [e1, e2] at hvo
            have Hnx : Hid (s.num x = none) := hnx
            clear e1 e2 hnx
            go_wp2_with fail
            have hwk := walk31 HT T.n wr s x [] (by omega) (by rw [ETn.out]; exact hxn) Hnx.out HS.out.1 (by rw [ETn.out]; exact HS.out.2.1) (by simp)
            rw [ETn.out] at hwk
            refine hwk.mono ?_
            rintro e w6 ⟨rfl, s1, hK1, hTW1, hKB1⟩
            obtain ⟨ht1, ⟨t1, hv1⟩, hmono⟩ := tar_root HS.out.2.1 Hnx.out (show Kids adj x (s.enter x) (adj x) s1 from hK1)
            have HN : Hid (∃ s, TW T w6 s ∧ Tar adj [] s ∧ (∀ i, i < j + 1 → ∃ t, s.num (L.getD i 0) = some t) ∧ KB T.M w5 w6) := by
              refine ⟨s1.close adj x, by rw [ETn.out]; exact hTW1, ht1, fun i hi => ?_, HS.out.2.2.2.trans (show KB T.M wr w6 by rw [ETn.out]; exact hKB1) (fun _ _ h => h)⟩
              by_cases e : i = j
              · rw [e, ← hHx.out]
                exact ⟨t1, hv1⟩
              · obtain ⟨t, ht⟩ := HS.out.2.2.1 i (by omega)
                exact ⟨t, hmono _ t ht⟩
            clear hK1 hTW1 hKB1 ht1 hv1 hmono hwk
            go_wp2_with fail
            go_roundw
            case rel => exact ⟨j + 1, by omega, by go_num, HN⟩
            case measure => simp [intOf]; omega
          | some t =>
            have e1 : (numG s x).getD (.int .i64 0) = .int .i64 (t : Int) := by simp [numG, hnx]
            have e2 : (numG s x).isSome = true := by simp [numG, hnx]
            rw [e1, e2] at hvo
            have HN : Hid (∃ s, TW T wr s ∧ Tar adj [] s ∧ (∀ i, i < j + 1 → ∃ t, s.num (L.getD i 0) = some t) ∧ KB T.M w5 wr) := by
              refine ⟨s, HS.out.1, HS.out.2.1, fun i hi => ?_, HS.out.2.2.2⟩
              by_cases e : i = j
              · rw [e, ← hHx.out]
                exact ⟨t, hnx⟩
              · exact HS.out.2.2.1 i (by omega)
            clear e1 e2 hnx
            go_wp2_with fail
            go_roundw
            case rel => exact ⟨j + 1, by omega, by go_num, HN⟩
            case measure => simp [intOf]; omega
        · obtain rfl : j = L.length := by omega
          obtain ⟨hd1, hd2⟩ := tar_done hTar (fun x hx => by
            have hm := HmL.out.2 x hx
            obtain ⟨i, hi, e⟩ := List.getElem_of_mem hm
            obtain ⟨t, ht⟩ := hvis i hi
            rw [List.getD_eq_getElem?_getD, List.getElem?_eq_getElem hi, Option.getD_some, e] at ht
            exact ⟨t, ht⟩)
          have hspec : Hid (CycSpec adj n s.cycles) := ⟨fun c hc => ⟨(hd1 c hc).1, (hd1 c hc).2.1, fun x hx => by have := hX4 c hc x hx; rw [eT] at this; exact this, (hd1 c hc).2.2⟩, hd2, by have h1 := TW.cnt_le hTW; have h2 := HT.nle; omega⟩
          have hE0 : Els wr (fun k => Far T k ∧ sv.ownBlock ≠ some k ∧ cv.ownBlock ≠ some k) nm es s.cycles := by
            have h0 := X.els
            rw [show T.nm = nm by rw [eT]; rfl] at h0
            exact h0
          have hsort := sort34 (nm := nm) (n := n) HK.out.mono HK.out.mono' wr T.c7 cv es s.cycles (fun k => Far T k ∧ sv.ownBlock ≠ some k ∧ cv.ownBlock ≠ some k) X.cyc hE0 (fun b hb => ⟨hb.1.2.2.1, hb.2.2⟩) (fun c hc => (hspec.out.1 c hc).2.2.1) (by have h0 := X.els.1; have h1 := hspec.out.2.2; omega)
          have k7 := X.cyc.cell
          have Hbel : Hid (Below w.heap.size w wr) := by have := X.k.bel; rw [eT] at this; exact this
          have HcvM : Hid (∀ k, cv.ownBlock = some k → w.heap.size ≤ k) := fun k e => by have := HT.low k (X.cf k e).1.1; rw [eT] at this; exact this
          have Hlow : Hid (∀ k, T.M k → w.heap.size ≤ k) := fun k e => by have := HT.low k e; rw [eT] at this; exact this
          have ec7 : T.c7 = w.heap.size + 1 + 1 + 1 + 1 + 1 + 1 + 1 + 1 := by rw [eT]; rfl
          rw [ec7] at k7 hsort
          clear ec7 hE0 eT
          clear hTW hTar hvis hkb X hX2 hX3 hX4 hX5 hd1 hd2
          go_wp2_with fail
          refine hsort.mono ?_
          rintro e w7 ⟨rfl, es', cs', hR', hE', hp', hkb7⟩
          have k7' := hR'.cell
          have Hres : Hid (Row w7 22 cv es' ∧ Els w7 (fun b => w.heap.size ≤ b) nm es' cs' ∧ CycSpec adj n cs' ∧ Below w.heap.size w w7) := by
            refine ⟨hR'.own, hE'.keep (KB.refl (fun _ => False) w7) (fun k _ hk => ⟨id, Hlow.out k hk.1.1⟩), ?_, Hbel.out.trans (hkb7.toBelow Hbel.out.size (fun k hk e => by have := HcvM.out k e; omega))⟩
            obtain ⟨q1, q2, q3⟩ := hspec.out
            refine ⟨fun c hc => q1 c (hp'.mem_iff.1 hc), fun x y h1 h2 => ?_, by rw [hp'.length_eq]; exact q3⟩
            obtain ⟨c, hc, hx⟩ := q2 x y h1 h2
            exact ⟨c, hp'.mem_iff.2 hc, hx⟩
          clear hR' hE' hp' hkb7 hsort
          go_wp2_with fail
          go_ret
          exact ⟨⟨cv, es', cs', rfl, Hres.out.1, Hres.out.2.1, Hres.out.2.2.1⟩, Hres.out.2.2.2⟩
    · intro x c kl yd yp w2 cnt2 hkey hlk hv hat hrg2 hlt hg2 hs2 hen
      obtain ⟨x', ex, rfl, hxl⟩ := Maps.keyOf_str Try.underlying9 hkey
      obtain rfl : x = x' := encStr_inj ex
      obtain ⟨i, hin, hxi, hgi⟩ := key_place HF.out hxl hat
      have HR2 : Hid (w2.ranges Try.prog 9 heldElem cb w1.heap.size sz D (fun z => left z && !z.sameKey (.string x)) cnt2) := hrg2
      have HC2 : Hid (Collected D (fun z => left z && !z.sameKey (.string x)) ((l ++ [i]).map fun i => (nm i).data.toList)) := by
        have := HC.out.step hlk hat
        show Collected D _ ((l ++ [i]).map fun i => (nm i).data.toList)
        rw [List.map_append, List.map_singleton, ← hxi]
        exact this
      have e1 : encStr x = .string (nm i) := by rw [hxi]
      rw [e1] at hen
      rw [e1]
      have hne : ∀ k, u9.ownBlock = some k → k ≠ w1.heap.size ∧ k ≠ cb := fun k e => ⟨fun e2 => (row_ne_iter Hrow.out HR.out) (by rw [e, e2]), fun e2 => by have := Hvb.out k e; omega⟩
      have Hne : Hid (∀ k, u9.ownBlock = some k → k ≠ w1.heap.size ∧ k ≠ cb) := hne
      have Hk2 : Hid (KB (fun k => k = w1.heap.size) wr w2) := (KB.refl (fun k => k = w1.heap.size) wr).grown hg2 (fun k e _ => by cases e; rfl)
      have Hrow2 : Hid (Row w2 9 u9 (strs nm l)) := Hrow.out.keep Hk2.out (fun k e => (Hne.out k e).1)
      have Hlt : Hid (cnt2 < cnt) := hlt
      have sl : Hid ((strs nm l).length ≤ 4096) := by
        have h1 := hlc.out
        have h2 := hsz'.out
        show (strs nm l).length ≤ 4096
        rw [strs_length]
        omega
      clear hs2 hg2 hkey ex hlk hv hat hrg2 hne hlt hxl hgi e1
      go_wp2_with (at_builtin; refine wpList_append_lies _ (by rfl) _ _ _ (by rfl) 0 9 i0 _ 1 16 Try.underlying22 hi0 hz0 hz1 hz2 rfl (by omega) u9 (strs nm l).length (strs nm l) (by rfl) (Hrow2.out.alloc _) ⟨w2.heap.size, 0, none⟩ 1 1 [.string (nm i)] (by rfl) (by rfl) (World.news_of_block (cs := #[.string (nm i)]) (t := 9) (fr := (0, 0)) (heap_alloc_new _ _)) (by simp [Value.oneCell']) (by omega) (by have := sl.out; unfold maxLen; omega) (by have := sl.out; omega) (by simp) (w2.heap.size + 1) (by simp) ?_; intro g1 cap1 x1 hown1 hgrow1 hat1 hltg1; have Hown1 : Hid (Row x1 9 (.slice (some ⟨g1, 0, none⟩) ((strs nm l).length + 1) cap1) (strs nm l ++ [.string (nm i)])) := Row.pushed hown1; have Hgrow1 : Hid ((w2.alloc (.cells #[.string (nm i)] 9)).grownBy x1 u9.ownBlock) := hgrow1; have Hat1 : Hid (u9.ownBlock = some g1 ∨ g1 = w2.heap.size + 1) := hat1; clear hown1 hgrow1 hat1 hltg1)
      have HR3 : Hid (x1.ranges Try.prog 9 heldElem cb w1.heap.size sz D (fun z => left z && !z.sameKey (.string x)) cnt2) := (HR2.out.alloc _).kept Hgrow1.out (fun e => (Hne.out cb e.symm).2 rfl) (fun e => (Hne.out _ e.symm).1 rfl)
      go_roundw
      case rel =>
        refine ⟨_, cnt2, l ++ [i], HR3, ?_, ?_, ?_, ?_, HC2, ?_⟩
        · have h1 := hlc.out
          have h2 := Hlt.out
          show (l ++ [i]).length + cnt2 ≤ _
          simp
          omega
        · show Row x1 9 _ (strs nm (l ++ [i]))
          rw [strs_snoc]
          exact Hown1.out
        · intro k e
          simp [Value.ownBlock] at e
          subst e
          rcases Hat1.out with e | e
          · exact Hvb.out _ e
          · have h1 := Hk2.out.size
            have h2 := Hkb.out.size
            have h3 := HM.out.size
            omega
        · intro j hj
          rcases List.mem_append.1 hj with h | h
          · exact Hln.out j h
          · simp at h
            omega
        · refine ((Hkb.out.trans Hk2.out (fun k _ e => ?_)).alloc _).grown Hgrow1.out (fun k e _ => Hvb.out k e)
          have := hw1s.out
          omega
      case measure => rw [HR3.out.left_eq, HR.out.left_eq]; exact Hlt.out

end Go.Proofs.Qxb6605609a
