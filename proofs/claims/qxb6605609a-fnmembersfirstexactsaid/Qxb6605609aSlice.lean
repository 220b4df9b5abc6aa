/-
  sort.Slice over the cycles found.
-/
import Derived.Test.Qxb6605609aShelf2
import Derived.Test.Qxb6605609aSort
import Derived.Sort.Walk0
namespace Go.Proofs.Qxb6605609a
open Go.RowKit Go.Sort Go.Lib Go.Shelf

noncomputable def siT : TypeInfo := (Try.prog.info? 23).get (by kernel_rfl)
noncomputable def siE : TypeInfo := (Try.prog.info? 22).get (by kernel_rfl)
theorem siK (n : Nat) (h2 : 2 ≤ n) : Lib.swapperK n siE 23 = 9 := by
  have a : siE.hasPointers = true := by kernel_rfl
  have b : siE.bytes = 24 := by kernel_rfl
  have c : (n == 0) = false := by simp; omega
  have d : (n == 1) = false := by simp; omega
  simp [Lib.swapperK, a, b, c, d]

set_option maxHeartbeats 2000000 in
theorem less35 (blk cap c7 size : Nat) (W : World) (B N C : Nat → Nat) (fst : Nat → ByteArray) (hs : W.cell? ⟨c7, 0, none⟩ = some (.slice (some ⟨blk, 0, none⟩) size cap))
    (hc : ∀ t, t < size → W.cell? ⟨blk, t, none⟩ = some (.slice (some ⟨B t, 0, none⟩) (N t) (C t)) ∧ 0 < N t ∧ W.cell? ⟨B t, 0, none⟩ = some (.string (fst t))) (i j : Nat) (hi : i < size) (hj : j < size) :
    Calls Try.prog 35 #[.int .i64 i, .int .i64 j, .pointer (some ⟨c7, 0, none⟩)] W fun e w' => e = .returned (.bool (Op.bytesLess (fst i).toList (fst j).toList)) ∧ ∃ q, w' = W.drewN q := by
  obtain ⟨ci, ni, fi⟩ := hc i hi
  obtain ⟨cj, nj, fj⟩ := hc j hj
  have b1 : (i : Int) < (size : Int) := by omega
  have b2 : (j : Int) < (size : Int) := by omega
  have b3 : (0 : Int) < (N i : Int) := by omega
  have b4 : (0 : Int) < (N j : Int) := by omega
  clear hc
  go_enter Try.func35, Try.ntmps35
  go_wp2_with fail
  go_quiet (fail)
  go_wp2_with fail
  go_ret
  exact ⟨rfl, nq, rfl⟩

section
variable {α : Type} [Inhabited α]
theorem heap_put {w : World} {g n : Nat} {os : Array Obj} {cur : Array Value} {e : TypeId} {fr : Nat × Nat} (enc : α → Value) (d : Array α) (hb : w.heap[g]? = some (.cells cur e fr)) :
    (grow (putRow enc (Sort.ahead w n) g 0 d) os).heap[g]? = some (.cells (putCells enc 0 d cur) e fr) := by
  have hg : g < w.heap.size := (Array.getElem?_eq_some_iff.1 hb).1
  rw [heap_grow_old _ _ (by simpa using hg)]
  simp [putRow, mapBlock, Sort.ahead, Array.getElem?_modify, hb, onCells]
theorem KB.put {w : World} {g n : Nat} {os : Array Obj} (enc : α → Value) (d : Array α) : KB (fun k => k = g) w (grow (putRow enc (Sort.ahead w n) g 0 d) os) := by
  refine ⟨rfl, rfl, rfl, by simp, fun k hk hne => ?_⟩
  rw [heap_grow_old _ _ (by simpa using hk)]
  have : g ≠ k := fun e => hne e.symm
  simp [putRow, mapBlock, Sort.ahead, Array.getElem?_modify, this]
theorem KB.growOs (w : World) (os : Array Obj) : KB (fun _ => False) w (grow w os) := by
  refine ⟨rfl, rfl, rfl, by simp, fun k hk _ => heap_grow_old _ _ hk⟩
theorem take_put (enc : α → Value) (cur : Array Value) (ts : List α) (h : ts.length ≤ cur.size) : (putCells enc 0 ts.toArray cur).toList.take ts.length = ts.map enc := by
  apply List.ext_getElem?
  intro j
  by_cases hj : j < ts.length
  · rw [List.getElem?_take_of_lt hj, Array.getElem?_toList]
    simp [putCells, hj, show j < cur.size by omega]
  · rw [List.getElem?_take_eq_none (by omega), List.getElem?_eq_none (by simp; omega)]
theorem Row.put {w : World} {g cap n : Nat} {t : TypeId} {os : Array Obj} {xs : List Value} (h : Row w t (.slice (some ⟨g, 0, none⟩) xs.length cap) xs) (enc : α → Value) (ts : List α) (hl : ts.length = xs.length) :
    Row (grow (putRow enc (Sort.ahead w n) g 0 ts.toArray) os) t (.slice (some ⟨g, 0, none⟩) xs.length cap) (ts.map enc) := by
  rcases h.2 with ⟨e, _⟩ | ⟨g', cap', cur, e, hg, hh, hc, hcm, hcs, hct⟩
  · cases e
  · cases e
    have e1 : (ts.map enc).length = xs.length := by simp [hl]
    unfold Row
    rw [e1]
    exact ⟨by simp [hl], .inr ⟨g, cap, _, rfl, hg, heap_put enc _ hh, hc, hcm, by simp [putCells, hcs], by rw [Nat.mul_one, ← hl]; exact take_put enc cur ts (by omega)⟩⟩
end

theorem permIn_all {α : Type} [Inhabited α] {k : Nat} {d d' : Array α} (h : PermIn 0 k d d') (hk : k = d.size) : d'.toList.Perm d.toList := by
  subst hk
  have := h.2.2
  rw [Array.extract_size] at this
  rw [← h.1, Array.extract_size] at this
  exact this

theorem bytesLess_nm {nm : Nat → ByteArray} {n : Nat} (hm : ∀ i j, i < n → j < n → i ≤ j → (nm i).data.toList ≤ (nm j).data.toList) (hm' : ∀ i j, i < n → j < n → (nm i).data.toList ≤ (nm j).data.toList → i ≤ j) {i j : Nat} (hi : i < n) (hj : j < n) : Op.bytesLess (nm i).toList (nm j).toList = decide (i < j) := by
  rw [ByteArray.toList_eq, ByteArray.toList_eq, bytesLess_eq]
  by_cases h : i < j
  · have : ¬ (nm j).data.toList ≤ (nm i).data.toList := fun h2 => by have := hm' j i hj hi h2; omega
    rw [List.not_le] at this
    simp [h, this]
  · have : ¬ (nm i).data.toList < (nm j).data.toList := List.not_lt.2 (hm j i hj hi (by omega))
    simp only [h, this, decide_false]

theorem tiny34 (p : Option Addr) (n c : Nat) (h1 : n ≤ 1) (lb : Array Value) (w : World) :
    Calls Try.prog 34 #[.iface 23 (.slice p n c), .func (.func 35) #[] lb] w fun e w' => e = .returned (.tuple #[]) ∧ ∃ os, w' = grow w os := by
  have hK : Lib.swapperK n siE 23 = n + 1 := by
    rcases Nat.eq_zero_or_pos n with h | h
    · subst h; simp [Lib.swapperK]
    · obtain rfl : n = 1 := by omega
      simp [Lib.swapperK]
  have hS := Any.sort_Slice_tiny Try.laysGg6 23 22 siT siE (by kernel_rfl) (by kernel_rfl) (by kernel_rfl) (by kernel_rfl) 23 (fun _ => by kernel_rfl) p n c h1 (45 + n) (by
    rw [hK]
    rcases Nat.eq_zero_or_pos n with h | h
    · subst h; kernel_rfl
    · obtain rfl : n = 1 := by omega
      kernel_rfl) (.func 35) #[] lb w
  exact hS

theorem sort34 {nm : Nat → ByteArray} {n : Nat} (hm : ∀ i j, i < n → j < n → i ≤ j → (nm i).data.toList ≤ (nm j).data.toList) (hm' : ∀ i j, i < n → j < n → (nm i).data.toList ≤ (nm j).data.toList → i ≤ j) (w : World) (c7 : Nat) (cv : Value) (es : List Value) (cs : List (List Nat)) (Q : Nat → Prop)
    (hR : RC w c7 22 cv es) (hE : Els w Q nm es cs) (hQ : ∀ b, Q b → b ≠ c7 ∧ cv.ownBlock ≠ some b) (hlt : ∀ c ∈ cs, ∀ x ∈ c, x < n) (hlen : es.length < 4611686018427387904) :
    Calls Try.prog 34 #[.iface 23 cv, .func (.func 35) #[] #[.pointer (some ⟨c7, 0, none⟩)]] w fun e w' => e = .returned (.tuple #[]) ∧ ∃ es' cs', RC w' c7 22 cv es' ∧ Els w' Q nm es' cs' ∧ cs'.Perm cs ∧ KB (fun k => cv.ownBlock = some k) w w' := by
  by_cases h2 : 2 ≤ es.length
  · obtain ⟨g, cap, rfl, hg, hcap, hcell⟩ := hR.own.form (by omega)
    have hgc : g ≠ c7 := hR.far g rfl
    have hcl := hE.1
    let F : Fin es.length → Nat := fun a => (srt (cs.getD a [])).getD 0 0
    let enc : Fin es.length → Value := fun a => es[a]
    letI : Inhabited (Fin es.length) := ⟨⟨0, by omega⟩⟩
    have hch : ∀ a : Fin es.length, ∃ y : Nat × Nat × Nat, es[a] = .slice (some ⟨y.1, 0, none⟩) y.2.1 y.2.2 ∧ 0 < y.2.1 ∧ Q y.1 ∧ y.1 < w.heap.size ∧ w.cell? ⟨y.1, 0, none⟩ = some (.string (nm (F a))) ∧ F a < n := fun a => by
      have ha : (a : Nat) < cs.length := by rw [← hcl]; exact a.2
      obtain ⟨b, cp, e, hq, h0, hs⟩ := hE.2 a es[a] cs[(a : Nat)] (List.getElem?_eq_getElem a.2) (List.getElem?_eq_getElem ha)
      obtain ⟨b', off, e2, hlt2, hc2⟩ := hs.spot h0
      have e3 : b = b' ∧ 0 = off := by
        have := Option.some.inj e2
        exact ⟨congrArg Addr.block this, congrArg Addr.off this⟩
      obtain ⟨rfl, rfl⟩ := e3
      have e4 : cs.getD a [] = cs[(a : Nat)] := by rw [List.getD_eq_getElem?_getD, List.getElem?_eq_getElem ha]; rfl
      refine ⟨(b, _, cp), e, h0, hq, hlt2, ?_, ?_⟩
      · have := hc2 0 h0
        simp only [F, e4]
        exact this
      · have hl : 0 < (srt cs[(a : Nat)]).length := by rw [srt_length]; exact h0
        have hmem : (srt cs[(a : Nat)]).getD 0 0 ∈ cs[(a : Nat)] := by
          rw [← srt_mem, List.getD_eq_getElem?_getD, List.getElem?_eq_getElem hl]
          exact List.getElem_mem hl
        simp only [F, e4]
        exact hlt _ (List.getElem_mem ha) _ hmem
    let Y : Fin es.length → Nat × Nat × Nat := fun a => Classical.choose (hch a)
    have hY : ∀ a, _ := fun a => Classical.choose_spec (hch a)
    let lt : Fin es.length → Fin es.length → Bool := fun a b => decide (F a < F b)
    have hO : SWO lt := ⟨fun x => by simp [lt], fun x y z => by simp [lt]; omega, fun x y z => by simp [lt]; omega⟩
    let d : Array (Fin es.length) := (List.finRange es.length).toArray
    have hds : d.size = es.length := by simp [d]
    have hdt : ∀ t (ht : t < es.length), d[t]! = ⟨t, ht⟩ := fun t ht => by
      rw [getElem!_pos d t (by rw [hds]; exact ht)]
      simp [d]
    have hH : Holds enc w g 0 d := fun j hj => by
      rw [hds] at hj
      rw [hdt j hj, Nat.zero_add]
      exact hcell j _ (List.getElem?_eq_getElem hj)
    have hless : LessReads Try.prog 35 #[.pointer (some ⟨c7, 0, none⟩)] enc lt g 0 d.size w := by
      intro m os dk hs i j hi hj
      have e : sortWorld enc w g 0 m dk os = putRow enc (grow (Sort.ahead w m) os) g 0 dk := by
        unfold sortWorld; rw [putRow_grow _ (Sort.ahead w m) _ g 0 _ hg]
      have hHg : Holds enc (grow (Sort.ahead w m) os) g 0 d := holds_grow _ _ _ g 0 d hg (holds_ahead _ _ _ _ _ _ hH)
      have hold : ∀ p : Addr, p.block < w.heap.size → p.block ≠ g → (sortWorld enc w g 0 m dk os).cell? p = w.cell? p := fun p hp hne => by
        rw [e, cell?_putRow_other _ _ g 0 dk _ (Or.inl hne), cell?_grow _ _ _ (by exact hp)]
        rfl
      have hl := less35 g cap c7 d.size (sortWorld enc w g 0 m dk os) (fun t => (Y dk[t]!).1) (fun t => (Y dk[t]!).2.1) (fun t => (Y dk[t]!).2.2) (fun t => nm (F dk[t]!)) ?_ ?_ i j hi hj
      · rw [bytesLess_nm hm hm' (hY _).2.2.2.2.2 (hY _).2.2.2.2.2] at hl
        exact hl
      · rw [hold ⟨c7, 0, none⟩ hR.lt (fun e => hgc e.symm), hR.cell, hds]
      · intro t ht
        refine ⟨?_, (hY _).2.1, ?_⟩
        · have := cell?_putRow enc (grow (Sort.ahead w m) os) g 0 d dk hHg hs t (by omega)
          rw [Nat.zero_add] at this
          rw [e, this]
          exact congrArg some (hY dk[t]!).1
        · rw [hold ⟨(Y dk[t]!).1, 0, none⟩ (hY _).2.2.2.1 (fun e => (hQ _ (hY dk[t]!).2.2.1).2 (show some g = some (Y dk[t]!).1 from congrArg some e.symm))]
          exact (hY _).2.2.2.2.1
    have hone : ∀ a, (enc a).oneCell' = true := fun a => by
      show (es[a]).oneCell' = true
      rw [(hY a).1]
      rfl
    have hS := Any.sort_Slice_sorted Try.laysGg6 23 22 siT siE (by kernel_rfl) (by kernel_rfl) (by kernel_rfl) (by kernel_rfl) 23 (fun _ => by kernel_rfl) (by kernel_rfl) (fun _ => by kernel_rfl) enc hone lt hO 35 _
      (enters_of Try.func35 (by kernel_rfl) rfl) g 0 cap d (by rw [hds]; exact h2) (by rw [hds]; exact hlen) 53 (by rw [siK _ (by rw [hds]; exact h2)]; kernel_rfl) false
      (fun args W => run_callFunc_extern Try.func53 (by kernel_rfl) (by kernel_rfl) (by kernel_rfl) (e := Extern.ReflectliteSwapper.swap false) (by kernel_rfl) args W) w hless hH hg
    change Calls Try.prog 34 _ _ _ at hS
    rw [hds] at hS
    refine hS.mono ?_
    rintro e w' ⟨rfl, d', nn, os, hp, -, rfl⟩
    have hp2 : d'.toList.Perm d.toList := permIn_all hp hds.symm
    have hl' : d'.toList.length = es.length := by rw [hp2.length_eq]; simp [d]
    have hk : KB (fun k => k = g) w (grow (putRow enc (Sort.ahead w nn) g 0 d') os) := KB.put enc d'
    refine ⟨rfl, d'.toList.map enc, d'.toList.map (fun a : Fin es.length => cs.getD a.1 []), ⟨?_, ?_, ?_, hR.far⟩, ⟨by simp, fun i v c hv hc => ?_⟩, ?_, hk.mono (fun k _ e => by rw [e]; rfl)⟩
    · exact (hk.cell (p := ⟨c7, 0, none⟩) hR.lt (fun e => hgc e.symm)).trans hR.cell
    · exact (World.frozen?_of_block (hk.block c7 hR.lt (fun e => hgc e.symm))).trans hR.froz
    · exact hR.own.put enc d'.toList hl'
    · rw [List.getElem?_map] at hv hc
      cases ha : d'.toList[i]? with
      | none => rw [ha] at hv; cases hv
      | some a =>
        rw [ha] at hv hc
        simp only [Option.map_some, Option.some.injEq] at hv hc
        have hac : (a : Nat) < cs.length := by rw [← hcl]; exact a.2
        have e4 : cs.getD a [] = cs[(a : Nat)] := by rw [List.getD_eq_getElem?_getD, List.getElem?_eq_getElem hac]; rfl
        rw [e4] at hc
        obtain ⟨b, cp, e, hq, h0, hs⟩ := hE.2 a v c (by rw [← hv]; exact List.getElem?_eq_getElem a.2) (by rw [← hc]; exact List.getElem?_eq_getElem hac)
        exact ⟨b, cp, e, hq, h0, hs.keep hk (fun b' off' e' eg => (hQ b hq).2 (by have := congrArg Addr.block (Option.some.inj e'); simp at this; rw [this, eg]; rfl))⟩
    · refine (hp2.map _).trans ?_
      have e5 : (d.toList.map fun a : Fin es.length => cs.getD a.1 []) = cs := by
        apply List.ext_getElem
        · simp [d, hcl]
        · intro i h1 h3
          simp [d, List.getD_eq_getElem?_getD, List.getElem?_eq_getElem h3]
      rw [e5]
  · obtain ⟨a, c, rfl⟩ := hR.own.any
    have hS := tiny34 a es.length c (by omega) #[.pointer (some ⟨c7, 0, none⟩)] w
    refine hS.mono ?_
    rintro e w' ⟨rfl, os, rfl⟩
    have hk := KB.growOs w os
    exact ⟨rfl, es, cs, hR.keep hk (fun _ _ h => h) id, hE.keep hk (fun _ _ h => ⟨id, h⟩), List.Perm.refl _, hk.mono (fun _ _ h => h.elim)⟩

end Go.Proofs.Qxb6605609a
