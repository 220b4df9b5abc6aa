/-
  membersFirst: the member groups created with each group ('held').
-/
import Derived.Test.Qxb6605609aMfBase
import Derived.Test.Qxb6605609aCyc27a
namespace Go.Proofs.Qxb6605609a
open Go.RowKit

/-- The places of the names. -/
def Place (wx : World) (pb n : Nat) (ss : Nat → ByteArray) : Prop := SMap wx pb n (fun s => (idxOf ss n s).map fun i : Nat => Value.int .i64 (i : Int))

theorem rowsTo_stay {ss : Nat → ByteArray} {n : Nat} {ln : Nat → Nat} {ms : Nat → Nat → ByteArray} {i t : Nat} (hx : idxOf ss n (ms i t) = none) : rowsTo ss n ln ms i (t + 1) = rowsTo ss n ln ms i t := by
  funext j
  simp only [rowsTo, adjPre_succ_none hx]
theorem rowsTo_push {ss : Nat → ByteArray} {n : Nat} {ln : Nat → Nat} {ms : Nat → Nat → ByteArray} {i t q : Nat} (hx : idxOf ss n (ms i t) = some q) : rowsTo ss n ln ms i (t + 1) = upd (rowsTo ss n ln ms i t) i (rowsTo ss n ln ms i t i ++ [q]) := by
  funext j
  by_cases e : j = i
  · subst e
    rw [upd_same]
    simp [rowsTo, adjPre_succ_some hx]
  · rw [upd_other _ _ e]
    simp [rowsTo, e]
theorem rowsTo_next {ss : Nat → ByteArray} {n : Nat} {ln : Nat → Nat} {ms : Nat → Nat → ByteArray} {i : Nat} (hi : i < n) : rowsTo ss n ln ms (i + 1) 0 = rowsTo ss n ln ms i (ln i) := by
  have ei : adjL ss n ln ms i = adjPre ss n ms i (ln i) := by simp [adjL, hi]
  funext j
  simp only [rowsTo]
  by_cases h1 : j < i
  · rw [if_pos (by omega), if_pos h1]
  · by_cases h2 : j = i
    · rw [if_pos (by omega), if_neg h1, if_pos h2, h2, ei]
    · rw [if_neg (by omega), if_neg h1, if_neg h2]
      simp [adjPre]
theorem rowsTo_end (ss : Nat → ByteArray) (n : Nat) (ln : Nat → Nat) (ms : Nat → Nat → ByteArray) : rowsTo ss n ln ms n 0 = adjL ss n ln ms := by
  funext j
  unfold rowsTo
  by_cases e : j < n
  · rw [if_pos e]
  · rw [if_neg e]
    simp [adjPre, adjL, e]

/-- What the map holds. -/
def heldG (pre : Nat → List Nat) (hv : Nat → Value) (j : Nat) : Option Value := if pre j = [] then none else some (hv j)

structure HSt (wk wx : World) (hb n : Nat) (ss : Nat → ByteArray) (ln : Nat → Nat) (ms : Nat → Nat → ByteArray) (i t : Nat) (hv : Nat → Value) (sz : Nat) : Prop where
  map : SMap wx hb sz (nmF ss n (heldG (rowsTo ss n ln ms i t) hv))
  row : ∀ j, j < n → Row wx 9 (hv j) (strs ss (rowsTo ss n ln ms i t j))
  nil : ∀ j, rowsTo ss n ln ms i t j = [] → hv j = .slice none 0 0
  blk : ∀ j, j < n → ∀ k, (hv j).ownBlock = some k → wk.heap.size ≤ k ∧ k ≠ hb
  disj : ∀ i j, i < n → j < n → i ≠ j → ∀ k, (hv i).ownBlock = some k → (hv j).ownBlock ≠ some k
  cnt : sz ≤ i + (if rowsTo ss n ln ms i t i = [] then 0 else 1)
  nz : sz ≠ 0 → ∃ j, rowsTo ss n ln ms i t j ≠ []
  bel : Below wk.heap.size wk wx
  hbl : wk.heap.size ≤ hb

section
variable {wk wx : World} {hb n : Nat} {ss : Nat → ByteArray} {ln : Nat → Nat} {ms : Nat → Nat → ByteArray} {i t : Nat} {hv : Nat → Value} {sz : Nat}

theorem HSt.start (wk : World) (n : Nat) (ss : Nat → ByteArray) (ln : Nat → Nat) (ms : Nat → Nat → ByteArray) : HSt wk (wk.alloc (.map #[] 0)) wk.heap.size n ss ln ms 0 0 (fun _ => .slice none 0 0) 0 := by
  have e : ∀ j, rowsTo ss n ln ms 0 0 j = [] := fun j => by simp [rowsTo, adjPre]
  refine ⟨(SMap.made wk).congr fun s _ => ?_, fun j _ => by rw [e]; exact Row.nil _ _, fun _ _ => rfl, fun j _ k h => by simp [Value.ownBlock] at h, fun _ _ _ _ _ k h => by simp [Value.ownBlock] at h, Nat.zero_le _, fun h => absurd rfl h, (Below.refl _ _).alloc (Nat.le_refl _) _, Nat.le_refl _⟩
  unfold nmF heldG
  cases idxOf ss n s with
  | none => rfl
  | some j => simp [e]

theorem HSt.calm {wy : World} (h : HSt wk wx hb n ss ln ms i t hv sz) (hk : KB (fun _ => False) wx wy) : HSt wk wy hb n ss ln ms i t hv sz :=
  ⟨h.map.keep hk id, fun j hj => (h.row j hj).keep hk (fun _ _ h => h), h.nil, h.blk, h.disj, h.cnt, h.nz, h.bel.trans (hk.toBelow h.bel.size (fun _ _ h => h)), h.hbl⟩

theorem HSt.stay (h : HSt wk wx hb n ss ln ms i t hv sz) (hx : idxOf ss n (ms i t) = none) : HSt wk wx hb n ss ln ms i (t + 1) hv sz := by
  have e := rowsTo_stay (ln := ln) hx
  exact ⟨by rw [e]; exact h.map, by rw [e]; exact h.row, by rw [e]; exact h.nil, h.blk, h.disj, by rw [e]; exact h.cnt, by rw [e]; exact h.nz, h.bel, h.hbl⟩
theorem HSt.next (h : HSt wk wx hb n ss ln ms i (ln i) hv sz) (hi : i < n) : HSt wk wx hb n ss ln ms (i + 1) 0 hv sz := by
  have e := rowsTo_next (ss := ss) (ln := ln) (ms := ms) hi
  refine ⟨by rw [e]; exact h.map, by rw [e]; exact h.row, by rw [e]; exact h.nil, h.blk, h.disj, ?_, by rw [e]; exact h.nz, h.bel, h.hbl⟩
  have := h.cnt
  split at this <;> omega

theorem HSt.look (h : HSt wk wx hb n ss ln ms i t hv sz) (hinj : ∀ i j, i < n → j < n → ss i = ss j → i = j) (hsz : (ss i).size ≤ maxLen) (hi : i < n) {W : World} (hk : KB (fun k => (hv i).ownBlock = some k) wx W) :
    (Instr.lookup 29 (.map (some hb)) (.string (ss i)) false).run Try.prog W = .ok (hv i) W := by
  have hm := h.map.keep hk (fun e => (h.blk i hi hb e).2 rfl)
  have := hm.look Try.underlying29 (Try.zeroValue22 W) hsz
  rw [nmF_at hinj hi] at this
  rw [this]
  unfold heldG
  by_cases e : rowsTo ss n ln ms i t i = []
  · rw [if_pos e, h.nil i e]; rfl
  · rw [if_neg e]; rfl

/-- One more name for group i. -/
theorem HSt.push {wa w1 : World} {g cap q H1 : Nat} (h : HSt wk wx hb n ss ln ms i t hv sz) (hinj : ∀ i j, i < n → j < n → ss i = ss j → i = j) (hssz : (ss i).size ≤ maxLen) (hi : i < n) (hn : n ≤ 4096) (hx : idxOf ss n (ms i t) = some q) (hka : KB (fun _ => False) wx wa)
    (hown : w1.ownsRow 0 9 1 (.slice (some ⟨g, 0, none⟩) ((strs ss (rowsTo ss n ln ms i t i)).length + 1) cap) ((strs ss (rowsTo ss n ln ms i t i)).length + 1) (strs ss (rowsTo ss n ln ms i t i) ++ [.string (ss q)]))
    (hg : wa.grownBy w1 (hv i).ownBlock) (hat : (hv i).ownBlock = some g ∨ g = H1) (hH : wx.heap.size ≤ H1) :
    ∃ w2, (Instr.mapUpdate 29 (.map (some hb)) (.string (ss i)) (.slice (some ⟨g, 0, none⟩) ((strs ss (rowsTo ss n ln ms i t i)).length + 1) cap)).run Try.prog w1 = .ok () w2 ∧
      Hid (∃ hv' sz', HSt wk w2 hb n ss ln ms i (t + 1) hv' sz' ∧ (∀ k, (hv' i).ownBlock = some k → (hv i).ownBlock = some k ∨ wx.heap.size ≤ k) ∧ KB (fun k => k = hb ∨ (hv i).ownBlock = some k) wx w2) := by
  have hk1 : KB (fun k => (hv i).ownBlock = some k) wx w1 := (hka.mono (fun _ _ h => h.elim)).grown hg (fun k e _ => e)
  have hm1 := h.map.keep hk1 (fun e => (h.blk i hi hb e).2 rfl)
  have hszb : sz < maxLen := by
    have := h.cnt
    unfold maxLen
    split at this <;> omega
  obtain ⟨w2, run, hm2, hg2⟩ := hm1.update Try.underlying29 hssz hszb (.slice (some ⟨g, 0, none⟩) ((strs ss (rowsTo ss n ln ms i t i)).length + 1) cap)
  have hk2 : KB (fun k => k = hb) w1 w2 := KB.ofGrown hg2
  have hgb : wk.heap.size ≤ g ∧ g ≠ hb := by
    rcases hat with e | e
    · exact h.blk i hi g e
    · have := h.bel.size
      have := h.map.lt
      omega
  have hgj : ∀ j, j < n → j ≠ i → (hv j).ownBlock ≠ some g := fun j hj hne e => by
    rcases hat with e2 | e2
    · exact h.disj j i hj hi hne g e e2
    · have := (h.row j hj).lt e
      omega
  have ep := rowsTo_push (ln := ln) hx
  refine ⟨w2, run, upd hv i (.slice (some ⟨g, 0, none⟩) ((strs ss (rowsTo ss n ln ms i t i)).length + 1) cap), _, ⟨hm2.congr fun s _ => ?_, fun j hj => ?_, fun j hj => ?_, fun j hj k e => ?_, fun a b ha hb' hne k e => ?_, ?_, fun _ => ⟨i, by rw [ep, upd_same]; simp⟩, ?_, h.hbl⟩, fun k e => ?_, ?_⟩
  · rw [nmF_upd hinj hi]
    unfold nmF
    cases idxOf ss n s with
    | none => rfl
    | some j =>
      show upd (heldG (rowsTo ss n ln ms i t) hv) i _ j = heldG (rowsTo ss n ln ms i (t + 1)) _ j
      rw [ep]
      by_cases e : j = i
      · subst e
        rw [upd_same]
        simp [heldG, upd_same]
      · rw [upd_other _ _ e]
        simp [heldG, upd_other _ _ e]
  · rw [ep]
    by_cases e : j = i
    · subst e
      rw [upd_same, upd_same, strs_snoc]
      exact (Row.pushed hown).keep hk2 (fun k ek => by simp [Value.ownBlock] at ek; omega)
    · rw [upd_other _ _ e, upd_other _ _ e]
      exact ((h.row j hj).keep hk1 (fun k ek => h.disj j i hj hi e k ek)).keep hk2 (fun k ek => (h.blk j hj k ek).2)
  · rw [ep] at hj
    by_cases e : j = i
    · subst e
      rw [upd_same] at hj
      simp at hj
    · rw [upd_other _ _ e] at hj ⊢
      exact h.nil j hj
  · by_cases e' : j = i
    · subst e'
      rw [upd_same] at e
      simp [Value.ownBlock] at e
      subst e
      exact hgb
    · rw [upd_other _ _ e'] at e
      exact h.blk j hj k e
  · by_cases e1 : a = i <;> by_cases e2 : b = i
    · omega
    · subst e1
      rw [upd_same] at e
      simp [Value.ownBlock] at e
      subst e
      rw [upd_other _ _ e2]
      exact hgj b hb' e2
    · subst e2
      rw [upd_other _ _ e1] at e
      rw [upd_same]
      intro e3
      simp [Value.ownBlock] at e3
      subst e3
      exact hgj a ha e1 e
    · rw [upd_other _ _ e1] at e
      rw [upd_other _ _ e2]
      exact h.disj a b ha hb' hne k e
  · rw [ep, upd_same]
    have hc := h.cnt
    have e2 : ¬ (rowsTo ss n ln ms i t i ++ [q] = []) := by simp
    rw [if_neg e2, nmF_at hinj hi]
    unfold heldG
    by_cases e : rowsTo ss n ln ms i t i = []
    · rw [if_pos e] at hc ⊢
      simp
      omega
    · rw [if_neg e] at hc ⊢
      simp
      omega
  · refine (h.bel.trans (hk1.toBelow h.bel.size (fun k hk e => ?_))).trans (hk2.toBelow (Nat.le_trans h.bel.size hk1.size) (fun k hk e => ?_))
    · have := (h.blk i hi k e).1
      omega
    · have := h.hbl
      omega
  · rw [upd_same] at e
    simp [Value.ownBlock] at e
    subst e
    rcases hat with e | e
    · exact Or.inl e
    · exact Or.inr (by omega)
  · exact (hk1.mono (fun k _ e => Or.inr e)).trans hk2 (fun k _ e => Or.inl e)

/-- At the end: cyclesOf's map. -/
theorem HSt.kidMap {w : World} {cb : Nat} {gb : Nat → Nat} {la : Nat → Option Addr} {lc : Nat → Nat} (h : HSt wk wx hb n ss ln ms n 0 hv sz) (hM : MF w cb n gb ss la ln lc ms) : ∃ la2 lc2, KidMap wx hb sz n ss (adjL ss n ln ms) la2 lc2 := by
  have e := rowsTo_end ss n ln ms
  have hlen : ∀ i, (adjL ss n ln ms i).length ≤ 131072 := fun i => by
    unfold adjL
    split
    · rename_i hi
      have h1 := adjPre_length ss n ms i (ln i)
      have h2 := hM.len i hi
      omega
    · simp
  have each : ∀ j, ∃ y : Option Addr × Nat, (adjL ss n ln ms j = [] → y.1 = none ∧ y.2 = 0) ∧ (j < n → hv j = .slice y.1 (adjL ss n ln ms j).length y.2 ∧ SlAt wx y.1 (adjL ss n ln ms j).length (fun q => .string (ss ((adjL ss n ln ms j).getD q 0)))) := fun j => by
    by_cases hj : j < n
    · by_cases hn : adjL ss n ln ms j = []
      · refine ⟨(none, 0), fun _ => ⟨rfl, rfl⟩, fun _ => ⟨?_, ⟨by rw [hn]; simp, fun h => by rw [hn] at h; simp at h⟩⟩⟩
        rw [hn]
        exact h.nil j (by rw [e]; exact hn)
      · have hr := h.row j hj
        rw [e] at hr
        have hl : (strs ss (adjL ss n ln ms j)).length = (adjL ss n ln ms j).length := strs_length _ _
        have := hlen j
        obtain ⟨a, c, ev, hs⟩ := hr.slAt (by omega) (fun q => .string (ss ((adjL ss n ln ms j).getD q 0))) (fun q hq => by
          rw [hl] at hq
          simp [strs, List.getElem?_eq_getElem hq])
        rw [hl] at ev hs
        exact ⟨(a, c), fun h => absurd h hn, fun _ => ⟨ev, hs⟩⟩
    · exact ⟨(none, 0), fun _ => ⟨rfl, rfl⟩, fun h => absurd h hj⟩
  refine ⟨fun j => (Classical.choose (each j)).1, fun j => (Classical.choose (each j)).2, hM.nle, hM.ssz, hM.inj, hM.mono, hM.mono', fun i j hj => adjL_lt hj, fun i hi => by simp [adjL, show ¬ i < n by omega], hlen, ?_, ?_, fun j hj => ((Classical.choose_spec (each j)).2 hj).2, fun j hj => (Classical.choose_spec (each j)).1 hj⟩
  · refine h.map.congr fun s _ => ?_
    unfold nmF
    cases hi : idxOf ss n s with
    | none => rfl
    | some j =>
      obtain ⟨hj, _⟩ := idxOf_some hi
      simp only [Option.bind_some]
      rw [e]
      unfold heldG kidG
      by_cases hn : adjL ss n ln ms j = []
      · rw [if_pos hn, if_pos hn]
      · rw [if_neg hn, if_neg hn]
        exact congrArg some ((Classical.choose_spec (each j)).2 hj).1
  · have := h.cnt
    have hn := hM.nle
    have e2 : rowsTo ss n ln ms n 0 n = [] := by rw [e]; simp [adjL]
    rw [e2] at this
    simp at this
    omega
end

end Go.Proofs.Qxb6605609a
