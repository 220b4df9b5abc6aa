/-
  zzMembersFirstModel: what lies in memory during the telling.
-/
import Derived.Test.Qxb6605609aMd
import Derived.Test.Qxb6605609aMf64
namespace Go.Proofs.Qxb6605609a
open Go.RowKit

structure NS (cf : Nat → Nat) (w4 wk wx : World) (wb hob rb n : Nat) (val : Nat → Value) (hol : Nat → List Nat) (H : List Nat) (ws : Nat → Int) (tv : Value) (out : List Nat) : Prop where
  rd : wx.rowIs rb 4 n (fun x => .bool (decide (x ∈ H)))
  ws : wx.rowIs wb 3 n (fun p => .int .i64 (if cf p = p then ws p else 0))
  gr : Grid wx hob n w4.heap.size val hol
  tl : wx.ownsRow 0 3 1 tv out.length (ints out)
  tf : ∀ k, tv.ownBlock = some k → wk.heap.size ≤ k
  bel : Below w4.heap.size w4 wx
  sz : wk.heap.size ≤ wx.heap.size
  bl : w4.heap.size ≤ wb ∧ wb < wk.heap.size ∧ w4.heap.size ≤ rb ∧ rb < wk.heap.size ∧ wb ≠ rb ∧ w4.heap.size ≤ wk.heap.size
  gl : ∀ k, GridIn hob n val k → k < wk.heap.size ∧ k ≠ wb ∧ k ≠ rb

section
variable {cf : Nat → Nat} {w4 wk wx : World} {wb hob rb n : Nat} {val : Nat → Value} {hol : Nat → List Nat} {H : List Nat} {ws : Nat → Int} {tv : Value} {out : List Nat}

/-- 'ready[q] = b'. -/
theorem NS.setR (h : NS cf w4 wk wx wb hob rb n val hol H ws tv out) (q : Nat) (b : Bool) (H' : List Nat) (hH : ∀ x, x < n → (x ∈ H' ↔ if x = q then b = true else x ∈ H)) : NS cf w4 wk (wx.setCell ⟨rb, q, none⟩ (.bool b)) wb hob rb n val hol H' ws tv out := by
  have hk : KB (fun b => b = rb) wx (wx.setCell ⟨rb, q, none⟩ (.bool b)) := KB.setCell (p := ⟨rb, q, none⟩) (KB.refl (fun b => b = rb) wx) (fun _ => rfl) _
  have hbl := h.bl
  refine ⟨(h.rd.set q _).congr (fun x hx => ?_), rowIs_keep h.ws hk (by omega), h.gr.keep hk (fun k hg e => (h.gl k hg).2.2 e), ownsRow_keep h.tl hk (fun k e e2 => ?_), h.tf, h.bel.trans (hk.toBelow h.bel.size (fun k hk e => by omega)), by simpa using h.sz, h.bl, h.gl⟩
  · have := hH x hx
    by_cases e : x = q
    · rw [if_pos e] at this
      simp only [e, if_true]
      rw [← e]
      cases b <;> simp_all
    · rw [if_neg e] at this
      simp only [e, if_false, this]
  · have := h.tf k e; omega

/-- 'waits[q] = z'. -/
theorem NS.setW (h : NS cf w4 wk wx wb hob rb n val hol H ws tv out) (q : Nat) (z : Int) (hq : cf q = q) : NS cf w4 wk (wx.setCell ⟨wb, q, none⟩ (.int .i64 z)) wb hob rb n val hol H (fun x => if x = q then z else ws x) tv out := by
  have hk : KB (fun b => b = wb) wx (wx.setCell ⟨wb, q, none⟩ (.int .i64 z)) := KB.setCell (p := ⟨wb, q, none⟩) (KB.refl (fun b => b = wb) wx) (fun _ => rfl) _
  have hbl := h.bl
  refine ⟨rowIs_keep h.rd hk (fun e => by omega), (h.ws.set q _).congr (fun x _ => ?_), h.gr.keep hk (fun k hg e => (h.gl k hg).2.1 e), ownsRow_keep h.tl hk (fun k e e2 => ?_), h.tf, h.bel.trans (hk.toBelow h.bel.size (fun k hk e => by omega)), by simpa using h.sz, h.bl, h.gl⟩
  · by_cases e : x = q
    · subst e
      simp [hq]
    · simp [e]
  · have := h.tf k e; omega

/-- 'out = append(out, part...)'. -/
theorem NS.tell {w1 : World} {g cap H1 : Nat} {px : List Nat} (h : NS cf w4 wk wx wb hob rb n val hol H ws tv out)
    (hown : w1.ownsRow 0 3 1 (.slice (some ⟨g, 0, none⟩) (out.length + px.length) cap) (out.length + px.length) (ints out ++ ints px)) (hg : wx.grownBy w1 tv.ownBlock) (hat : tv.ownBlock = some g ∨ g = H1) (hH : H1 = wx.heap.size) :
    NS cf w4 wk w1 wb hob rb n val hol H ws (.slice (some ⟨g, 0, none⟩) (out.length + px.length) cap) (out ++ px) := by
  have hk : KB (fun k => tv.ownBlock = some k) wx w1 := (KB.refl _ wx).grown hg (fun k e _ => e)
  have hbl := h.bl
  refine ⟨rowIs_keep h.rd hk (fun e => ?_), rowIs_keep h.ws hk (fun e => ?_), h.gr.keep hk (fun k hg e => ?_), ?_, fun k e => ?_, h.bel.trans (hk.toBelow h.bel.size (fun k hk e => ?_)), Nat.le_trans h.sz hk.size, h.bl, h.gl⟩
  · have := h.tf _ e; omega
  · have := h.tf _ e; omega
  · have h1 := h.tf k e
    have h2 := (h.gl k hg).1
    omega
  · rw [List.length_append]
    have : ints (out ++ px) = ints out ++ ints px := by simp [ints]
    rw [this]
    exact hown
  · simp [Value.ownBlock] at e
    subst e
    rcases hat with e | e
    · exact h.tf _ e
    · have := h.sz; omega
  · have := h.tf k e; omega

/-- What is told, as it is read. -/
theorem NS.told (h : NS cf w4 wk wx wb hob rb n val hol H ws tv out) (ho : out.length < 4611686018427387904) : ∃ a c, tv = .slice a out.length c ∧ SlAt wx a out.length (fun k => .int .i64 ((out.getD k 0 : Nat) : Int)) := ints_slAt ho h.tl

/-- Ahead of the first step. -/
theorem NS.start {wl : Nat → List Nat} (hn : n ≤ 4096) (hwb : w4.heap.size ≤ wb) (hrb : w4.heap.size ≤ rb) (hlt : wb < rb) (hws : wk.rowIs wb 3 n (fun p => .int .i64 (((wl p).length : Nat) : Int))) (hgr : Grid wk hob n w4.heap.size val hol) (hnw : ¬ GridIn hob n val wb) (hnr : ¬ GridIn hob n val rb)
    (hrd : wk.rowIs rb 4 n (fun p => .bool (decide (cf p = p ∧ wl p = [])))) (hbel : Below w4.heap.size w4 wk) (hnon : ∀ p, p < n → cf p ≠ p → wl p = []) :
    NS cf w4 wk (wk.alloc (.cells (madeInts n) 3)) wb hob rb n val hol ((List.range n).filter fun p => decide (cf p = p ∧ wl p = [])) (fun p => ((wlC cf n wl p).length : Int)) (.slice (some ⟨wk.heap.size, 0, none⟩) 0 n) [] := by
  have hk : KB (fun _ => False) wk (wk.alloc (.cells (madeInts n) 3)) := (KB.refl _ _).alloc _
  have h1 := hws.lt
  have h2 := hrd.lt
  have h3 := hbel.size
  refine ⟨(rowIs_keep hrd hk id).congr (fun x hx => ?_), (rowIs_keep hws hk id).congr (fun x hx => ?_), hgr.keep hk (fun _ _ h => h), ?_, fun k e => ?_, hbel.alloc hbel.size _, by simp, ⟨hwb, h1, hrb, h2, by omega, h3⟩, fun k hg => ⟨hgr.lt hg, fun e => hnw (e ▸ hg), fun e => hnr (e ▸ hg)⟩⟩
  · simp [hx]
  · unfold wlC
    by_cases e : cf x = x
    · simp [e]
    · simp [e, hnon x hx e]
  · exact World.ownsRow_made wk (madeInts n) n (Nat.zero_le _) (by unfold maxLen; omega) (by rw [madeInts, size_madeCells]; omega)
  · simp [Value.ownBlock] at e
    omega
end

/-- The first to be told. -/
theorem Kahn.startC {cf : Nat → Nat} {n : Nat} {wl : Nat → List Nat} : Kahn n (wlC cf n wl) [] ((List.range n).filter fun p => decide (cf p = p ∧ wl p = [])) [] (fun p => ((wlC cf n wl p).length : Int)) := by
  refine Kahn.start (List.nodup_range.filter _) (fun p => ?_) (fun _ _ => rfl)
  simp only [List.mem_filter, List.mem_range, decide_eq_true_eq]
  unfold wlC
  by_cases e : cf p = p
  · simp [e]
  · simp [e]
theorem wlC_nd {adj : Nat → List Nat} {cf : Nat → Nat} {n : Nat} {wl hol : Nat → List Nat} (h : WaitC adj cf n wl hol) : ∀ q, q < n → (wlC cf n wl q).Nodup := fun q hq => by
  unfold wlC
  split
  · exact h.nd q hq
  · simp
theorem wlC_hol {adj : Nat → List Nat} {cf : Nat → Nat} {n : Nat} {wl hol : Nat → List Nat} (h : WaitC adj cf n wl hol) (hidem : ∀ i, i < n → cf (cf i) = cf i) {p : Nat} (hp : p < n) : ∀ q, q ∈ hol p ↔ q < n ∧ p ∈ wlC cf n wl q := fun q => by
  rw [h.hmem p q hp]
  constructor
  · rintro ⟨hq, hm⟩
    refine ⟨hq, ?_⟩
    obtain ⟨_, i, hi, e, _⟩ := (h.mem q p hq).1 hm
    have : cf q = q := by rw [← e]; exact hidem i hi
    unfold wlC
    rw [if_pos this]
    exact hm
  · rintro ⟨hq, hm⟩
    refine ⟨hq, ?_⟩
    unfold wlC at hm
    split at hm
    · exact hm
    · simp at hm
      omega
theorem wlC_len {adj : Nat → List Nat} {cf : Nat → Nat} {n : Nat} {wl hol : Nat → List Nat} (h : WaitC adj cf n wl hol) {q : Nat} (hq : q < n) : (wlC cf n wl q).length ≤ n + 1 := by
  unfold wlC
  split
  · have := nodup_le (h.nd q hq) (h.lt q)
    omega
  · simp

theorem flatC_len (cf : Nat → Nat) {n : Nat} (hn : n ≤ 4096) : ∀ D : List Nat, (D.flatMap (partC cf n)).length ≤ D.length * 4096
  | [] => by simp
  | x :: r => by
    have h1 := flatC_len cf hn r
    have h2 := partC_len cf (Nat.le_refl n) x
    rw [List.flatMap_cons, List.length_append, List.length_cons]
    omega

end Go.Proofs.Qxb6605609a
