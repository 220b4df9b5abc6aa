/-
  The heap keeps what it holds; the parts told one after the other.
-/
import Derived.Test.Qxb6605609aHeapP
import Derived.Test.Qxb6605609aKahn
import Derived.Test.Qxb6605609aMfParts
namespace Go.Proofs.Qxb6605609a
open Go.RowKit

theorem swp_perm {l : List Nat} {i j : Nat} (hi : i < l.length) (hj : j < l.length) : (swp l i j).Perm l := by
  unfold swp
  rw [List.getD_eq_getElem?_getD, List.getD_eq_getElem?_getD, List.getElem?_eq_getElem hi, List.getElem?_eq_getElem hj]
  exact List.set_set_perm hi hj
theorem upL_perm (l : List Nat) (j : Nat) (hj : j < l.length) : (upL l j).Perm l := by
  rw [upL]
  split
  · exact List.Perm.refl _
  · rename_i h
    have hlt : (j - 1) / 2 < l.length := by omega
    have h2 : (j - 1) / 2 < j := by omega
    exact (upL_perm _ _ (by rw [swp_length]; exact hlt)).trans (swp_perm hlt hj)
termination_by j
theorem kid_lt {l : List Nat} {n i : Nat} (h : ¬ n ≤ 2 * i + 1) : kid l n i < n := by
  unfold kid
  split <;> omega
theorem downL_perm (l : List Nat) (n i : Nat) (hn : n ≤ l.length) (hi : i < l.length) : (downL l n i).Perm l := by
  rw [downL]
  split
  · exact List.Perm.refl _
  · rename_i h1
    split
    · have hk := kid_lt (l := l) h1
      exact (downL_perm _ _ _ (by rw [swp_length]; exact hn) (by rw [swp_length]; omega)).trans (swp_perm hi (by omega))
    · exact List.Perm.refl _
termination_by n - i
decreasing_by have := kid_gt l n i; omega

/-- What heap.Pop takes off. -/
theorem pop_split {l : List Nat} {n : Nat} (hl : l.length = n + 1) : ∃ l' x, downL (swp l 0 n) n 0 = l' ++ [x] ∧ l.Perm (x :: l') := by
  have h1 : (downL (swp l 0 n) n 0).length = n + 1 := by rw [downL_length, swp_length, hl]
  have hne : downL (swp l 0 n) n 0 ≠ [] := fun e => by rw [e] at h1; simp at h1
  refine ⟨(downL (swp l 0 n) n 0).dropLast, (downL (swp l 0 n) n 0).getLast hne, (List.dropLast_concat_getLast hne).symm, ?_⟩
  have hp := (downL_perm (swp l 0 n) n 0 (by rw [swp_length, hl]; omega) (by rw [swp_length, hl]; omega)).trans (swp_perm (l := l) (i := 0) (j := n) (by omega) (by omega))
  rw [← List.dropLast_concat_getLast hne] at hp
  exact hp.symm.trans List.perm_append_comm

theorem Kahn.permH {m : Nat} {wl : Nat → List Nat} {D H H' todo : List Nat} {w : Nat → Int} (h : Kahn m wl D H todo w) (hp : H.Perm H') : Kahn m wl D H' todo w := by
  have hpp : (D ++ H).Perm (D ++ H') := List.Perm.append_left D hp
  exact ⟨hpp.nodup_iff.1 h.nd, fun p hpm => h.lt p (hpp.mem_iff.2 hpm), h.cnt, fun p hpm => by rw [← h.ready p hpm, hp.mem_iff], h.ord, h.tnd, h.tlt⟩

/-- Each part told is the least (by le) of those ready then. -/
def Lst (le : Nat → Nat → Prop) (m : Nat) (wl : Nat → List Nat) (D : List Nat) : Prop :=
  ∀ D1 p D2, D = D1 ++ p :: D2 → ∀ q, q < m → q ∉ D1 → (∀ x ∈ wl q, x ∈ D1) → le p q

theorem Lst.nil (le : Nat → Nat → Prop) (m : Nat) (wl : Nat → List Nat) : Lst le m wl [] := fun D1 p D2 h => by simp at h
theorem Lst.snoc {le : Nat → Nat → Prop} {m : Nat} {wl : Nat → List Nat} {D H : List Nat} {w : Nat → Int} {p : Nat} (h : Lst le m wl D) (hk : Kahn m wl D H [] w) (hp : ∀ y ∈ H, le p y) : Lst le m wl (D ++ [p]) := by
  intro D1 x D2 e q hq hn hw
  rcases List.eq_nil_or_concat D2 with rfl | ⟨D2', z, rfl⟩
  · have e' : D1 ++ [x] = D ++ [p] := e.symm
    obtain ⟨rfl, h2⟩ := List.append_inj' e' rfl
    cases h2
    rcases (hk.ready q hq).2 ⟨hw, by simp⟩ with hm | hm
    · exact absurd hm hn
    · exact hp q hm
  · have e' : (D1 ++ x :: D2') ++ [z] = D ++ [p] := by rw [← e.symm]; simp
    obtain ⟨h1, _⟩ := List.append_inj' e' rfl
    exact h D1 x D2' h1.symm q hq hn hw

/-- What is asked of the heap's order. -/
structure HeapLaw (Hp : List Nat → Prop) (le : Nat → Nat → Prop) : Prop where
  nil : Hp []
  push : ∀ l x, Hp l → Hp (upL (l ++ [x]) l.length)
  pop : ∀ l n l' x, Hp l → l.length = n + 1 → downL (swp l 0 n) n 0 = l' ++ [x] → Hp l' ∧ ∀ y ∈ l, le x y

theorem HeapLaw.any : HeapLaw (fun _ => True) (fun _ _ => True) := ⟨trivial, fun _ _ _ => trivial, fun _ _ _ _ _ _ _ => ⟨trivial, fun _ _ => trivial⟩⟩

/-- The cells of the creations of the places out. -/
def chs (gb : Nat → Nat) (out : List Nat) : List Value := out.flatMap fun i => [.int .i64 0, .pointer none, .pointer none, .pointer none, .pointer (some ⟨gb i, 0, none⟩)]
theorem chs_length (gb : Nat → Nat) (out : List Nat) : (chs gb out).length = out.length * 5 := by
  induction out with
  | nil => rfl
  | cons x r ih =>
    unfold chs at ih ⊢
    rw [List.flatMap_cons, List.length_append, ih]
    simp
    omega
theorem chs_snoc (gb : Nat → Nat) (out : List Nat) (i : Nat) : chs gb (out ++ [i]) = chs gb out ++ [.int .i64 0, .pointer none, .pointer none, .pointer none, .pointer (some ⟨gb i, 0, none⟩)] := by simp [chs]
theorem chs_at (gb : Nat → Nat) : ∀ (out : List Nat) (k f : Nat), k < out.length → f < 5 → (chs gb out)[k * 5 + f]? = some (chCell gb (out.getD k 0 * 5 + f))
  | [], k, f, hk, _ => by simp at hk
  | x :: r, 0, f, _, hf => by
    have e : chs gb (x :: r) = [.int .i64 0, .pointer none, .pointer none, .pointer none, .pointer (some ⟨gb x, 0, none⟩)] ++ chs gb r := rfl
    rw [e, List.getElem?_append_left (by simpa using hf)]
    have h5 : f = 0 ∨ f = 1 ∨ f = 2 ∨ f = 3 ∨ f = 4 := by omega
    rcases h5 with rfl | rfl | rfl | rfl | rfl
    · simp [chCell0]
    · simp [chCell1]
    · simp [chCell2]
    · simp [chCell3]
    · simp [chCell4]
  | x :: r, k + 1, f, hk, hf => by
    have e : chs gb (x :: r) = [.int .i64 0, .pointer none, .pointer none, .pointer none, .pointer (some ⟨gb x, 0, none⟩)] ++ chs gb r := rfl
    rw [e, List.getElem?_append_right (by simp; omega)]
    have := chs_at gb r k f (by simpa using hk) hf
    have e2 : (k + 1) * 5 + f - [Value.int .i64 0, .pointer none, .pointer none, .pointer none, .pointer (some ⟨gb x, 0, none⟩)].length = k * 5 + f := by simp; omega
    rw [e2, this]
    simp

/-- What lies in memory during the telling. -/
structure MS (gb : Nat → Nat) (w4 wk wx : World) (wb hob qb m : Nat) (val : Nat → Value) (hol : Nat → List Nat) (v : Value) (l : List Nat) (ws : Nat → Int) (tv : Value) (out : List Nat) : Prop where
  hp : HP wx wk.heap.size qb v l
  ws : wx.rowIs wb 3 m (fun p => .int .i64 (ws p))
  gr : Grid wx hob m w4.heap.size val hol
  tl : wx.ownsRow 0 50 5 tv out.length (chs gb out)
  tf : ∀ k, tv.ownBlock = some k → wk.heap.size ≤ k ∧ ¬ HB qb v k
  bel : Below w4.heap.size w4 wx
  sz : wk.heap.size ≤ wx.heap.size
  bl : w4.heap.size ≤ wb ∧ wb < wk.heap.size ∧ w4.heap.size ≤ wk.heap.size
  gl : ∀ k, GridIn hob m val k → k < wk.heap.size ∧ k ≠ wb

section
variable {gb : Nat → Nat} {w4 wk wx : World} {wb hob qb m : Nat} {val : Nat → Value} {hol : Nat → List Nat} {v : Value} {l : List Nat} {ws : Nat → Int} {tv : Value} {out : List Nat}

theorem MS.hlow (h : MS gb w4 wk wx wb hob qb m val hol v l ws tv out) {k : Nat} (hk : HB qb v k) : wk.heap.size ≤ k := by
  rcases hk with e | e
  · rw [e]; exact h.hp.low
  · exact (World.ownsRow.lt h.hp.own k e).1
theorem MS.hlt (h : MS gb w4 wk wx wb hob qb m val hol v l ws tv out) {k : Nat} (hk : HB qb v k) : k < wx.heap.size := by
  rcases hk with e | e
  · rw [e]; exact h.hp.lt
  · exact (World.ownsRow.lt h.hp.own k e).2

/-- The heap turns. -/
theorem MS.heap {wy : World} {l' : List Nat} (h : MS gb w4 wk wx wb hob qb m val hol v l ws tv out) (hs : HPs wk.heap.size qb v l' wx wy) : ∃ v', MS gb w4 wk wy wb hob qb m val hol v' l' ws tv out := by
  obtain ⟨v', h1, h2, h3⟩ := hs
  have hbl := h.bl
  refine ⟨v', h1, rowIs_keep h.ws h2 (fun e => ?_), h.gr.keep h2 (fun k hg e => ?_), ownsRow_keep h.tl h2 (fun k e => (h.tf k e).2), fun k e => ⟨(h.tf k e).1, fun e2 => ?_⟩, h.bel.trans (h2.toBelow h.bel.size (fun k hk e => ?_)), Nat.le_trans h.sz h2.size, h.bl, h.gl⟩
  · have := h.hlow e; omega
  · have := h.hlow e
    have := (h.gl k hg).1
    omega
  · rcases h3 k e2 with e3 | e3
    · exact (h.tf k e).2 e3
    · have := (World.ownsRow.lt h.tl k e).2
      omega
  · have := h.hlow e; omega

/-- 'waits[p] = z'. -/
theorem MS.setW (h : MS gb w4 wk wx wb hob qb m val hol v l ws tv out) (p : Nat) (z : Int) : MS gb w4 wk (wx.setCell ⟨wb, p, none⟩ (.int .i64 z)) wb hob qb m val hol v l (fun x => if x = p then z else ws x) tv out := by
  have hk : KB (fun b => b = wb) wx (wx.setCell ⟨wb, p, none⟩ (.int .i64 z)) := KB.setCell (p := ⟨wb, p, none⟩) (KB.refl (fun b => b = wb) wx) (fun _ => rfl) _
  have hbl := h.bl
  refine ⟨h.hp.keep hk (fun k e e2 => ?_) (fun e => ?_), (h.ws.set p _).congr (fun j _ => ?_), h.gr.keep hk (fun k hg e => (h.gl k hg).2 e), ownsRow_keep h.tl hk (fun k e e2 => ?_), h.tf, h.bel.trans (hk.toBelow h.bel.size (fun k hk e => by omega)), by simpa using h.sz, h.bl, h.gl⟩
  · have := h.hlow (Or.inr e); omega
  · have := h.hp.low; omega
  · by_cases e : j = p <;> simp [e]
  · have := (h.tf k e).1; omega

/-- One more is told. -/
theorem MS.tell {wa w1 : World} {g cap i H1 : Nat} (h : MS gb w4 wk wx wb hob qb m val hol v l ws tv out) (hka : KB (fun _ => False) wx wa)
    (hown : w1.ownsRow 0 50 5 (.slice (some ⟨g, 0, none⟩) (out.length + 1) cap) (out.length + 1) (chs gb out ++ [.int .i64 0, .pointer none, .pointer none, .pointer none, .pointer (some ⟨gb i, 0, none⟩)])) (hg : wa.grownBy w1 tv.ownBlock) (hat : tv.ownBlock = some g ∨ g = H1) (hH : wx.heap.size ≤ H1) :
    MS gb w4 wk w1 wb hob qb m val hol v l ws (.slice (some ⟨g, 0, none⟩) (out.length + 1) cap) (out ++ [i]) := by
  have hk : KB (fun k => tv.ownBlock = some k) wx w1 := (hka.mono (fun _ _ h => h.elim)).grown hg (fun k e _ => e)
  have hbl := h.bl
  refine ⟨h.hp.keep hk (fun k e e2 => (h.tf k e2).2 (Or.inr e)) (fun e => (h.tf _ e).2 (Or.inl rfl)), rowIs_keep h.ws hk (fun e => ?_), h.gr.keep hk (fun k hg e => ?_), ?_, fun k e => ?_, h.bel.trans (hk.toBelow h.bel.size (fun k hk e => ?_)), Nat.le_trans h.sz hk.size, h.bl, h.gl⟩
  · have := (h.tf _ e).1; omega
  · have h1 := (h.tf k e).1
    have h2 := (h.gl k hg).1
    omega
  · rw [List.length_append, chs_snoc]
    exact hown
  · simp [Value.ownBlock] at e
    subst e
    rcases hat with e | e
    · exact h.tf _ e
    · refine ⟨by have := h.sz; omega, fun e2 => ?_⟩
      have := h.hlt e2
      omega
  · have := (h.tf k e).1; omega

/-- What is told, as it is read. -/
theorem MS.told (h : MS gb w4 wk wx wb hob qb m val hol v l ws tv out) (ho : out.length ≤ 4096) : ∃ a c, tv = .slice a out.length c ∧ Told wx a gb out := by
  rcases h.tl.2 with ⟨e, e2⟩ | ⟨g, cap, cur, e, hg, hh, hc, hcm, hcs, hct⟩
  · exact ⟨none, 0, by rw [e, e2], ho, fun h => by omega⟩
  · refine ⟨_, _, e, ho, fun _ => ⟨g, 0, rfl, (Array.getElem?_eq_some_iff.1 hh).1, fun k f hk hf => ?_⟩⟩
    have h1 := chs_at gb out k f hk hf
    rw [← hct, List.getElem?_take_of_lt (by omega)] at h1
    have e1 : cur[k * 5 + f]? = some (chCell gb (out.getD k 0 * 5 + f)) := by simpa using h1
    rw [Nat.zero_add]
    simp [World.cell?, hh, e1]
end

end Go.Proofs.Qxb6605609a
