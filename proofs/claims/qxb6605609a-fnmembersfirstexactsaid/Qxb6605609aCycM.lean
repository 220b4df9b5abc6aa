/-
  WHAT LIES IN MEMORY DURING cyclesOf's WALK: three maps, the stack, the cycles found, and what stays as it is.
-/
import Derived.Test.Qxb6605609aRc
import Derived.Test.Qxb6605609aTar2
namespace Go.Proofs.Qxb6605609a
open Go.RowKit

/-- A map by the places of its names. -/
def nmF (nm : Nat → ByteArray) (n : Nat) (g : Nat → Option Value) : ByteArray → Option Value := fun x => (idxOf nm n x).bind g
theorem nmF_at {nm : Nat → ByteArray} {n : Nat} {g : Nat → Option Value} {k : Nat} (hinj : ∀ i j, i < n → j < n → nm i = nm j → i = j) (hk : k < n) : nmF nm n g (nm k) = g k := by
  unfold nmF
  rw [idxOf_at hinj hk]
  rfl
theorem nmF_upd {nm : Nat → ByteArray} {n : Nat} {g : Nat → Option Value} {k : Nat} {v : Value} (hinj : ∀ i j, i < n → j < n → nm i = nm j → i = j) (hk : k < n) (x : ByteArray) : updS (nmF nm n g) (nm k) v x = nmF nm n (upd g k (some v)) x := by
  unfold updS
  by_cases e : x = nm k
  · subst e
    rw [if_pos rfl, nmF_at hinj hk, upd_same]
  · rw [if_neg e]
    unfold nmF
    cases hx : idxOf nm n x with
    | none => rfl
    | some i =>
      obtain ⟨h1, h2⟩ := idxOf_some hx
      have : i ≠ k := fun e2 => e (by rw [← h2, e2])
      exact (upd_other _ _ this).symm

/-- What the walk's surroundings are: the captured cells, the maps' blocks, the graph, the world ahead, what may turn. -/
structure TC where
  c1 : Nat
  c2 : Nat
  c3 : Nat
  c4 : Nat
  c5 : Nat
  c6 : Nat
  c7 : Nat
  vb : Nat
  lb : Nat
  ob : Nat
  cb : Nat
  n : Nat
  nm : Nat → ByteArray
  adj : Nat → List Nat
  la : Nat → Option Addr
  lc : Nat → Nat
  w0 : World
  M : Nat → Prop
  base : Nat

def TC.ptr (b : Nat) : Value := .pointer (some ⟨b, 0, none⟩)
/-- The captured cells, in their order. -/
def TC.bound (T : TC) : Array Value := #[.pointer (some ⟨T.c1, 0, none⟩), .pointer (some ⟨T.c2, 0, none⟩), .pointer (some ⟨T.c3, 0, none⟩), .pointer (some ⟨T.c4, 0, none⟩), .pointer (some ⟨T.c5, 0, none⟩), .pointer (some ⟨T.c6, 0, none⟩), .pointer (some ⟨T.c7, 0, none⟩)]

/-- The children's map. -/
def kidG (adj : Nat → List Nat) (la : Nat → Option Addr) (lc : Nat → Nat) (i : Nat) : Option Value := if adj i = [] then none else some (.slice (la i) (adj i).length (lc i))

/-- What is asked of the surroundings. -/
structure TH (T : TC) : Prop where
  nle : T.n ≤ 4096
  sz : ∀ i, (T.nm i).size ≤ maxLen
  inj : ∀ i j, i < T.n → j < T.n → T.nm i = T.nm j → i = j
  mono : ∀ i j, i < T.n → j < T.n → i ≤ j → (T.nm i).data.toList ≤ (T.nm j).data.toList
  mono' : ∀ i j, i < T.n → j < T.n → (T.nm i).data.toList ≤ (T.nm j).data.toList → i ≤ j
  adjlt : ∀ i, ∀ j ∈ T.adj i, j < T.n
  adjlen : ∀ i, (T.adj i).length ≤ 131072
  kids : ∃ sz, SMap T.w0 T.cb sz (nmF T.nm T.n (kidG T.adj T.la T.lc))
  lists : ∀ i, i < T.n → SlAt T.w0 (T.la i) (T.adj i).length (fun j => .string (T.nm ((T.adj i).getD j 0)))
  nil : ∀ i, T.adj i = [] → T.la i = none ∧ T.lc i = 0
  low : ∀ k, T.M k → T.w0.heap.size ≤ k
  new : ∀ k, T.base ≤ k → T.M k
  m1 : ¬ T.M T.c1
  m2 : ¬ T.M T.c2
  m4 : ¬ T.M T.c4
  m5 : ¬ T.M T.c5
  m6 : ¬ T.M T.c6
  y3 : T.M T.c3
  y7 : T.M T.c7
  yv : T.M T.vb
  yl : T.M T.lb
  yo : T.M T.ob
  dist : [T.c3, T.c7, T.vb, T.lb, T.ob].Nodup

/-- A block that may turn and is none of the five. -/
def Far (T : TC) (k : Nat) : Prop := T.M k ∧ k ≠ T.c3 ∧ k ≠ T.c7 ∧ k ≠ T.vb ∧ k ≠ T.lb ∧ k ≠ T.ob

/-- Strings as values. -/
def strs (nm : Nat → ByteArray) (l : List Nat) : List Value := l.map fun x : Nat => Value.string (nm x)

/-- A list of places in order. -/
def srt (c : List Nat) : List Nat := c.mergeSort fun x y => decide (x ≤ y)
/-- The cycles told so far: each a slice of the names in order. -/
def Els (w : World) (Q : Nat → Prop) (nm : Nat → ByteArray) (es : List Value) (cs : List (List Nat)) : Prop :=
  es.length = cs.length ∧ ∀ (i : Nat) (v : Value) (c : List Nat), es[i]? = some v → cs[i]? = some c → ∃ b cap, v = Value.slice (some ⟨b, 0, none⟩) c.length cap ∧ Q b ∧ 0 < c.length ∧ SlAt w (some ⟨b, 0, none⟩) c.length (fun j => .string (nm ((srt c).getD j 0)))

theorem SlAt.keep {S : Nat → Prop} {w w' : World} {a : Option Addr} {n : Nat} {f : Nat → Value} (h : SlAt w a n f) (hk : KB S w w') (hm : ∀ b off, a = some ⟨b, off, none⟩ → ¬ S b) : SlAt w' a n f := by
  refine ⟨h.small, fun hn => ?_⟩
  obtain ⟨b, off, e, hlt, hc⟩ := h.spot hn
  exact ⟨b, off, e, Nat.lt_of_lt_of_le hlt hk.size, fun j hj => (hk.cell (p := ⟨b, off + j, none⟩) hlt (hm b off e)).trans (hc j hj)⟩

theorem Els.keep {S : Nat → Prop} {w w' : World} {Q Q' : Nat → Prop} {nm : Nat → ByteArray} {es : List Value} {cs : List (List Nat)} (h : Els w Q nm es cs) (hk : KB S w w') (hm : ∀ k, k < w.heap.size → Q k → ¬ S k ∧ Q' k) : Els w' Q' nm es cs := by
  refine ⟨h.1, fun i v c hv hc => ?_⟩
  obtain ⟨b, cap, e, hQ, h0, hs⟩ := h.2 i v c hv hc
  obtain ⟨b', off, e2, hlt, _⟩ := hs.spot h0
  simp at e2
  obtain ⟨rfl, _⟩ := e2
  exact ⟨b, cap, e, (hm b hlt hQ).2, h0, hs.keep hk (fun b' off' e' => by simp at e'; rw [← e'.1]; exact (hm b hlt hQ).1)⟩

theorem Els.push {w : World} {Q : Nat → Prop} {nm : Nat → ByteArray} {es : List Value} {cs : List (List Nat)} (h : Els w Q nm es cs) {b cap : Nat} {c : List Nat} (hQ : Q b) (h0 : 0 < c.length) (hs : SlAt w (some ⟨b, 0, none⟩) c.length (fun j => .string (nm ((srt c).getD j 0)))) :
    Els w Q nm (es ++ [.slice (some ⟨b, 0, none⟩) c.length cap]) (cs ++ [c]) := by
  refine ⟨by simp [h.1], fun i v c' hv hc => ?_⟩
  have he := h.1
  by_cases hi : i < es.length
  · rw [List.getElem?_append_left hi] at hv
    rw [List.getElem?_append_left (by omega)] at hc
    exact h.2 i v c' hv hc
  · rw [List.getElem?_append_right (by omega)] at hv hc
    rw [← he] at hc
    obtain ⟨hj, _⟩ := List.getElem?_eq_some_iff.1 hv
    have e0 : i - es.length = 0 := by simp at hj; omega
    rw [e0] at hv hc
    simp at hv hc
    subst hv
    subst hc
    exact ⟨b, cap, rfl, hQ, h0, hs⟩

/-- The cells that stay. -/
structure TK (T : TC) (w : World) : Prop where
  k1 : w.cell? ⟨T.c1, 0, none⟩ = some (.map (some T.vb))
  k2 : w.cell? ⟨T.c2, 0, none⟩ = some (.map (some T.lb))
  k4 : w.cell? ⟨T.c4, 0, none⟩ = some (.map (some T.ob))
  k5 : w.cell? ⟨T.c5, 0, none⟩ = some (.map (some T.cb))
  k6 : w.cell? ⟨T.c6, 0, none⟩ = some (.func (.func 31) #[] T.bound)
  bel : Below T.w0.heap.size T.w0 w
  big : T.base ≤ w.heap.size

theorem TK.keep {T : TC} (H : TH T) {w w' : World} (h : TK T w) (hk : KB T.M w w') : TK T w' :=
  ⟨(hk.cell (World.block_lt_of_cell? w _ h.k1) H.m1).trans h.k1, (hk.cell (World.block_lt_of_cell? w _ h.k2) H.m2).trans h.k2, (hk.cell (World.block_lt_of_cell? w _ h.k4) H.m4).trans h.k4, (hk.cell (World.block_lt_of_cell? w _ h.k5) H.m5).trans h.k5, (hk.cell (World.block_lt_of_cell? w _ h.k6) H.m6).trans h.k6,
    h.bel.trans (hk.toBelow h.bel.size (fun k hlt hm => by have := H.low k hm; omega)), Nat.le_trans h.big hk.size⟩

/-- All of it. -/
structure TX (T : TC) (w : World) (s1 s2 s3 : Nat) (g1 g2 g3 : Nat → Option Value) (st : List Nat) (cs : List (List Nat)) (sv cv : Value) (es : List Value) : Prop where
  k : TK T w
  vis : SMap w T.vb s1 (nmF T.nm T.n g1)
  low : SMap w T.lb s2 (nmF T.nm T.n g2)
  ons : SMap w T.ob s3 (nmF T.nm T.n g3)
  stk : RC w T.c3 9 sv (strs T.nm st.reverse)
  cyc : RC w T.c7 22 cv es
  els : Els w (fun k => Far T k ∧ sv.ownBlock ≠ some k ∧ cv.ownBlock ≠ some k) T.nm es cs
  sf : ∀ k, sv.ownBlock = some k → Far T k
  cf : ∀ k, cv.ownBlock = some k → Far T k ∧ sv.ownBlock ≠ some k

theorem TH.ne {T : TC} (H : TH T) : T.c3 ≠ T.c7 ∧ T.c3 ≠ T.vb ∧ T.c3 ≠ T.lb ∧ T.c3 ≠ T.ob ∧ T.c7 ≠ T.vb ∧ T.c7 ≠ T.lb ∧ T.c7 ≠ T.ob ∧ T.vb ≠ T.lb ∧ T.vb ≠ T.ob ∧ T.lb ≠ T.ob := by
  have := H.dist
  simp at this
  omega

theorem Far.new {T : TC} (H : TH T) {w : World} {s1 s2 s3 : Nat} {g1 g2 g3 : Nat → Option Value} {st : List Nat} {cs : List (List Nat)} {sv cv : Value} {es : List Value} (h : TX T w s1 s2 s3 g1 g2 g3 st cs sv cv es) {k : Nat} (hk : w.heap.size ≤ k) : Far T k := by
  have a := h.stk.lt
  have b := h.cyc.lt
  have c := h.vis.lt
  have d := h.low.lt
  have e := h.ons.lt
  exact ⟨H.new k (Nat.le_trans h.k.big hk), by omega, by omega, by omega, by omega, by omega⟩

/-- A step that turns new blocks alone. -/
theorem TX.calm {T : TC} (H : TH T) {w w' : World} {s1 s2 s3 : Nat} {g1 g2 g3 : Nat → Option Value} {st : List Nat} {cs : List (List Nat)} {sv cv : Value} {es : List Value} (h : TX T w s1 s2 s3 g1 g2 g3 st cs sv cv es) {S : Nat → Prop} (hk : KB S w w') (hS : ∀ k, S k → Far T k ∧ sv.ownBlock ≠ some k ∧ cv.ownBlock ≠ some k ∧ ∀ (i : Nat) (c : Nat × Nat), es[i]? = some (Value.slice (some ⟨k, 0, none⟩) c.1 c.2) → False) : TX T w' s1 s2 s3 g1 g2 g3 st cs sv cv es := by
  have hn := H.ne
  refine ⟨h.k.keep H (hk.mono fun k _ hs => (hS k hs).1.1), h.vis.keep hk fun hs => ?_, h.low.keep hk fun hs => ?_, h.ons.keep hk fun hs => ?_, h.stk.keep hk (fun k e hs => ?_) (fun hs => ?_), h.cyc.keep hk (fun k e hs => ?_) (fun hs => ?_), ?_, h.sf, h.cf⟩
  · exact (hS _ hs).1.2.2.2.1 rfl
  · exact (hS _ hs).1.2.2.2.2.1 rfl
  · exact (hS _ hs).1.2.2.2.2.2 rfl
  · exact (hS k hs).2.1 e
  · exact (hS _ hs).1.2.1 rfl
  · exact (hS k hs).2.2.1 e
  · exact (hS _ hs).1.2.2.1 rfl
  · refine ⟨h.els.1, fun i v c hv hc => ?_⟩
    obtain ⟨b, cap, e, hQ, h0, hs⟩ := h.els.2 i v c hv hc
    refine ⟨b, cap, e, hQ, h0, hs.keep hk (fun b' off' e' hS' => ?_)⟩
    simp at e'
    rw [← e'.1] at hS'
    exact (hS b hS').2.2.2 i (c.length, cap) (by rw [hv, e])

theorem TX.drew {T : TC} (H : TH T) {w : World} {s1 s2 s3 : Nat} {g1 g2 g3 : Nat → Option Value} {st : List Nat} {cs : List (List Nat)} {sv cv : Value} {es : List Value} (h : TX T w s1 s2 s3 g1 g2 g3 st cs sv cv es) : TX T w.drew s1 s2 s3 g1 g2 g3 st cs sv cv es :=
  h.calm H (S := fun _ => False) ⟨rfl, rfl, rfl, Nat.le_refl _, fun _ _ _ => rfl⟩ (fun _ h => h.elim)

theorem SMap.updN {T : TC} (H : TH T) {w : World} {b sz : Nat} {g : Nat → Option Value} (h : SMap w b sz (nmF T.nm T.n g)) {t e : TypeId} (ht : Try.prog.underlying t = some (.map 9 e)) {k : Nat} (hk : k < T.n) (hsz : sz ≤ 4096) (v : Value) :
    ∃ w', (Instr.mapUpdate t (.map (some b)) (.string (T.nm k)) v).run Try.prog w = .ok () w' ∧ SMap w' b (if (g k).isSome then sz else sz + 1) (nmF T.nm T.n (upd g k (some v))) ∧ KB (fun x => x = b) w w' := by
  obtain ⟨w', h1, h2, h3⟩ := h.update ht (H.sz k) (by unfold maxLen; omega) v
  rw [nmF_at H.inj hk] at h2
  exact ⟨w', h1, h2.congr (fun s _ => nmF_upd H.inj hk s), KB.ofGrown h3⟩

/-- 'visit[k] = v'. -/
theorem TX.setVis {T : TC} (H : TH T) {w : World} {s1 s2 s3 : Nat} {g1 g2 g3 : Nat → Option Value} {st : List Nat} {cs : List (List Nat)} {sv cv : Value} {es : List Value} (h : TX T w s1 s2 s3 g1 g2 g3 st cs sv cv es) {k : Nat} (hk : k < T.n) (hsz : s1 ≤ 4096) (v : Value) :
    ∃ w', (Instr.mapUpdate 53 (.map (some T.vb)) (.string (T.nm k)) v).run Try.prog w = .ok () w' ∧ TX T w' (if (g1 k).isSome then s1 else s1 + 1) s2 s3 (upd g1 k (some v)) g2 g3 st cs sv cv es ∧ KB T.M w w' := by
  obtain ⟨w', h1, h2, hk⟩ := h.vis.updN H Try.underlying53 hk hsz v
  have hn := H.ne
  have hkm : KB T.M w w' := hk.mono fun k _ e => by rw [e]; exact H.yv
  refine ⟨w', h1, ⟨h.k.keep H hkm, h2, h.low.keep hk (fun e => hn.2.2.2.2.2.2.2.1 e.symm), h.ons.keep hk (fun e => hn.2.2.2.2.2.2.2.2.1 e.symm), h.stk.keep hk (fun k e => (h.sf k e).2.2.2.1) hn.2.1, h.cyc.keep hk (fun k e => (h.cf k e).1.2.2.2.1) hn.2.2.2.2.1, h.els.keep hk (fun k _ hQ => ⟨hQ.1.2.2.2.1, hQ⟩), h.sf, h.cf⟩, hkm⟩

/-- 'low[k] = v'. -/
theorem TX.setLow {T : TC} (H : TH T) {w : World} {s1 s2 s3 : Nat} {g1 g2 g3 : Nat → Option Value} {st : List Nat} {cs : List (List Nat)} {sv cv : Value} {es : List Value} (h : TX T w s1 s2 s3 g1 g2 g3 st cs sv cv es) {k : Nat} (hk : k < T.n) (hsz : s2 ≤ 4096) (v : Value) :
    ∃ w', (Instr.mapUpdate 53 (.map (some T.lb)) (.string (T.nm k)) v).run Try.prog w = .ok () w' ∧ TX T w' s1 (if (g2 k).isSome then s2 else s2 + 1) s3 g1 (upd g2 k (some v)) g3 st cs sv cv es ∧ KB T.M w w' := by
  obtain ⟨w', h1, h2, hk⟩ := h.low.updN H Try.underlying53 hk hsz v
  have hn := H.ne
  have hkm : KB T.M w w' := hk.mono fun k _ e => by rw [e]; exact H.yl
  refine ⟨w', h1, ⟨h.k.keep H hkm, h.vis.keep hk hn.2.2.2.2.2.2.2.1, h2, h.ons.keep hk (fun e => hn.2.2.2.2.2.2.2.2.2 e.symm), h.stk.keep hk (fun k e => (h.sf k e).2.2.2.2.1) hn.2.2.1, h.cyc.keep hk (fun k e => (h.cf k e).1.2.2.2.2.1) hn.2.2.2.2.2.1, h.els.keep hk (fun k _ hQ => ⟨hQ.1.2.2.2.2.1, hQ⟩), h.sf, h.cf⟩, hkm⟩

/-- 'onStack[k] = v'. -/
theorem TX.setOn {T : TC} (H : TH T) {w : World} {s1 s2 s3 : Nat} {g1 g2 g3 : Nat → Option Value} {st : List Nat} {cs : List (List Nat)} {sv cv : Value} {es : List Value} (h : TX T w s1 s2 s3 g1 g2 g3 st cs sv cv es) {k : Nat} (hk : k < T.n) (hsz : s3 ≤ 4096) (v : Value) :
    ∃ w', (Instr.mapUpdate 31 (.map (some T.ob)) (.string (T.nm k)) v).run Try.prog w = .ok () w' ∧ TX T w' s1 s2 (if (g3 k).isSome then s3 else s3 + 1) g1 g2 (upd g3 k (some v)) st cs sv cv es ∧ KB T.M w w' := by
  obtain ⟨w', h1, h2, hk⟩ := h.ons.updN H Try.underlying31 hk hsz v
  have hn := H.ne
  have hkm : KB T.M w w' := hk.mono fun k _ e => by rw [e]; exact H.yo
  refine ⟨w', h1, ⟨h.k.keep H hkm, h.vis.keep hk hn.2.2.2.2.2.2.2.2.1, h.low.keep hk hn.2.2.2.2.2.2.2.2.2, h2, h.stk.keep hk (fun k e => (h.sf k e).2.2.2.2.2) hn.2.2.2.1, h.cyc.keep hk (fun k e => (h.cf k e).1.2.2.2.2.2) hn.2.2.2.2.2.2.1, h.els.keep hk (fun k _ hQ => ⟨hQ.1.2.2.2.2.2, hQ⟩), h.sf, h.cf⟩, hkm⟩

/-- The stack turns: a new list of names behind its cell. -/
theorem TX.setStk {T : TC} (H : TH T) {w w' : World} {s1 s2 s3 : Nat} {g1 g2 g3 : Nat → Option Value} {st st' : List Nat} {cs : List (List Nat)} {sv sv' cv : Value} {es : List Value} (h : TX T w s1 s2 s3 g1 g2 g3 st cs sv cv es) (hr : RC w' T.c3 9 sv' (strs T.nm st'.reverse)) (hk : KB (HB T.c3 sv) w w') (hb : ∀ k, sv'.ownBlock = some k → sv.ownBlock = some k ∨ w.heap.size ≤ k) :
    TX T w' s1 s2 s3 g1 g2 g3 st' cs sv' cv es ∧ KB T.M w w' := by
  have hn := H.ne
  have hkm : KB T.M w w' := hk.mono fun k _ e => by
    rcases e with e | e
    · rw [e]; exact H.y3
    · exact (h.sf k e).1
  have key : ∀ k, HB T.c3 sv k → k ≠ T.c7 ∧ k ≠ T.vb ∧ k ≠ T.lb ∧ k ≠ T.ob := fun k e => by
    rcases e with e | e
    · omega
    · have := h.sf k e
      exact ⟨this.2.2.1, this.2.2.2.1, this.2.2.2.2.1, this.2.2.2.2.2⟩
  refine ⟨⟨h.k.keep H hkm, h.vis.keep hk fun e => (key _ e).2.1 rfl, h.low.keep hk fun e => (key _ e).2.2.1 rfl, h.ons.keep hk fun e => (key _ e).2.2.2 rfl, hr, h.cyc.keep hk (fun k e e2 => ?_) (fun e => (key _ e).1 rfl), h.els.keep hk (fun k hlt hQ => ⟨fun e2 => ?_, hQ.1, fun e2 => ?_, hQ.2.2⟩), fun k e => ?_, fun k e => ⟨(h.cf k e).1, fun e2 => ?_⟩⟩, hkm⟩
  · rcases e2 with e2 | e2
    · exact (h.cf k e).1.2.1 e2
    · exact (h.cf k e).2 e2
  · rcases e2 with e2 | e2
    · exact hQ.1.2.1 e2
    · exact hQ.2.1 e2
  · rcases hb k e2 with e3 | e3
    · exact hQ.2.1 e3
    · omega
  · rcases hb k e with e3 | e3
    · exact h.sf k e3
    · exact Far.new H h e3
  · rcases hb k e2 with e3 | e3
    · exact (h.cf k e).2 e3
    · have := h.cyc.own.lt e
      omega

/-- The cycles turn: one more. -/
theorem TX.setCyc {T : TC} (H : TH T) {w w' : World} {s1 s2 s3 : Nat} {g1 g2 g3 : Nat → Option Value} {st : List Nat} {cs : List (List Nat)} {sv cv cv' : Value} {es : List Value} {c : List Nat} {b cap : Nat} (h : TX T w s1 s2 s3 g1 g2 g3 st cs sv cv es)
    (hr : RC w' T.c7 22 cv' (es ++ [.slice (some ⟨b, 0, none⟩) c.length cap])) (hk : KB (HB T.c7 cv) w w') (hb : ∀ k, cv'.ownBlock = some k → cv.ownBlock = some k ∨ w.heap.size ≤ k)
    (hQ : Far T b ∧ sv.ownBlock ≠ some b ∧ cv.ownBlock ≠ some b) (h0 : 0 < c.length) (hs : SlAt w (some ⟨b, 0, none⟩) c.length (fun j => .string (T.nm ((srt c).getD j 0)))) :
    TX T w' s1 s2 s3 g1 g2 g3 st (cs ++ [c]) sv cv' (es ++ [.slice (some ⟨b, 0, none⟩) c.length cap]) ∧ KB T.M w w' := by
  have hn := H.ne
  have hkm : KB T.M w w' := hk.mono fun k _ e => by
    rcases e with e | e
    · rw [e]; exact H.y7
    · exact (h.cf k e).1.1
  have key : ∀ k, HB T.c7 cv k → k ≠ T.c3 ∧ k ≠ T.vb ∧ k ≠ T.lb ∧ k ≠ T.ob := fun k e => by
    rcases e with e | e
    · omega
    · have := (h.cf k e).1
      exact ⟨this.2.1, this.2.2.2.1, this.2.2.2.2.1, this.2.2.2.2.2⟩
  have h1 := h.els.push (cap := cap) hQ h0 hs
  refine ⟨⟨h.k.keep H hkm, h.vis.keep hk fun e => (key _ e).2.1 rfl, h.low.keep hk fun e => (key _ e).2.2.1 rfl, h.ons.keep hk fun e => (key _ e).2.2.2 rfl, h.stk.keep hk (fun k e e2 => ?_) (fun e => (key _ e).1 rfl), hr, h1.keep hk (fun k hlt hQ => ⟨fun e2 => ?_, hQ.1, hQ.2.1, fun e2 => ?_⟩), h.sf, fun k e => ?_⟩, hkm⟩
  · rcases e2 with e2 | e2
    · exact (h.sf k e).2.2.1 e2
    · exact (h.cf k e2).2 e
  · rcases e2 with e2 | e2
    · exact hQ.1.2.2.1 e2
    · exact hQ.2.2 e2
  · rcases hb k e2 with e3 | e3
    · exact hQ.2.2 e3
    · omega
  · rcases hb k e with e3 | e3
    · exact h.cf k e3
    · refine ⟨Far.new H h e3, fun e4 => ?_⟩
      have := h.stk.own.lt e4
      omega

end Go.Proofs.Qxb6605609a
