/-
  THE STACK DOWN TO THE WALK'S NODE IS TAKEN OFF: what lies in memory between two rounds.
-/
import Derived.Test.Qxb6605609aCycF
import Derived.Test.Qxb6605609aKosM
namespace Go.Proofs.Qxb6605609a
open Go.RowKit

theorem nodup_le {l : List Nat} (h : l.Nodup) {n : Nat} (hl : ∀ x ∈ l, x < n) : l.length ≤ n := nodup_len n l h hl

/-- A child of the walk's node is reached by all whose walks are open. -/
theorem Tar.child {adj : Nat → List Nat} {gray : List Nat} {s : TSt} {k c ik : Nat} (ht : Tar adj (k :: gray) s) (hk : s.num k = some ik) (hck : c ∈ adj k) : ∀ g ∈ k :: gray, Reach adj g c := fun g hg => by
  have hgf := ht.gfalls
  rw [List.pairwise_cons] at hgf
  obtain ⟨ig, hig⟩ := ht.vis g (ht.gin g hg)
  refine (ht.up g hg k (ht.gin k (List.mem_cons_self ..)) ig ik hig hk ?_).trans (.one hck)
  rcases List.mem_cons.1 hg with rfl | hg
  · rw [hig] at hk; cases hk; exact Nat.le_refl _
  · exact Nat.le_of_lt (hgf.1 g hg ik ig hk hig)

/-- 'low[k] = min(low[k], low[c])'. -/
theorem TW.lower {T : TC} (H : TH T) {w : World} {s : TSt} {k c ik ic : Nat} (h : TW T w s) (hk : k < T.n) (hc : c < T.n) (hnk : s.num k = some ik) (hnc : s.num c = some ic) :
    (Instr.lookup 53 (.map (some T.lb)) (.string (T.nm k)) false).run Try.prog w = .ok (.int .i64 ((s.low k : Nat) : Int)) w ∧
    (Instr.lookup 53 (.map (some T.lb)) (.string (T.nm c)) false).run Try.prog w = .ok (.int .i64 ((s.low c : Nat) : Int)) w ∧
    w.cell? ⟨T.c2, 0, none⟩ = some (.map (some T.lb)) ∧
    ∃ w', (Instr.mapUpdate 53 (.map (some T.lb)) (.string (T.nm k)) (.int .i64 (min ((s.low k : Nat) : Int) ((s.low c : Nat) : Int)))).run Try.prog w = .ok () w' ∧ Hid (TW T w' (s.lowTo k (s.low c)) ∧ KB T.M w w') := by
  have hcl := h.cnt_le
  have hnl := H.nle
  obtain ⟨sv, cv, es, X, h1, h2, h3⟩ := h
  have a := X.lowAt H hk
  have b := X.lowAt H hc
  simp only [lowG, hnk, hnc, Option.map_some, Option.getD_some] at a b
  refine ⟨a, b, X.k.k2, ?_⟩
  have em : min ((s.low k : Nat) : Int) ((s.low c : Nat) : Int) = ((min (s.low k) (s.low c) : Nat) : Int) := by omega
  rw [em]
  obtain ⟨w', r, X', K'⟩ := X.setLow H hk (by omega) (.int .i64 ((min (s.low k) (s.low c) : Nat) : Int))
  have e : (lowG s k).isSome = true := by simp [lowG, hnk]
  rw [e, lowG_lowTo hnk] at X'
  exact ⟨w', r, ⟨sv, cv, es, X', h1, h2, h3⟩, K'⟩

/-- 'low[k] = min(low[k], visit[c])'. -/
theorem TW.lower' {T : TC} (H : TH T) {w : World} {s : TSt} {k c ik ic : Nat} (h : TW T w s) (hk : k < T.n) (hc : c < T.n) (hnk : s.num k = some ik) (hnc : s.num c = some ic) :
    (Instr.lookup 53 (.map (some T.lb)) (.string (T.nm k)) false).run Try.prog w = .ok (.int .i64 ((s.low k : Nat) : Int)) w ∧
    (Instr.lookup 53 (.map (some T.vb)) (.string (T.nm c)) false).run Try.prog w = .ok (.int .i64 ((ic : Nat) : Int)) w ∧
    ∃ w', (Instr.mapUpdate 53 (.map (some T.lb)) (.string (T.nm k)) (.int .i64 (min ((s.low k : Nat) : Int) ((ic : Nat) : Int)))).run Try.prog w = .ok () w' ∧ Hid (TW T w' (s.lowTo k ic) ∧ KB T.M w w') := by
  have hcl := h.cnt_le
  have hnl := H.nle
  obtain ⟨sv, cv, es, X, h1, h2, h3⟩ := h
  have a := X.lowAt H hk
  have b := X.visAt H hc
  simp only [lowG, numG, hnk, hnc, Option.map_some, Option.getD_some] at a b
  refine ⟨a, b, ?_⟩
  have em : min ((s.low k : Nat) : Int) ((ic : Nat) : Int) = ((min (s.low k) ic : Nat) : Int) := by omega
  rw [em]
  obtain ⟨w', r, X', K'⟩ := X.setLow H hk (by omega) (.int .i64 ((min (s.low k) ic : Nat) : Int))
  have e : (lowG s k).isSome = true := by simp [lowG, hnk]
  rw [e, lowG_lowTo hnk] at X'
  exact ⟨w', r, ⟨sv, cv, es, X', h1, h2, h3⟩, K'⟩

/-- A block that is none of those in use. -/
def Free (T : TC) (sv cv : Value) (es : List Value) (b : Nat) : Prop := Far T b ∧ sv.ownBlock ≠ some b ∧ cv.ownBlock ≠ some b ∧ ∀ (i : Nat) (c : Nat × Nat), es[i]? = some (Value.slice (some ⟨b, 0, none⟩) c.1 c.2) → False

theorem Free.new {T : TC} (H : TH T) {w : World} {s1 s2 s3 : Nat} {g1 g2 g3 : Nat → Option Value} {st : List Nat} {cs : List (List Nat)} {sv cv : Value} {es : List Value} (h : TX T w s1 s2 s3 g1 g2 g3 st cs sv cv es) {b : Nat} (hb : w.heap.size ≤ b) : Free T sv cv es b := by
  refine ⟨Far.new H h hb, fun e => ?_, fun e => ?_, fun i c e => ?_⟩
  · have := h.stk.own.lt e; omega
  · have := h.cyc.own.lt e; omega
  · have hi : i < es.length := (List.getElem?_eq_some_iff.1 e).1
    obtain ⟨b', cap, e', _, h0, hs⟩ := h.els.2 i _ (cs[i]'(by rw [← h.els.1]; exact hi)) e (List.getElem?_eq_getElem _)
    have eb : b = b' := by simp at e'; exact e'.1
    obtain ⟨b2, off, e2, hlt, _⟩ := hs.spot h0
    have e3 : b' = b2 := by
      have := Option.some.inj e2
      exact congrArg Addr.block this
    omega

/-- Between two rounds: done has been taken off, rest is left. -/
def PopSt (T : TC) (w wx : World) (s : TSt) (vc : Value) (done rest : List Nat) : Prop :=
  s.stack = done ++ rest ∧ KB T.M w wx ∧ ∃ sv cv es, TX T wx s.cnt s.cnt s.cnt (numG s) (lowG s) (onG { s with stack := rest }) rest s.cycles sv cv es ∧ Row wx 9 vc (strs T.nm done) ∧ ∀ b, vc.ownBlock = some b → Free T sv cv es b

theorem PopSt.start {T : TC} {w wx : World} {s : TSt} (h : TW T wx s) (hk : KB T.M w wx) : PopSt T w wx s (.slice none 0 0) [] s.stack := by
  obtain ⟨sv, cv, es, X, _⟩ := h
  exact ⟨rfl, hk, sv, cv, es, X, Row.nil _ _, fun b e => by simp [Value.ownBlock] at e⟩

/-- What a round reads and writes ahead of the append to the component. -/
theorem PopSt.top {T : TC} (H : TH T) {w wx : World} {s : TSt} {vc : Value} {done r : List Nat} {x : Nat} (h : PopSt T w wx s vc done (x :: r)) (hnd : s.stack.Nodup) (hvis : ∀ x ∈ s.stack, ∃ i, s.num x = some i) (hlt : ∀ x ∈ s.stack, x < T.n) (hc : s.cnt ≤ 4096) :
    ∃ g cap, wx.cell? ⟨T.c3, 0, none⟩ = some (.slice (some ⟨g, 0, none⟩) (r.length + 1) cap) ∧ wx.frozen? ⟨T.c3, 0, none⟩ = false ∧ r.length + 1 ≤ cap ∧
      wx.cell? ⟨g, r.length, none⟩ = some (.string (T.nm x)) ∧ wx.cell? ⟨T.c4, 0, none⟩ = some (.map (some T.ob)) ∧
      (wx.setCell ⟨T.c3, 0, none⟩ (.slice (some ⟨g, 0, none⟩) r.length cap)).cell? ⟨T.c4, 0, none⟩ = some (.map (some T.ob)) ∧
      ∃ w', (Instr.mapUpdate 31 (.map (some T.ob)) (.string (T.nm x)) (.bool false)).run Try.prog (wx.setCell ⟨T.c3, 0, none⟩ (.slice (some ⟨g, 0, none⟩) r.length cap)).drew = .ok () w' ∧
        Hid (Row w' 9 vc (strs T.nm done) ∧ ∀ (o : Obj) (g1 cap1 H1 : Nat) (x1 : World), x1.ownsRow 0 9 1 (.slice (some ⟨g1, 0, none⟩) ((strs T.nm done).length + 1) cap1) ((strs T.nm done).length + 1) (strs T.nm done ++ [.string (T.nm x)]) → (w'.alloc o).grownBy x1 vc.ownBlock → (vc.ownBlock = some g1 ∨ g1 = H1) → H1 = w'.heap.size + 1 → PopSt T w x1 s (.slice (some ⟨g1, 0, none⟩) ((strs T.nm done).length + 1) cap1) (done ++ [x]) r) := by
  obtain ⟨hst, hkb, sv, cv, es, X, hr, hf⟩ := h
  have hx : x ∈ s.stack := by rw [hst]; simp
  obtain ⟨ix, hix⟩ := hvis x hx
  have hxn := hlt x hx
  have hnx : x ∉ r := by
    rw [hst, List.nodup_append] at hnd
    exact (List.nodup_cons.1 hnd.2.1).1
  have hl : (strs T.nm (x :: r).reverse).length = r.length + 1 := by simp [strs]
  obtain ⟨g, cap, e, hg, hcap, hcell⟩ := X.stk.own.form (by omega)
  rw [hl] at e hcap
  have htop : (strs T.nm (x :: r).reverse)[r.length]? = some (.string (T.nm x)) := by simp [strs]
  have hcut := RC.cut (g := g) (cap := cap) (m := r.length) (by rw [hl, ← e]; exact X.stk) (by omega)
  have htake : (strs T.nm (x :: r).reverse).take r.length = strs T.nm r.reverse := by simp [strs]
  rw [htake] at hcut
  have hown : sv.ownBlock = some g := by rw [e]; rfl
  obtain ⟨X1, K1⟩ := X.setStk H (st' := r) hcut.1 (hcut.2.mono fun k _ e => Or.inl e) (fun k e => Or.inl (by rw [hown]; exact e))
  obtain ⟨w', run, X2, K2⟩ := (X1.drew H).setOn H hxn hc (.bool false)
  have eo : (onG { s with stack := x :: r } x).isSome = true := by simp [onG, hix]
  have eu := onG_pop (s := { s with stack := x :: r }) (x := x) (j := ix) (r := r) hix rfl hnx
  rw [eo, eu] at X2
  have K2' : KB T.M (wx.setCell ⟨T.c3, 0, none⟩ (.slice (some ⟨g, 0, none⟩) r.length cap)) w' := ⟨K2.os, K2.tape, K2.output, K2.size, K2.block⟩
  have hfro := X.stk.froz
  have hcel := X.stk.cell
  rw [e] at hcel
  -- the component's row behind the two stores
  have hr2 : Row w' 9 vc (strs T.nm done) := by
    have h1 : Row (wx.setCell ⟨T.c3, 0, none⟩ (.slice (some ⟨g, 0, none⟩) r.length cap)) 9 vc (strs T.nm done) := hr.keep hcut.2 (fun b eb => (hf b eb).1.2.1)
    obtain ⟨w'', run', _, hk''⟩ := (X1.drew H).ons.updN H Try.underlying31 hxn hc (.bool false)
    rw [run] at run'
    cases run'
    exact h1.drew.keep hk'' (fun b eb => (hf b eb).1.2.2.2.2.2)
  refine ⟨g, cap, hcel, hfro, hcap, (hcell _ _ htop).1, X.k.k4, X1.k.k4, w', run, hr2, fun o g1 cap1 H1 x1 hown1 hgrow hat hH => ?_⟩
  have hkx : KB (fun k => vc.ownBlock = some k) w' x1 := (((KB.refl (fun _ => False) w').alloc o).mono (fun _ _ h => h.elim)).grown hgrow (fun k e _ => e)
  have hf2 : ∀ b, vc.ownBlock = some b → Free T (.slice (some ⟨g, 0, none⟩) r.length cap) cv es b := fun b eb => ⟨(hf b eb).1, fun e2 => (hf b eb).2.1 (by rw [hown]; exact e2), (hf b eb).2.2⟩
  have X3 := X2.calm H hkx (fun b eb => hf2 b eb)
  refine ⟨by rw [hst]; simp, ((hkb.trans K1 (fun _ _ h => h)).trans K2' (fun _ _ h => h)).trans hkx (fun k _ e => (hf k e).1.1), _, cv, es, X3, ?_, fun b eb => ?_⟩
  · rw [strs_snoc]
    exact Row.pushed hown1
  · simp [Value.ownBlock] at eb
    subst eb
    rcases hat with ea | ea
    · exact hf2 _ ea
    · exact Free.new H X2 (by omega)

/-- All has been taken off, and it is no cycle. -/
theorem PopSt.close {T : TC} {w wx : World} {s : TSt} {vc : Value} {done r : List Nat} {k : Nat} (h : PopSt T w wx s vc (done ++ [k]) r) (hnk : s.num k = some (s.low k)) (hkd : k ∉ done) (hno : ¬ (1 < (done ++ [k]).length ∨ k ∈ T.adj k)) (hW : ∃ w0, TW T w0 s) : TW T wx (s.close T.adj k) := by
  obtain ⟨hst, _, sv, cv, es, X, _, _⟩ := h
  obtain ⟨_, _, _, _, _, h1, h2, h3, h4⟩ := hW
  have hst' : s.stack = done ++ k :: r := by rw [hst]; simp
  obtain ⟨u1, u2⟩ := upTo_at (k := k) (a := done) (r := r) hkd
  have ec : s.close T.adj k = { s with stack := r } := by
    unfold TSt.close
    rw [if_pos hnk, hst', u1, u2, if_neg hno, List.append_nil]
  rw [ec]
  exact ⟨sv, cv, es, X, fun x hx => h1 x (by rw [hst']; simp [hx]), h2, h3, by rw [hst'] at h4; simp at h4 ⊢; omega⟩

/-- All has been taken off; behind the sort and the append. -/
theorem PopSt.told {T : TC} (H : TH T) {w wx wy : World} {s : TSt} {done r : List Nat} {k b cap N : Nat} (h : PopSt T w wx s (.slice (some ⟨b, 0, none⟩) N cap) (done ++ [k]) r) (hN : N = (done ++ [k]).length) (hnk : s.num k = some (s.low k)) (hkd : k ∉ done) (hyes : 1 < (done ++ [k]).length ∨ k ∈ T.adj k) (hW : ∃ w0, TW T w0 s) (hnd : s.stack.Nodup)
    (hr : Row wy 9 (.slice (some ⟨b, 0, none⟩) N cap) (strs T.nm (srt (done ++ [k])))) (hky : KB (fun j => (Value.slice (some ⟨b, 0, none⟩) N cap).ownBlock = some j) wx wy) :
    ∃ cv es, wy.cell? ⟨T.c7, 0, none⟩ = some cv ∧ Row wy 22 cv es ∧ Hid (es.length ≤ 4096) ∧ Hid (∀ (o : Obj) (g1 cap1 H1 : Nat) (x1 : World), x1.ownsRow 0 22 1 (.slice (some ⟨g1, 0, none⟩) (es.length + 1) cap1) (es.length + 1) (es ++ [.slice (some ⟨b, 0, none⟩) N cap]) → (wy.alloc o).grownBy x1 cv.ownBlock → (cv.ownBlock = some g1 ∨ g1 = H1) → H1 = wy.heap.size + 1 →
      x1.cell? ⟨T.c7, 0, none⟩ = some cv ∧ x1.frozen? ⟨T.c7, 0, none⟩ = false ∧ Hid (TW T (x1.setCell ⟨T.c7, 0, none⟩ (.slice (some ⟨g1, 0, none⟩) (es.length + 1) cap1)) (s.close T.adj k) ∧ KB T.M w (x1.setCell ⟨T.c7, 0, none⟩ (.slice (some ⟨g1, 0, none⟩) (es.length + 1) cap1)))) := by
  subst hN
  obtain ⟨hst, hkb, sv, cv, es, X, _, hf⟩ := h
  have hcl := TW.cnt_le hW.choose_spec
  obtain ⟨_, _, _, _, _, h1, h2, h3, h4⟩ := hW
  have hst' : s.stack = done ++ k :: r := by rw [hst]; simp
  obtain ⟨u1, u2⟩ := upTo_at (k := k) (a := done) (r := r) hkd
  have ec : s.close T.adj k = { s with stack := r, cycles := s.cycles ++ [done ++ [k]] } := by
    unfold TSt.close
    rw [if_pos hnk, hst', u1, u2, if_pos hyes]
  have hb : Free T sv cv es b := hf b rfl
  have Xy := X.calm H hky (fun j ej => by simp [Value.ownBlock] at ej; subst ej; exact hb)
  have hky' : KB T.M w wy := hkb.trans hky (fun j _ ej => by simp [Value.ownBlock] at ej; subst ej; exact hb.1.1)
  have hlen : (strs T.nm (srt (done ++ [k]))).length = (done ++ [k]).length := by rw [strs_length, srt_length]
  have hnl := H.nle
  refine ⟨cv, es, Xy.cyc.cell, Xy.cyc.own, by show es.length ≤ 4096; rw [X.els.1]; omega, fun o g1 cap1 H1 x1 hown hg hat hH => ?_⟩
  obtain ⟨q1, q2, q3, q4, q5, q6⟩ := Xy.cyc.pushed ((KB.refl (fun _ => False) wy).alloc o) hown hg hat (by omega)
  have hs : SlAt wy (some ⟨b, 0, none⟩) (done ++ [k]).length (fun j => .string (T.nm ((srt (done ++ [k])).getD j 0))) := by
    have hsmall : (done ++ [k]).length < 4611686018427387904 := by
      have h0 : (done ++ [k]).length ≤ s.stack.length := by rw [hst']; simp
      have h6 := nodup_le hnd h1
      omega
    obtain ⟨a, c, e, hs⟩ := hr.slAt (by rw [hlen]; exact hsmall) (fun j => .string (T.nm ((srt (done ++ [k])).getD j 0))) (fun i hi => by
      rw [strs_length] at hi
      simp [strs, List.getElem?_eq_getElem hi])
    rw [hlen] at e hs
    have ea : some ⟨b, 0, none⟩ = a := by injection e
    rw [ea]
    exact hs
  obtain ⟨X7, K7⟩ := Xy.setCyc H (c := done ++ [k]) (b := b) (cap := cap) q4 q5 (fun j ej => by simp [Value.ownBlock] at ej; subst ej; exact q6) ⟨hb.1, hb.2.1, hb.2.2.1⟩ (by simp) hs
  refine ⟨q1, q2, ?_, hky'.trans K7 (fun _ _ h => h)⟩
  rw [ec]
  exact ⟨_, _, _, X7, fun x hx => h1 x (by rw [hst']; simp [hx]), h2, (fun c hc x hx => by
    rcases List.mem_append.1 hc with hc | hc
    · exact h3 c hc x hx
    · simp at hc
      subst hc
      exact h1 x (by rw [hst']; simp at hx ⊢; rcases hx with hx | hx <;> simp [hx])), by rw [hst'] at h4; simp at h4 ⊢; omega⟩

end Go.Proofs.Qxb6605609a
