/-
  WHAT THE WALK OF cyclesOf's CLOSURE IS TOLD AT EACH OF ITS REGIONS.
-/
import Derived.Test.Qxb6605609aCycS
import Derived.Test.Qxb6605609aSort
import Derived.Test.Qxb6605609aHolds
namespace Go.Proofs.Qxb6605609a
open Go.RowKit

section
variable {T : TC} {w : World} {s1 s2 s3 : Nat} {g1 g2 g3 : Nat → Option Value} {st : List Nat} {cs : List (List Nat)} {sv cv : Value} {es : List Value}

theorem TX.visOk (H : TH T) (h : TX T w s1 s2 s3 g1 g2 g3 st cs sv cv es) {c : Nat} (hc : c < T.n) : (Instr.lookup 53 (.map (some T.vb)) (.string (T.nm c)) true).run Try.prog w = .ok (.tuple #[(g1 c).getD (.int .i64 0), .bool (g1 c).isSome]) w := by
  have := h.vis.lookOk Try.underlying53 (zero3 w) (H.sz c)
  rw [nmF_at H.inj hc] at this
  exact this
theorem TX.visAt (H : TH T) (h : TX T w s1 s2 s3 g1 g2 g3 st cs sv cv es) {c : Nat} (hc : c < T.n) : (Instr.lookup 53 (.map (some T.vb)) (.string (T.nm c)) false).run Try.prog w = .ok ((g1 c).getD (.int .i64 0)) w := by
  have := h.vis.look Try.underlying53 (zero3 w) (H.sz c)
  rw [nmF_at H.inj hc] at this
  exact this
theorem TX.lowAt (H : TH T) (h : TX T w s1 s2 s3 g1 g2 g3 st cs sv cv es) {c : Nat} (hc : c < T.n) : (Instr.lookup 53 (.map (some T.lb)) (.string (T.nm c)) false).run Try.prog w = .ok ((g2 c).getD (.int .i64 0)) w := by
  have := h.low.look Try.underlying53 (zero3 w) (H.sz c)
  rw [nmF_at H.inj hc] at this
  exact this
theorem TX.onAt (H : TH T) (h : TX T w s1 s2 s3 g1 g2 g3 st cs sv cv es) {c : Nat} (hc : c < T.n) : (Instr.lookup 31 (.map (some T.ob)) (.string (T.nm c)) false).run Try.prog w = .ok ((g3 c).getD (.bool false)) w := by
  have := h.ons.look Try.underlying31 (Try.zeroValue4 w) (H.sz c)
  rw [nmF_at H.inj hc] at this
  exact this
theorem TX.kidAt (H : TH T) (h : TX T w s1 s2 s3 g1 g2 g3 st cs sv cv es) {c : Nat} (hc : c < T.n) : (Instr.lookup 29 (.map (some T.cb)) (.string (T.nm c)) false).run Try.prog w = .ok (.slice (T.la c) (T.adj c).length (T.lc c)) w := by
  obtain ⟨sz, hs⟩ := H.kids
  have hk : KB (fun _ => False) T.w0 w := KB.of _ h.k.bel
  have := (hs.keep hk id).look Try.underlying29 (Try.zeroValue22 w) (H.sz c)
  rw [nmF_at H.inj hc] at this
  rw [this]
  unfold kidG
  by_cases e : T.adj c = []
  · obtain ⟨e1, e2⟩ := H.nil c e
    simp [e, e1, e2]
  · simp [e]
theorem TX.list (H : TH T) (h : TX T w s1 s2 s3 g1 g2 g3 st cs sv cv es) {c : Nat} (hc : c < T.n) : SlAt w (T.la c) (T.adj c).length (fun j => .string (T.nm ((T.adj c).getD j 0))) := (H.lists c hc).below h.k.bel
end

theorem strs_length (nm : Nat → ByteArray) (l : List Nat) : (strs nm l).length = l.length := by simp [strs]
theorem strs_snoc (nm : Nat → ByteArray) (l : List Nat) (x : Nat) : strs nm (l ++ [x]) = strs nm l ++ [.string (nm x)] := by simp [strs]

/-- What 'visit[key], low[key] = ..; stack, onStack[key] = ..' leaves. -/
theorem TW.entered {T : TC} {w w' : World} {s : TSt} {k : Nat} {sv cv : Value} {es : List Value} (hk : k < T.n) (hn : s.num k = none) (h : TW T w s)
    (hX : TX T w' (if (numG s k).isSome then s.cnt else s.cnt + 1) (if (lowG s k).isSome then s.cnt else s.cnt + 1) (if (onG s k).isSome then s.cnt else s.cnt + 1) (upd (numG s) k (some (.int .i64 ((s.cnt : Nat) : Int)))) (upd (lowG s) k (some (.int .i64 ((s.cnt : Nat) : Int)))) (upd (onG s) k (some (.bool true))) (k :: s.stack) s.cycles sv cv es) : TW T w' (s.enter k) := by
  rw [numG_enter, lowG_enter, onG_enter] at hX
  have e1 : (numG s k).isSome = false := by simp [numG, hn]
  have e2 : (lowG s k).isSome = false := by simp [lowG, hn]
  have e3 : (onG s k).isSome = false := by simp [onG, hn]
  rw [e1, e2, e3] at hX
  obtain ⟨_, _, _, _, h1, h2, h3, h4⟩ := h
  refine ⟨sv, cv, es, hX, fun x hx => ?_, ?_, h3, by simp [TSt.enter]; omega⟩
  · rcases List.mem_cons.1 hx with rfl | hx
    · exact hk
    · exact h1 x hx
  · rw [cntV_enter s hn, if_pos hk, ← h2]
    rfl

/-- What the append to the stack leaves. -/
theorem TX.stkPushed {T : TC} (H : TH T) {w w1 : World} {o : Obj} {s1 s2 s3 : Nat} {g1 g2 g3 : Nat → Option Value} {st : List Nat} {cs : List (List Nat)} {sv cv : Value} {es : List Value} {k g cap Hh : Nat} (h : TX T w s1 s2 s3 g1 g2 g3 st cs sv cv es)
    (hown : w1.ownsRow 0 9 1 (.slice (some ⟨g, 0, none⟩) ((strs T.nm st.reverse).length + 1) cap) ((strs T.nm st.reverse).length + 1) (strs T.nm st.reverse ++ [.string (T.nm k)]))
    (hg : (w.alloc o).drew.grownBy w1 sv.ownBlock) (hat : sv.ownBlock = some g ∨ g = Hh) (hH : Hh = w.heap.size + 1) (hk : k < T.n) (hs3 : s3 ≤ 4096) (v : Value) :
    w1.cell? ⟨T.c3, 0, none⟩ = some sv ∧ w1.frozen? ⟨T.c3, 0, none⟩ = false ∧ w1.cell? ⟨T.c4, 0, none⟩ = some (.map (some T.ob)) ∧ (w1.setCell ⟨T.c3, 0, none⟩ (.slice (some ⟨g, 0, none⟩) ((strs T.nm st.reverse).length + 1) cap)).cell? ⟨T.c4, 0, none⟩ = some (.map (some T.ob)) ∧
    ∃ w2, (Instr.mapUpdate 31 (.map (some T.ob)) (.string (T.nm k)) v).run Try.prog (w1.setCell ⟨T.c3, 0, none⟩ (.slice (some ⟨g, 0, none⟩) ((strs T.nm st.reverse).length + 1) cap)) = .ok () w2 ∧
      Hid (TX T w2 s1 s2 (if (g3 k).isSome then s3 else s3 + 1) g1 g2 (upd g3 k (some v)) (k :: st) cs (.slice (some ⟨g, 0, none⟩) ((strs T.nm st.reverse).length + 1) cap) cv es ∧ KB T.M w w2) := by
  have hka : KB (fun _ => False) w (w.alloc o).drew := ((KB.refl _ w).alloc o).drew
  obtain ⟨a, b, c, d, e, f⟩ := h.stk.pushed hka hown hg hat (by omega)
  have hn4 : ¬ sv.ownBlock = some T.c4 := fun e => H.m4 (h.sf _ e).1
  obtain ⟨X1, K1⟩ := h.setStk H (st' := k :: st) (sv' := .slice (some ⟨g, 0, none⟩) ((strs T.nm st.reverse).length + 1) cap) (by rw [List.reverse_cons, strs_snoc]; exact d) e (fun k e => by simp [Value.ownBlock] at e; subst e; exact f)
  refine ⟨a, b, (c.cell (World.block_lt_of_cell? w _ h.k.k4) hn4).trans h.k.k4, X1.k.k4, ?_⟩
  obtain ⟨w2, r, X2, K2⟩ := X1.setOn H hk hs3 v
  exact ⟨w2, r, X2, K1.trans K2 (fun _ _ h => h)⟩

end Go.Proofs.Qxb6605609a
