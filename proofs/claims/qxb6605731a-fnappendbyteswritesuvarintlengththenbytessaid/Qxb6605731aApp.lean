/-
  appendBytes(b, p): b a fresh copy (or nil), p a fresh copy (or nil): what comes back holds b, the varint of len(p), p; what was there is as it was.
-/
import Derived.Test.Qxb6605731aIn
import Derived.Test.Qxb6605731aPlain
import Derived.Test.Qxb6605731aShelf
import Derived.Deep.AppendLies
import Derived.Deep.OntoInts
import Derived.Laws.AppendOwnNone
import Derived.OwnWalk
namespace Go.Proofs.Qxb6605731a
open Go.RowKit Go.Deep Go.WideShapes Go.ChangeShapes

/-- Nothing may be written: every old block is as it was. -/
theorem blocks_of_kept {W w : World} {may : MemPlace → Prop} (h : W.keptBut w may) (hm : ∀ p, ¬ may p) (i : Nat) (hi : i < W.heap.size) : w.heap[i]? = W.heap[i]? := by
  have := h.2.2 i hi
  split at this
  · next c t fr c' t' fr' h1 h2 =>
    obtain ⟨rfl, rfl, _, hj⟩ := this
    rw [h1, h2]
    have : c' = c := Array.ext_getElem? (fun j => hj j (hm _))
    rw [this]
  · next es ck es' ck' h1 h2 =>
    rcases this with h | ⟨rfl, rfl⟩
    · exact absurd h (hm _)
    · rw [h1, h2]
  · exact this

/-- A fresh copy, as a value: nil, or a row of its own length. -/
def Fresh (w : World) (v : Value) (n : Nat) (xs : Nat → Int) : Prop :=
  (n = 0 ∧ v = .slice none 0 0) ∨ ∃ b, v = .slice (some ⟨b, 0, none⟩) n n ∧ w.rowIs b 5 n (fun j => .int .u8 (xs j))

theorem Fresh.kept {w w' : World} {v : Value} {n : Nat} {xs : Nat → Int} (h : Fresh w v n xs) (hb : Kept w.heap.size w w') : Fresh w' v n xs := by
  rcases h with h | ⟨b, rfl, hr⟩
  · exact Or.inl h
  · exact Or.inr ⟨b, rfl, hr.of_block (hb.block b hr.lt)⟩

theorem Fresh.slAt {w : World} {v : Value} {n : Nat} {xs : Nat → Int} (h : Fresh w v n xs) (hn : n ≤ 1048576) : ∃ a c, v = .slice a n c ∧ SlAt w a n (fun j => .int .u8 (xs j)) := by
  rcases h with ⟨rfl, rfl⟩ | ⟨b, rfl, hr⟩
  · exact ⟨none, 0, rfl, by omega, fun h => by omega⟩
  · exact ⟨_, _, rfl, by omega, fun h => ⟨b, 0, rfl, hr.lt, fun j hj => by rw [Nat.zero_add]; exact hr.cell hj⟩⟩

/-- The bytes of a slice, as a list of numbers. -/
def nums (n : Nat) (xs : Nat → Int) : List Int := (List.range n).map xs
theorem nums_length (n : Nat) (xs : Nat → Int) : (nums n xs).length = n := by simp [nums]
theorem nums_get (n : Nat) (xs : Nat → Int) (j : Nat) (h : j < n) : (nums n xs).getD j 0 = xs j := by simp [nums, h]

theorem Fresh.came {w : World} {v : Value} {n : Nat} {xs : Nat → Int} (h : Fresh w v n xs) : ∃ a b, v = .slice a n n ∧ Came w 1 a b 0 n n ((nums n xs).map (Value.int .u8)) := by
  rcases h with ⟨rfl, rfl⟩ | ⟨b, rfl, hr⟩
  · exact ⟨none, 0, rfl, came_bare w none⟩
  · refine ⟨_, b, rfl, Nat.le_refl _, fun _ => rfl, fun _ => hr.lt, by simp [nums], fun j u hu => ?_, fun j hj => by simp at hj⟩
    have hj : j < n := by
      have := (List.getElem?_eq_some_iff.1 hu).1
      simpa [nums] using this
    rw [Nat.zero_add, hr.cell hj, ← hu]
    simp [nums, hj]

theorem byteCells_hdr (x : Nat) : Lib.byteCells (Lib.uvarint x) = (hdr x).map (Value.int .u8) := by simp [Lib.byteCells, hdr, Function.comp_def]

/-- What appendBytes hands back. -/
def AppRes (l : List Int) (e : Ending) (w' : World) : Prop := ∃ g cap, e = .returned (.slice (some ⟨g, 0, none⟩) l.length cap) ∧ SlAt w' (some ⟨g, 0, none⟩) l.length (fun j => .int .u8 (l.getD j 0))

theorem appRes_of {w : World} {base : Nat} {v : Value} {l : List Int} (h0 : 0 < l.length) (hs : l.length < 4611686018427387904) (h : w.ownsRow base 5 1 v l.length (l.map (Value.int .u8))) : AppRes l (.returned v) w := by
  obtain ⟨g, cap, rfl, _, hlt⟩ := h.form h0
  refine ⟨g, cap, rfl, hs, fun _ => ⟨g, 0, rfl, hlt, fun j hj => ?_⟩⟩
  have := h.cells (g := g) rfl j (.int .u8 (l.getD j 0)) (by simp [hj])
  rwa [add_plain] at this

/-- What binary.AppendUvarint leaves, b having no room behind its length. -/
theorem onto_own {w w1 : World} {ba : Option Addr} {bb B P : Nat} {olds : List Value} {v1 : Value} (h : Onto w 5 1 ba bb 0 B B olds w1 v1 (0 + (Lib.uvarint P).length) ([] ++ Lib.byteCells (Lib.uvarint P))) :
    w1.ownsRow w.heap.size 5 1 v1 (B + (hdr P).length) (olds ++ (hdr P).map (Value.int .u8)) ∧ Kept w.heap.size w w1 := by
  have hl : (Lib.uvarint P).length = (hdr P).length := by simp [hdr]
  have hpos := (hdrOk P).pos
  refine ⟨?_, h.kept.1, h.kept.2.1, h.kept.size, fun i hi => blocks_of_kept h.kept (fun p => ?_) i hi⟩
  · rcases h.val with ⟨h1, _⟩ | ⟨_, h2⟩
    · omega
    · rw [← byteCells_hdr, ← hl]
      simpa using h2
  · rintro ⟨j, _, hj, _⟩
    simp at hj

set_option maxHeartbeats 400000 in
theorem append12 (vb vp : Value) (B P : Nat) (xs ys : Nat → Int) (w : World) (hb : Fresh w vb B xs) (hp : Fresh w vp P ys) (hB : B ≤ 1048576) (hP : P ≤ 1048576) :
    Calls Try.prog 12 #[vb, vp] w fun e w' => AppRes (nums B xs ++ (hdr P ++ nums P ys)) e w' ∧ Kept w.heap.size w w' := by
  obtain ⟨ba, bb, rfl, hcame⟩ := hb.came
  have hk := hdr_length hP
  have hk1 := (hdrOk P).pos
  have hlen : (nums B xs ++ (hdr P ++ nums P ys)).length = B + (hdr P).length + P := by simp [nums_length, Nat.add_assoc]
  obtain ⟨i0, hi0, hz0, hz1, hz2⟩ := info_parts info5
  rcases hp with ⟨rfl, rfl⟩ | ⟨pb, rfl, hrow⟩
  · go_enter Try.func12, Try.ntmps12
    go_wp2_with fail
    refine (Try.binary_AppendUvarint_arg w ba bb 0 B B _ hcame 0 (by omega) _ 0 [] _ (Onto.start hcame) (by omega)).mono ?_
    rintro e w1 ⟨v1, rfl, honto⟩
    obtain ⟨hown, hkp⟩ := onto_own honto
    obtain ⟨g1, cap1, rfl, _, _⟩ := hown.form (by omega)
    have Hown : Hid (w1.ownsRow w.heap.size 5 1 (.slice (some ⟨g1, 0, none⟩) (B + (hdr 0).length) cap1) (B + (hdr 0).length) ((nums B xs).map (Value.int .u8) ++ (hdr 0).map (Value.int .u8))) := hown
    clear hown honto hcame hb
    go_wp2_with (first | (at_builtin; refine wpList_append_own_none (by rfl) _ _ _ (by rfl) w.heap.size 5 i0 1 Try.underlying26 hi0 _ _ _ (by rfl) Hown.out (by rfl) ?_))
    go_ret
    refine ⟨appRes_of (base := w.heap.size) (by omega) (by omega) ?_, hkp⟩
    rw [hlen, List.map_append, List.map_append]
    simpa [nums] using Hown.out
  · have hpc : ∀ (w1 : World), Kept w.heap.size w w1 → ∀ j u, ((nums P ys).map (Value.int .u8))[j]? = some u → w1.cell? ((⟨pb, 0, none⟩ : Addr).add j) = some u := fun w1 hkp j u hu => by
      have hj : j < P := by
        have := (List.getElem?_eq_some_iff.1 hu).1
        simpa [nums] using this
      rw [add_plain, Nat.zero_add, hkp.cell (p := ⟨pb, j, none⟩) hrow.lt, hrow.cell hj, ← hu]
      simp [nums, hj]
    go_enter Try.func12, Try.ntmps12
    go_wp2_with fail
    refine (Try.binary_AppendUvarint_arg w ba bb 0 B B _ hcame P (by omega) _ 0 [] _ (Onto.start hcame) (by omega)).mono ?_
    rintro e w1 ⟨v1, rfl, honto⟩
    obtain ⟨hown, hkp⟩ := onto_own honto
    obtain ⟨g1, cap1, rfl, hg1, _⟩ := hown.form (by omega)
    have Hown : Hid (w1.ownsRow w.heap.size 5 1 (.slice (some ⟨g1, 0, none⟩) (B + (hdr P).length) cap1) (B + (hdr P).length) ((nums B xs).map (Value.int .u8) ++ (hdr P).map (Value.int .u8))) := hown
    have Hpc := show Hid (∀ j u, ((nums P ys).map (Value.int .u8))[j]? = some u → w1.cell? ((⟨pb, 0, none⟩ : Addr).add j) = some u) from hpc w1 hkp
    clear hown honto hcame hb hpc hrow
    go_wp2_with (first | (at_builtin; refine wpList_append_own _ (by rfl) _ _ _ (by rfl) w.heap.size 5 i0 _ 1 1 Try.underlying26 hi0 hz0 hz1 hz2 rfl (by omega) _ _ _ (by rfl) Hown.out ⟨pb, 0, none⟩ P P ((nums P ys).map (Value.int .u8)) (by rfl) (by simp [nums]) Hpc.out (by simp [Value.oneCell']) (by unfold maxLen; omega) (by omega) hkp.size ?_; intro v3 w3 hown3 hgrow hv3))
    obtain ⟨g3, cap3, rfl, _, _⟩ := hown3.form (by omega)
    have hk3 : Kept w.heap.size w w3 := hkp.trans ⟨hgrow.os, hgrow.output, hgrow.size, fun i hi => hgrow.block i (by have := hkp.size; omega) (by simp [Value.ownBlock]; omega)⟩
    go_ret
    refine ⟨appRes_of (base := w.heap.size) (by omega) (by omega) ?_, hk3⟩
    rw [hlen, List.map_append, List.map_append, ← List.append_assoc]
    exact hown3

theorem append9 (vb vp : Value) (B P : Nat) (xs ys : Nat → Int) (w : World) (hb : Fresh w vb B xs) (hp : Fresh w vp P ys) (hB : B ≤ 1048576) (hP : P ≤ 1048576) :
    Calls Try.prog 9 #[vb, vp] w fun e w' => AppRes (nums B xs ++ (hdr P ++ nums P ys)) e w' ∧ Kept w.heap.size w w' := by
  have h12 := append12 vb vp B P xs ys w hb hp hB hP
  generalize nums B xs ++ (hdr P ++ nums P ys) = l at h12 ⊢
  go_enter Try.func9, Try.ntmps9
  go_wp2_with fail
  refine h12.mono ?_
  rintro e w' ⟨⟨g, cap, rfl, hs⟩, hk⟩
  have Hs : Hid (SlAt w' (some ⟨g, 0, none⟩) l.length (fun j => .int .u8 (l.getD j 0))) := hs
  clear hs
  go_wp2_with fail
  go_ret
  exact ⟨⟨g, cap, rfl, Hs.out⟩, hk⟩

end Go.Proofs.Qxb6605731a
