/-
  MAPS WITH STRING KEYS, BY WHAT THEY HOLD: 'SMap w b sz f': block b is a map of sz entries, at s the value 'f s'.
-/
import Derived.Test.Qxb6605609aGrid
import Derived.Maps.OwnSet
import Derived.Maps.Views
namespace Go.Proofs.Qxb6605609a
open Go.RowKit Go.Maps Go.WideMaps

/-- Every value reads as itself. -/
def heldElem (v : Value) : Option (DataW Value × List MemPlace) := some (.held v, [])
/-- A string as a key. -/
def kstr (s : ByteArray) : Lit := .string s.data.toList
theorem kstr_ne {a b : ByteArray} (h : a ≠ b) : kstr a ≠ kstr b := by
  intro e
  apply h
  unfold kstr at e
  injection e with e
  cases a; cases b
  simp at e
  simp [e]
theorem law9 : Keyed Try.prog 9 := string_keyed Try.underlying9
theorem keyStr {s : ByteArray} (hs : s.size ≤ maxLen) : keyOf Try.prog 9 (.string s) = some (kstr s) := keyOf_string_mk Try.underlying9 hs

/-- What a map holds at a string. -/
def atStr (f : ByteArray → Option Value) (s : ByteArray) (zd : DataW Value) : DataW Value := match f s with | some v => .held v | none => zd

def SMap (w : World) (b sz : Nat) (f : ByteArray → Option Value) : Prop :=
  ∃ D, w.ownsMap Try.prog 9 heldElem b sz D ∧ Maps.size D = sz ∧ ∀ s : ByteArray, s.size ≤ maxLen → ∀ zd, D.atKey (kstr s) zd = atStr f s zd

theorem ownsMap_tight {H : Type} {P : Program} {k : TypeId} {R : Value → Option (DataW H × List MemPlace)} {w : World} {b n : Nat} {D : DataW H} (h : w.ownsMap P k R b n D) : w.ownsMap P k R b (Maps.size D) D := by
  obtain ⟨es, clock, hb, F, hs, rfl⟩ := h
  exact ⟨es, clock, hb, F, by simp [Maps.size, length_sorted], rfl⟩

theorem SMap.lt {w : World} {b sz : Nat} {f : ByteArray → Option Value} (h : SMap w b sz f) : b < w.heap.size := by
  obtain ⟨D, h1, _⟩ := h
  exact h1.lt

theorem SMap.keep {M : Nat → Prop} {w w' : World} {b sz : Nat} {f : ByteArray → Option Value} (h : SMap w b sz f) (hk : KB M w w') (hm : ¬ M b) : SMap w' b sz f := by
  have hlt := h.lt
  obtain ⟨D, ⟨es, clock, hb, r⟩, h2⟩ := h
  exact ⟨D, ⟨es, clock, (hk.block b hlt hm).trans hb, r⟩, h2⟩

theorem SMap.congr {w : World} {b sz : Nat} {f g : ByteArray → Option Value} (h : SMap w b sz f) (hfg : ∀ s, s.size ≤ maxLen → f s = g s) : SMap w b sz g := by
  obtain ⟨D, h1, h2, h3⟩ := h
  refine ⟨D, h1, h2, fun s hs zd => ?_⟩
  rw [h3 s hs zd, atStr, atStr, hfg s hs]

theorem SMap.made (w : World) : SMap (w.alloc (.map #[] 0)) w.heap.size 0 (fun _ => none) :=
  ⟨.map [], World.ownsMap_made _ _ _ _, rfl, fun _ _ _ => rfl⟩

theorem SMap.has {D : DataW Value} {f : ByteArray → Option Value} {s : ByteArray} (h : ∀ zd, D.atKey (kstr s) zd = atStr f s zd) : Maps.has D (kstr s) = (f s).isSome := by
  cases e : f s with
  | none => exact Maps.has_false_of_atKey (fun z => by rw [h z, atStr, e])
  | some v => exact Maps.has_true_of_atKey (y := .held v) (fun z => by rw [h z, atStr, e])

theorem heldElem_inv {v : Value} {d : DataW Value} {ps : List MemPlace} (h : heldElem v = some (d, ps)) : d = .held v := by
  simp [heldElem] at h
  exact h.1.symm

theorem atStr_held {f : ByteArray → Option Value} {s : ByteArray} {z v : Value} (h : atStr f s (.held z) = .held v) : v = (f s).getD z := by
  unfold atStr at h
  cases e : f s with
  | none =>
    rw [e] at h
    exact (DataW.held.inj h).symm
  | some v' =>
    rw [e] at h
    exact (DataW.held.inj h).symm

/-- 'm[s]'. -/
theorem SMap.look {w : World} {b sz : Nat} {f : ByteArray → Option Value} (h : SMap w b sz f) {t e : TypeId} (ht : Try.prog.underlying t = some (.map 9 e)) {z : Value} (hz : (zeroValue e).run Try.prog w = .ok z w) {s : ByteArray} (hs : s.size ≤ maxLen) :
    (Instr.lookup t (.map (some b)) (.string s) false).run Try.prog w = .ok ((f s).getD z) w := by
  obtain ⟨D, h1, _, h3⟩ := h
  obtain ⟨v, ps, hrun, hv⟩ := h1.lookup law9 ht hz (zd := .held z) (zp := []) rfl (keyStr hs)
  have hv2 := heldElem_inv hv
  rw [h3 s hs] at hv2
  have := atStr_held hv2
  rw [hrun, this]

/-- 'v, ok := m[s]'. -/
theorem SMap.lookOk {w : World} {b sz : Nat} {f : ByteArray → Option Value} (h : SMap w b sz f) {t e : TypeId} (ht : Try.prog.underlying t = some (.map 9 e)) {z : Value} (hz : (zeroValue e).run Try.prog w = .ok z w) {s : ByteArray} (hs : s.size ≤ maxLen) :
    (Instr.lookup t (.map (some b)) (.string s) true).run Try.prog w = .ok (.tuple #[(f s).getD z, .bool (f s).isSome]) w := by
  obtain ⟨D, h1, _, h3⟩ := h
  obtain ⟨v, ps, hrun, hv⟩ := h1.look_ok law9 ht hz (zd := .held z) (zp := []) rfl (keyStr hs)
  have hv2 := heldElem_inv hv
  rw [h3 s hs] at hv2
  have := atStr_held hv2
  rw [hrun, SMap.has (h3 s hs), this]

/-- 'len(m)'. -/
theorem SMap.len {w : World} {b sz : Nat} {f : ByteArray → Option Value} (h : SMap w b sz f) {t e : TypeId} (ht : Try.prog.underlying t = some (.map 9 e)) (ty : TypeId) :
    (Builtin.len_ #[t] ty #[.map (some b)]).run Try.prog w = .ok (.int .i64 sz) w := by
  obtain ⟨D, h1, h2, _⟩ := h
  rw [h1.len ht ty, h2]

def updS (f : ByteArray → Option Value) (s : ByteArray) (v : Value) : ByteArray → Option Value := fun x => if x = s then some v else f x

/-- 'm[s] = v'. -/
theorem SMap.update {w : World} {b sz : Nat} {f : ByteArray → Option Value} (h : SMap w b sz f) {t e : TypeId} (ht : Try.prog.underlying t = some (.map 9 e)) {s : ByteArray} (hs : s.size ≤ maxLen) (hsz : sz < maxLen) (v : Value) :
    ∃ w', (Instr.mapUpdate t (.map (some b)) (.string s) v).run Try.prog w = .ok () w' ∧ SMap w' b (if (f s).isSome then sz else sz + 1) (updS f s v) ∧ w.grownBy w' (some b) := by
  obtain ⟨D, h1, h2, h3⟩ := h
  obtain ⟨w', hrun, hown, hg⟩ := h1.update law9 ht hsz (keyStr hs) (val := v) (d := .held v) (ps := []) rfl
  have hsize : Maps.size (D.put (kstr s) (.held v)) = if (f s).isSome then sz else sz + 1 := by
    rw [Maps.size_put (h1.tidy law9), SMap.has (h3 s hs), h2]
  refine ⟨w', hrun, ⟨_, ?_, hsize, fun x hx zd => ?_⟩, hg⟩
  · rw [← hsize]
    exact ownsMap_tight hown
  · unfold atStr updS
    by_cases ex : x = s
    · subst ex
      rw [if_pos rfl]
      exact Maps.atKey_put_same (k := kstr x) h1.isMap trivial _ _
    · rw [if_neg ex, Maps.atKey_put_other (kstr_ne ex)]
      exact h3 x hx zd

theorem SMap.drew {w : World} {b sz : Nat} {f : ByteArray → Option Value} (h : SMap w b sz f) : SMap w.drew b sz f := h

end Go.Proofs.Qxb6605609a
