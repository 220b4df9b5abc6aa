/-
  cyclesOf: what lies in memory when its closure is made; the keys of its map.
-/
import Derived.Test.Qxb6605609aCycP
import Derived.Test.Qxb6605609aSlice
import Derived.Sort.KeysCollected
import Derived.Maps.RangeWalk
import Derived.Laws.EntriesVeiled
namespace Go.Proofs.Qxb6605609a
open Go.RowKit Go.Maps Go.WideMaps

/-- What the cycles are. -/
def CycSpec (adj : Nat → List Nat) (n : Nat) (cs : List (List Nat)) : Prop :=
  (∀ c ∈ cs, c ≠ [] ∧ c.Nodup ∧ (∀ x ∈ c, x < n) ∧ ∀ x ∈ c, ∀ y, y ∈ c ↔ Scc adj x y) ∧ (∀ x y, y ≠ x → Scc adj x y → ∃ c ∈ cs, x ∈ c) ∧ cs.length ≤ 4096

def CycRes (w w' : World) (nm : Nat → ByteArray) (adj : Nat → List Nat) (n : Nat) (e : Ending) : Prop :=
  ∃ v es cs, e = .returned v ∧ Row w' 22 v es ∧ Els w' (fun b => w.heap.size ≤ b) nm es cs ∧ CycSpec adj n cs

/-- What is asked of cyclesOf's map. -/
structure KidMap (w : World) (cb sz n : Nat) (nm : Nat → ByteArray) (adj : Nat → List Nat) (la : Nat → Option Addr) (lc : Nat → Nat) : Prop where
  nle : n ≤ 4096
  nsz : ∀ i, (nm i).size ≤ maxLen
  inj : ∀ i j, i < n → j < n → nm i = nm j → i = j
  mono : ∀ i j, i < n → j < n → i ≤ j → (nm i).data.toList ≤ (nm j).data.toList
  mono' : ∀ i j, i < n → j < n → (nm i).data.toList ≤ (nm j).data.toList → i ≤ j
  adjlt : ∀ i, ∀ j ∈ adj i, j < n
  adjout : ∀ i, n ≤ i → adj i = []
  adjlen : ∀ i, (adj i).length ≤ 131072
  kids : SMap w cb sz (nmF nm n (kidG adj la lc))
  small : sz ≤ 4096
  lists : ∀ i, i < n → SlAt w (la i) (adj i).length (fun j => .string (nm ((adj i).getD j 0)))
  nil : ∀ i, adj i = [] → la i = none ∧ lc i = 0

theorem makeMap53n (w : World) : (Instr.makeMap 53 none).run Try.prog w = .ok (.map (some w.heap.size)) (w.alloc (.map #[] 0)) := by kernel_rfl
theorem makeMap31n (w : World) : (Instr.makeMap 31 none).run Try.prog w = .ok (.map (some w.heap.size)) (w.alloc (.map #[] 0)) := by kernel_rfl

/-- The closure. -/
def walkFn (z : Nat) : Value := .func (.func 31) #[] #[.pointer (some ⟨z + 1 + 1 + 1, 0, none⟩), .pointer (some ⟨z + 1 + 1 + 1 + 1, 0, none⟩), .pointer (some ⟨z + 1 + 1 + 1 + 1 + 1 + 1 + 1, 0, none⟩), .pointer (some ⟨z + 1 + 1 + 1 + 1 + 1 + 1, 0, none⟩), .pointer (some ⟨z, 0, none⟩), .pointer (some ⟨z + 1 + 1 + 1 + 1 + 1 + 1 + 1 + 1 + 1, 0, none⟩), .pointer (some ⟨z + 1 + 1 + 1 + 1 + 1 + 1 + 1 + 1, 0, none⟩)]

/-- What lies in memory when the closure is made. -/
structure Made (w W : World) (cb : Nat) : Prop where
  k1 : W.cell? ⟨w.heap.size + 3, 0, none⟩ = some (.map (some (w.heap.size + 1)))
  k2 : W.cell? ⟨w.heap.size + 4, 0, none⟩ = some (.map (some (w.heap.size + 2)))
  k4 : W.cell? ⟨w.heap.size + 6, 0, none⟩ = some (.map (some (w.heap.size + 5)))
  k5 : W.cell? ⟨w.heap.size, 0, none⟩ = some (.map (some cb))
  k6 : W.cell? ⟨w.heap.size + 9, 0, none⟩ = some (walkFn w.heap.size)
  vis : SMap W (w.heap.size + 1) 0 (fun _ => none)
  low : SMap W (w.heap.size + 2) 0 (fun _ => none)
  ons : SMap W (w.heap.size + 5) 0 (fun _ => none)
  stk : RC W (w.heap.size + 7) 9 (.slice none 0 0) []
  cyc : RC W (w.heap.size + 8) 22 (.slice none 0 0) []
  bel : Below w.heap.size w W
  size : W.heap.size = w.heap.size + 10

theorem Made.keep {w W W' : World} {cb : Nat} (h : Made w W cb) {S : Nat → Prop} (hk : KB S W W') (hS : ∀ k, k < w.heap.size + 10 → ¬ S k) :
    W'.cell? ⟨w.heap.size + 3, 0, none⟩ = some (.map (some (w.heap.size + 1))) ∧ W'.cell? ⟨w.heap.size + 4, 0, none⟩ = some (.map (some (w.heap.size + 2))) ∧ W'.cell? ⟨w.heap.size + 6, 0, none⟩ = some (.map (some (w.heap.size + 5))) ∧ W'.cell? ⟨w.heap.size, 0, none⟩ = some (.map (some cb)) ∧ W'.cell? ⟨w.heap.size + 9, 0, none⟩ = some (walkFn w.heap.size) ∧
    SMap W' (w.heap.size + 1) 0 (fun _ => none) ∧ SMap W' (w.heap.size + 2) 0 (fun _ => none) ∧ SMap W' (w.heap.size + 5) 0 (fun _ => none) ∧ RC W' (w.heap.size + 7) 9 (.slice none 0 0) [] ∧ RC W' (w.heap.size + 8) 22 (.slice none 0 0) [] ∧ Below w.heap.size w W' := by
  have hs := h.size
  have c : ∀ {b : Nat} {v : Value}, b < w.heap.size + 10 → W.cell? ⟨b, 0, none⟩ = some v → W'.cell? ⟨b, 0, none⟩ = some v := fun {b v} hb hc => (hk.cell (p := ⟨b, 0, none⟩) (by show b < W.heap.size; omega) (hS b hb)).trans hc
  exact ⟨c (by omega) h.k1, c (by omega) h.k2, c (by omega) h.k4, c (by omega) h.k5, c (by omega) h.k6, h.vis.keep hk (hS _ (by omega)), h.low.keep hk (hS _ (by omega)), h.ons.keep hk (hS _ (by omega)), h.stk.keep hk (fun k e => by simp [Value.ownBlock] at e) (hS _ (by omega)), h.cyc.keep hk (fun k e => by simp [Value.ownBlock] at e) (hS _ (by omega)), h.bel.trans (hk.toBelow (by omega) (fun k hk => hS k (by omega)))⟩

/-- The world when the closure is made. -/
def madeW (w : World) (cb : Nat) : World :=
  (((((((((w.alloc (.cells #[.map (some cb)] 29)).alloc (.map #[] 0)).alloc (.map #[] 0)).alloc (.cells #[.map (some (w.heap.size + 1))] 53)).alloc (.cells #[.map (some (w.heap.size + 1 + 1))] 53)).alloc (.map #[] 0)).alloc (.cells #[.map (some (w.heap.size + 1 + 1 + 1 + 1 + 1))] 31)).alloc (.cells #[.slice none 0 0] 22)).alloc (.cells #[.slice none 0 0] 23)).alloc (.cells #[walkFn w.heap.size] 65)

theorem heap_alloc_lt (w : World) (o : Obj) {k : Nat} (h : k < w.heap.size) : (w.alloc o).heap[k]? = w.heap[k]? := Below.heap_alloc w o k h

theorem made_blocks (w : World) (cb : Nat) : (madeW w cb).heap.size = w.heap.size + 10 ∧ (∀ k, k < w.heap.size → (madeW w cb).heap[k]? = w.heap[k]?) ∧
    (madeW w cb).heap[w.heap.size]? = some (.cells #[.map (some cb)] 29) ∧ (madeW w cb).heap[w.heap.size + 1]? = some (.map #[] 0) ∧ (madeW w cb).heap[w.heap.size + 2]? = some (.map #[] 0) ∧ (madeW w cb).heap[w.heap.size + 3]? = some (.cells #[.map (some (w.heap.size + 1))] 53) ∧
    (madeW w cb).heap[w.heap.size + 4]? = some (.cells #[.map (some (w.heap.size + 2))] 53) ∧ (madeW w cb).heap[w.heap.size + 5]? = some (.map #[] 0) ∧ (madeW w cb).heap[w.heap.size + 6]? = some (.cells #[.map (some (w.heap.size + 5))] 31) ∧ (madeW w cb).heap[w.heap.size + 7]? = some (.cells #[.slice none 0 0] 22) ∧ (madeW w cb).heap[w.heap.size + 8]? = some (.cells #[.slice none 0 0] 23) ∧ (madeW w cb).heap[w.heap.size + 9]? = some (.cells #[walkFn w.heap.size] 65) := by
  have hh : (madeW w cb).heap = (((((((((w.heap.push (.cells #[.map (some cb)] 29)).push (.map #[] 0)).push (.map #[] 0)).push (.cells #[.map (some (w.heap.size + 1))] 53)).push (.cells #[.map (some (w.heap.size + 1 + 1))] 53)).push (.map #[] 0)).push (.cells #[.map (some (w.heap.size + 1 + 1 + 1 + 1 + 1))] 31)).push (.cells #[.slice none 0 0] 22)).push (.cells #[.slice none 0 0] 23)).push (.cells #[walkFn w.heap.size] 65) := rfl
  have h2 : (madeW w cb).heap = w.heap ++ #[.cells #[.map (some cb)] 29, .map #[] 0, .map #[] 0, .cells #[.map (some (w.heap.size + 1))] 53, .cells #[.map (some (w.heap.size + 1 + 1))] 53, .map #[] 0, .cells #[.map (some (w.heap.size + 1 + 1 + 1 + 1 + 1))] 31, .cells #[.slice none 0 0] 22, .cells #[.slice none 0 0] 23, .cells #[walkFn w.heap.size] 65] := by
    rw [hh]
    apply Array.ext'
    simp
  have at' : ∀ i, (madeW w cb).heap[w.heap.size + i]? = (#[.cells #[.map (some cb)] 29, .map #[] 0, .map #[] 0, .cells #[.map (some (w.heap.size + 1))] 53, .cells #[.map (some (w.heap.size + 1 + 1))] 53, .map #[] 0, .cells #[.map (some (w.heap.size + 1 + 1 + 1 + 1 + 1))] 31, .cells #[.slice none 0 0] 22, .cells #[.slice none 0 0] 23, .cells #[walkFn w.heap.size] 65] : Array Obj)[i]? := fun i => by
    rw [h2, Array.getElem?_append_right (by omega), Nat.add_sub_cancel_left]
  exact ⟨by rw [h2]; simp, fun k hk => by rw [h2, Array.getElem?_append_left hk], at' 0, at' 1, at' 2, at' 3, at' 4, at' 5, at' 6, at' 7, at' 8, at' 9⟩

theorem made27 (w : World) (cb : Nat) : Made w (madeW w cb) cb := by
  obtain ⟨b0, b1, c0, c1, c2, c3, c4, c5, c6, c7, c8, c9⟩ := made_blocks w cb
  have m : ∀ {b : Nat}, (madeW w cb).heap[b]? = some (.map #[] 0) → SMap (madeW w cb) b 0 (fun _ => none) := fun {b} hb => by
    refine ⟨.map [], ?_, rfl, fun _ _ _ => rfl⟩
    obtain ⟨es, ck, h1, h2⟩ := World.ownsMap_made w Try.prog 9 heldElem
    have h3 := heap_alloc_new w (.map #[] 0)
    rw [h3] at h1
    cases h1
    exact ⟨_, _, hb, h2⟩
  have r : ∀ {b : Nat} {t t' : TypeId}, (madeW w cb).heap[b]? = some (.cells #[.slice none 0 0] t') → RC (madeW w cb) b t (.slice none 0 0) [] := fun {b t t'} hb => ⟨by simp [World.cell?, hb], by simp [World.frozen?, hb], Row.nil _ _, fun k e => by simp [Value.ownBlock] at e⟩
  refine ⟨by simp [World.cell?, c3], by simp [World.cell?, c4], by simp [World.cell?, c6], by simp [World.cell?, c0], by simp [World.cell?, c9], m c1, m c2, m c5, r c7, r c8, ⟨rfl, rfl, rfl, by omega, b1⟩, b0⟩

end Go.Proofs.Qxb6605609a
