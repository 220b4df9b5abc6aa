/-
  FROM THE ROW's READING OF THE LEVELS ([][][32]byte) AND OF A BYTE SLICE TO WHAT THE WALKS ARE TOLD.
-/
import Derived.Test.Qxb6614063aOpen
import Derived.Test.Qxb6614063aShape
import Derived.Deep.Slices
import Derived.OpenShut
namespace Go.Proofs.Qxb6614063a
open Go.ChangeShapes Go.WideShapes Go.ChangeAt Go.RowKit

theorem cells5 : Try.prog.cellsOf 5 = 1 := by kernel_rfl
theorem cells60 : Try.prog.cellsOf 60 = 32 := by kernel_rfl
theorem cells61 : Try.prog.cellsOf 61 = 1 := by kernel_rfl
theorem bytes5 : Try.prog.bytesOf 5 = 1 := by kernel_rfl
theorem bytes60 : Try.prog.bytesOf 60 = 32 := by kernel_rfl
theorem bytes61 : Try.prog.bytesOf 61 = 24 := by kernel_rfl

theorem open40 {H : Type} {enc : TypeId × Value → H} {W : World} {a : Option Addr} {len cap : Nat} {d : DataW H} {p : List MemPlace} (h : DataW.Trod enc Try.prog W 0 (fun _ => true) true 40 (.slice a len cap) d p)
    (hsz : ∀ elems spare, d = .slice elems spare → (elems.length + spare.length) * Try.prog.bytesOf 5 ≤ reachBytes) :
    ∃ xs : Nat → Int, SlAt W a len (fun j => .int .u8 (xs j)) ∧ len < 140737488355328 := by
  have lt : ∀ x ∈ p, x.block < W.heap.size := by obtain ⟨m, hm⟩ := h; exact DataW.trod_lt m _ _ _ hm
  obtain ⟨fuel, hf⟩ := h
  rcases open_ints Try.underlying40 Try.underlying5 cells5 hf with ⟨hcs, _⟩ | ⟨x, l, c, zs, hcs, _, hl, hm, hz, hx, hcell, hwz⟩
  · simp [Value.cells] at hcs
    obtain ⟨rfl, rfl, rfl⟩ := hcs
    exact ⟨fun _ => 0, ⟨by omega, fun h => by omega⟩, by omega⟩
  · simp [Value.cells] at hcs
    obtain ⟨rfl, rfl, rfl⟩ := hcs
    simp only [Prod.mk.injEq] at hx
    obtain ⟨rfl, rfl⟩ := hx
    simp only [if_true] at hz
    have hs := hsz _ _ rfl
    rw [bytes5] at hs
    have hr := reachBytes_lt
    simp [lits] at hs
    have hlz : min len zs.length = len := by omega
    refine ⟨fun j => zs.getD j 0, ⟨by omega, fun hn => ?_⟩, by omega⟩
    obtain ⟨b, off, spot⟩ := x
    have hspot : spot = none := by simpa [Addr.add] using World.cell?_spot (hcell 0 (by omega))
    subst hspot
    refine ⟨b, off, rfl, lt (.cell b off) (MemPlace.mem_row.2 ⟨0, by omega, by simp⟩), fun j hj => ?_⟩
    rw [← add_plain]
    exact hcell j (by omega)

theorem weights_mem_all {H : Type} {P : Program} {e : TypeId} : ∀ {l : List (DataW H)} {d : DataW H}, d ∈ l → ∀ n ∈ d.weights P e, n ∈ DataW.weightsAll P e l
  | x :: r, d, h, n, hn => by
    simp only [DataW.weightsAll, List.mem_append]
    rcases List.mem_cons.1 h with rfl | h
    · exact Or.inl hn
    · exact Or.inr (weights_mem_all h n hn)
  | [], _, h, _, _ => by simp at h

/-- What is known of one level. -/
def LevelIs (W : World) (V : Value) (y : Option Addr × Nat × Nat × (Nat → Nat → Int)) : Prop :=
  V = .slice y.1 y.2.1 y.2.2.1 ∧ y.2.1 < 4611686018427387904 ∧ (∀ s i, 0 ≤ y.2.2.2 s i ∧ y.2.2.2 s i < 256) ∧
    (0 < y.2.1 → ∃ b off, y.1 = some ⟨b, off, none⟩ ∧ b < W.heap.size ∧ ∀ s i, s < y.2.1 → i < 32 → W.cell? ⟨b, off + s * 32 + i, none⟩ = some (.int .u8 (y.2.2.2 s i)))

theorem open61 {H : Type} {enc : TypeId × Value → H} {W : World} {V : Value} {d : DataW H} {p : List MemPlace} {fuel : Nat} (h : DataW.trod enc Try.prog W 0 (fun _ => true) true fuel 61 [V] = some (d, p))
    (lt : ∀ x ∈ p, x.block < W.heap.size) (hsz : ∀ n ∈ d.weights Try.prog 61, n ≤ reachBytes) : ∃ y, LevelIs W V y := by
  classical
  rcases Go.Deep.open_slice Try.underlying61 h with ⟨hcs, _⟩ | ⟨x, l, c, m, n, D, Pl, hcs, _, hl, hm, hmm, hx, hel⟩
  · simp only [List.cons.injEq, and_true] at hcs
    subst hcs
    exact ⟨(none, 0, 0, fun _ _ => 0), rfl, by decide, fun _ _ => ⟨by dsimp only; omega, by dsimp only; omega⟩, fun h => absurd h (by dsimp only; omega)⟩
  · simp only [List.cons.injEq, and_true] at hcs
    subst hcs
    simp only [cells60] at hel hx
    simp only [Prod.mk.injEq] at hx
    obtain ⟨hx1, hx2⟩ := hx
    subst hx1 hx2
    simp only [if_true] at hmm
    subst hmm
    have hw := hsz ((((List.range l).map D).length + ((List.range (m - l)).map fun j => D (l + j)).length) * Try.prog.bytesOf 60) (by simp [DataW.weights, Try.underlying61])
    rw [bytes60] at hw
    simp only [List.length_map, List.length_range] at hw
    have hr := reachBytes_lt
    have each : ∀ s i, s < l → i < 32 → ∃ z : Int, (0 ≤ z ∧ z < 256) ∧ W.cell? ((x.add (s * 32)).add i) = some (.int .u8 z) := by
      intro s i hs hi
      obtain ⟨cs', h1, h2⟩ := hel s (by omega)
      obtain ⟨_, hlen, hcell⟩ := World.cells?_some h1
      obtain ⟨xs, k, _, _, _, hxl, harr⟩ := DataW.trod_array Try.underlying60 h2
      have ha := harr i hi
      rw [List.getElem?_eq_getElem (by omega), cells5, Nat.mul_one] at ha
      obtain ⟨z, hz, _, hwf⟩ := DataW.trod_int Try.underlying5 ha
      simp [Lit.wf, IntKind.min, IntKind.max, IntKind.signed, IntKind.bits] at hwf
      refine ⟨z, ⟨by omega, by omega⟩, ?_⟩
      rw [hcell i hi]
      have : (cs'.drop i)[0]? = some (.int .u8 z) := by
        have := congrArg (fun l : List Value => l[0]?) hz
        simpa [List.getElem?_take] using this
      simpa using this
    refine ⟨(some x, l, m, fun s i => if hh : s < l ∧ i < 32 then Classical.choose (each s i hh.1 hh.2) else 0), rfl, by dsimp only; omega, fun s i => ?_, fun hl0 => ?_⟩
    · dsimp only
      split
      · next hh => exact (Classical.choose_spec (each s i hh.1 hh.2)).1
      · exact ⟨by omega, by omega⟩
    · dsimp only at hl0
      obtain ⟨b, off, spot⟩ := x
      obtain ⟨_, _, h00⟩ := each 0 0 hl0 (by omega)
      have hspot : spot = none := by simpa [Addr.add] using World.cell?_spot h00
      subst hspot
      refine ⟨b, off, rfl, lt (.cell b off) (List.mem_append_left _ (MemPlace.mem_row.2 ⟨0, by omega, by simp⟩)), fun s i hs hi => ?_⟩
      dsimp only at hs ⊢
      rw [dif_pos ⟨hs, hi⟩]
      have hadd : (⟨b, off + s * 32 + i, none⟩ : Addr) = ((⟨b, off, none⟩ : Addr).add (s * 32)).add i := by rw [add_plain, add_plain]
      rw [hadd]
      exact (Classical.choose_spec (each s i hs hi)).2

theorem open41 {H : Type} {enc : TypeId × Value → H} {W : World} {a : Option Addr} {len cap : Nat} {d : DataW H} {p : List MemPlace} (h : DataW.Trod enc Try.prog W 0 (fun _ => true) true 41 (.slice a len cap) d p)
    (hsz : ∀ n ∈ d.weights Try.prog 41, n ≤ reachBytes) :
    ∃ la ln lc bs, LevAt W a len la ln lc bs := by
  have lt : ∀ x ∈ p, x.block < W.heap.size := by obtain ⟨m, hm⟩ := h; exact DataW.trod_lt m _ _ _ hm
  obtain ⟨fuel, hf⟩ := h
  rcases Go.Deep.open_slice1 Try.underlying41 cells61 hf with ⟨hcs, _⟩ | ⟨x, l, c, m, n, V, D, Pl, hcs, _, hl, hm, hmm, hx, hel⟩
  · simp [Value.cells] at hcs
    obtain ⟨rfl, rfl, rfl⟩ := hcs
    exact ⟨fun _ => none, fun _ => 0, fun _ => 0, fun _ _ _ => 0, ⟨by omega, fun h => by omega⟩, fun _ => by omega, fun _ _ _ => ⟨by omega, by omega⟩, fun k hk => by omega⟩
  · simp [Value.cells] at hcs
    obtain ⟨rfl, rfl, rfl⟩ := hcs
    simp only [Prod.mk.injEq] at hx
    obtain ⟨rfl, rfl⟩ := hx
    simp only [if_true] at hmm
    subst hmm
    have hw := hsz ((((List.range len).map D).length + ((List.range (m - len)).map fun j => D (len + j)).length) * Try.prog.bytesOf 61) (by simp [DataW.weights, Try.underlying41])
    rw [bytes61] at hw
    simp only [List.length_map, List.length_range] at hw
    have hr := reachBytes_lt
    have each : ∀ k, k < len → ∃ y, LevelIs W (V k) y := fun k hk => by
      refine open61 (hel k (by omega)).2 (fun z hz => lt z (List.mem_append_right _ (List.mem_flatMap.2 ⟨k, List.mem_range.2 (by omega), hz⟩))) (fun z hz => hsz z ?_)
      simp only [DataW.weights, Try.underlying41, List.mem_cons, List.mem_append]
      exact Or.inr (Or.inl (weights_mem_all (List.mem_map.2 ⟨k, List.mem_range.2 hk, rfl⟩) z hz))
    obtain ⟨y, hy⟩ := Go.Deep.choose_lt (α := Option Addr × Nat × Nat × (Nat → Nat → Int)) each
    refine ⟨fun k => (y k).1, fun k => if k < len then (y k).2.1 else 0, fun k => (y k).2.2.1, fun k s i => if k < len then (y k).2.2.2 s i else 0, ⟨by omega, fun hn => ?_⟩, fun k => ?_, fun k s i => ?_, fun k hk hl => ?_⟩
    · obtain ⟨b, off, spot⟩ := x
      have hspot : spot = none := by simpa [Addr.add] using World.cell?_spot (hel 0 (by omega)).1
      subst hspot
      refine ⟨b, off, rfl, lt (.cell b off) (List.mem_append_left _ (MemPlace.mem_row.2 ⟨0, by omega, by simp⟩)), fun j hj => ?_⟩
      rw [← add_plain, (hel j (by omega)).1, (hy j hj).1]
      simp [hj]
    · split
      · next hk => exact (hy k hk).2.1
      · omega
    · split
      · next hk => exact (hy k hk).2.2.1 s i
      · exact ⟨by omega, by omega⟩
    · simp only [hk, if_true] at hl ⊢
      exact (hy k hk).2.2.2 hl

end Go.Proofs.Qxb6614063a
