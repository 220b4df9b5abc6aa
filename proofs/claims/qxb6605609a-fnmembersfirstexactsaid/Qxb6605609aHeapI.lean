/-
  partHeap's METHODS THROUGH heap.Interface.
-/
import Derived.Test.Qxb6605609aHeapM
import Derived.Handy
namespace Go.Proofs.Qxb6605609a
open Go.RowKit

theorem loadP (hb : Nat) (v : Value) (w : World) (hc : w.cell? ⟨hb, 0, none⟩ = some v) : (loadVar 61 ⟨hb, 0, none⟩).run Try.prog w = .ok v w := by
  go_simp
theorem wrapChk (xt : TypeId) (a : Addr) (n1 n2 : String) : Builtin.ssaWrapNilChk_ #[xt] xt #[.pointer (some a), strVal n1, strVal n2] = pure (.pointer (some a)) := rfl

/-- A method with a value receiver, through a pointer to a partHeap. -/
theorem valMethod (name : String) (f : Nat) (hm : (Try.prog.info? 60).map (fun i => (i.methods.find? (·.name == name)).map (fun m => (m.path, m.func))) = some (some (#[], some (f, false)))) (hb : Nat) (v : Value) (w : World) (hc : w.cell? ⟨hb, 0, none⟩ = some v) :
    (method 246 60 (.pointer (some ⟨hb, 0, none⟩)) name).run Try.prog w = .ok (f, v) w := by
  cases hi : Try.prog.info? 60 with
  | none => rw [hi] at hm; cases hm
  | some i =>
    rw [hi] at hm
    simp only [Option.map_some, Option.some.injEq] at hm
    cases hf : i.methods.find? (·.name == name) with
    | none => rw [hf] at hm; cases hm
    | some m =>
      rw [hf] at hm
      simp only [Option.map_some, Option.some.injEq, Prod.mk.injEq] at hm
      have hl := loadP hb v w hc
      unfold method
      simp [typeInfo, hi, hf, hm.1, hm.2, follow, receiverAt, Place.get, wrapChk, asAddr]
      rw [hl]
      rfl

theorem mLen (hb : Nat) (v : Value) (w : World) (hc : w.cell? ⟨hb, 0, none⟩ = some v) : (method 246 60 (.pointer (some ⟨hb, 0, none⟩)) "Len").run Try.prog w = .ok (29, v) w := valMethod "Len" 29 (by kernel_rfl) hb v w hc
theorem mLess (hb : Nat) (v : Value) (w : World) (hc : w.cell? ⟨hb, 0, none⟩ = some v) : (method 246 60 (.pointer (some ⟨hb, 0, none⟩)) "Less").run Try.prog w = .ok (105, v) w := valMethod "Less" 105 (by kernel_rfl) hb v w hc
theorem mSwap (hb : Nat) (v : Value) (w : World) (hc : w.cell? ⟨hb, 0, none⟩ = some v) : (method 246 60 (.pointer (some ⟨hb, 0, none⟩)) "Swap").run Try.prog w = .ok (108, v) w := valMethod "Swap" 108 (by kernel_rfl) hb v w hc
theorem mPush (hb : Nat) (w : World) : (method 246 60 (.pointer (some ⟨hb, 0, none⟩)) "Push").run Try.prog w = .ok (107, .pointer (some ⟨hb, 0, none⟩)) w := by kernel_rfl
theorem mPop (hb : Nat) (w : World) : (method 246 60 (.pointer (some ⟨hb, 0, none⟩)) "Pop").run Try.prog w = .ok (106, .pointer (some ⟨hb, 0, none⟩)) w := by kernel_rfl

/-- The heap as an interface value. -/
def heapV (hb : Nat) : Value := .iface 60 (.pointer (some ⟨hb, 0, none⟩))

theorem wrap64_small {x : Int} (h1 : -9223372036854775808 ≤ x) (h2 : x < 9223372036854775808) : IntKind.i64.wrap x = x := by rw [IntKind.wrap_i64]; omega

/-- What heap.up makes of a list: its element j is let up. -/
def upL (l : List Nat) (j : Nat) : List Nat := if j = 0 ∨ ¬ l.getD j 0 < l.getD ((j - 1) / 2) 0 then l else upL (swp l ((j - 1) / 2) j) ((j - 1) / 2)
termination_by j
decreasing_by omega

set_option maxRecDepth 100000 in
set_option maxHeartbeats 400000 in
theorem up36 (lo hb : Nat) (v : Value) (l : List Nat) (j : Nat) (w : World) (h : HP w lo hb v l) (hj : j < l.length) (hlen : l.length ≤ 1048576) :
    Calls Try.prog 36 #[.iface 60 (.pointer (some ⟨hb, 0, none⟩)), .int .i64 (j : Int)] w fun e w' => e = .returned (.tuple #[]) ∧ HP w' lo hb v (upL l j) ∧ KB (HB hb v) w w' := by
  go_enter Try.func36, Try.ntmps36
  go_wp2_with fail
  go_loopw [1] (fun vi wr => ∃ (k : Nat) (l' : List Nat), Hid (l'.length = l.length) ∧ k < l.length ∧ vi = .int .i64 k ∧ Hid (HP wr lo hb v l') ∧ Hid (upL l' k = upL l j) ∧ KB (HB hb v) w wr) (fun vi _ => (intOf vi).toNat)
  case atStart => exact ⟨j, l, rfl, hj, rfl, h, rfl, KB.refl _ _⟩
  case round =>
    obtain ⟨k, l', hl', hk, rfl, hH, hup, hkb⟩ := hrel
    have hm1 := mLess hb v wr hH.out.cell
    by_cases hk0 : k = 0
    · subst hk0
      go_wp2_with fail
      go_end0
      have := hup.out
      rw [upL, if_pos (Or.inl rfl)] at this
      exact ⟨rfl, this ▸ hH.out, hkb⟩
    · obtain ⟨p, hp⟩ : ∃ p, p = (k - 1) / 2 := ⟨_, rfl⟩
      have Hp : Hid (p = (k - 1) / 2) := hp
      have hpk : p < k := by omega
      have hq : ((k : Int) - 1).tdiv 2 = (p : Int) := by
        rw [show ((k : Int) - 1) = ((k - 1 : Nat) : Int) by omega, hp]
        rfl
      have hq2 : IntKind.i64.wrap (((k : Int) - 1).tdiv 2) = (p : Int) := by rw [hq]; exact wrap64_small (by omega) (by omega)
      have hne : ((p : Int) == (k : Int)) = false := by simp; omega
      clear hp
      go_wp2_with fail
      refine (less105 lo v l' k p wr hH.out.own (by rw [hl'.out]; omega) (by rw [hl'.out]; omega)).mono ?_
      rintro e w1 ⟨rfl, hb1⟩
      have hH1 := hH.out.keep (KB.of (fun _ => False) hb1) (fun _ _ h => h) (fun h => h)
      have hkb1 := hkb.below hb1
      have hm2 := mSwap hb v w1 hH1.cell
      by_cases hlt : l'.getD k 0 < l'.getD p 0
      · have hd : decide (l'.getD k 0 < l'.getD p 0) = true := decide_eq_true hlt
        have Hlt : Hid (l'.getD k 0 < l'.getD p 0) := hlt
        have HH1 : Hid (HP w1 lo hb v l') := hH1
        rw [hd]
        clear hlt hd hH1
        go_wp2_with fail
        refine (swap108 lo hb v l' p k w1 HH1.out (by rw [hl'.out]; omega) (by rw [hl'.out]; omega)).mono ?_
        rintro e w2 ⟨rfl, hH2, hkb2⟩
        have HH2 : Hid (HP w2 lo hb v (swp l' p k)) := hH2
        have hkb3 := hkb1.trans hkb2 (fun k _ h => h)
        clear hH2
        go_wp2_with fail
        go_roundw
        case rel =>
          refine ⟨p, swp l' p k, by rw [swp_length]; exact hl'.out, by omega, rfl, HH2, ?_, hkb3⟩
          have := hup.out
          rw [upL, if_neg (by have := Hlt.out; have := Hp.out; subst this; omega)] at this
          rw [Hp.out]
          exact this
        case measure => simp [intOf]; omega
      · have hd : decide (l'.getD k 0 < l'.getD p 0) = false := decide_eq_false hlt
        have Hlt : Hid (¬ l'.getD k 0 < l'.getD p 0) := hlt
        have HH1 : Hid (HP w1 lo hb v l') := hH1
        rw [hd]
        clear hlt hd hH1
        go_wp2_with fail
        go_end0
        have := hup.out
        rw [upL, if_pos (Or.inr (by have := Hlt.out; have := Hp.out; subst this; omega))] at this
        exact ⟨rfl, this ▸ HH1.out, hkb1⟩

end Go.Proofs.Qxb6605609a
