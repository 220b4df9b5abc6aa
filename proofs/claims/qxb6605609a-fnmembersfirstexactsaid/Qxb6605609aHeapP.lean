/-
  heap.Push; heap.Pop.
-/
import Derived.Test.Qxb6605609aHeapD
namespace Go.Proofs.Qxb6605609a
open Go.RowKit

theorem HPs.step {lo hb : Nat} {v v1 : Value} {l' : List Nat} {w w1 w2 : World} (h1 : KB (HB hb v) w w1) (hb1 : ∀ k, HB hb v1 k → HB hb v k ∨ w.heap.size ≤ k) (h2 : HP w2 lo hb v1 l') (h3 : KB (HB hb v1) w1 w2) : HPs lo hb v l' w w2 :=
  ⟨v1, h2, h1.trans h3 (fun k hk h => by rcases hb1 k h with h | h; exact h; omega), hb1⟩

set_option maxRecDepth 100000 in
set_option maxHeartbeats 400000 in
theorem push28 (lo hb x : Nat) (v : Value) (l : List Nat) (w : World) (h : HP w lo hb v l) (hl : l.length < 1048576) (hlo : lo ≤ w.heap.size) :
    Calls Try.prog 28 #[.iface 60 (.pointer (some ⟨hb, 0, none⟩)), .iface 3 (.int .i64 (x : Int))] w fun e w' => e = .returned (.tuple #[]) ∧ HPs lo hb v (upL (l ++ [x]) l.length) w w' := by
  have hm1 := mPush hb w
  go_enter Try.func28, Try.ntmps28
  go_wp2_with fail
  refine (push107 lo hb x v l w h hl hlo).mono ?_
  rintro e w1 ⟨rfl, v1, hH1, hkb1, hbk1⟩
  have hm2 := mLen hb v1 w1 hH1.cell
  have HH1 : Hid (HP w1 lo hb v1 (l ++ [x])) := hH1
  have Hbk1 : Hid (∀ k, HB hb v1 k → HB hb v k ∨ w.heap.size ≤ k) := hbk1
  clear hH1 hbk1
  go_wp2_with fail
  refine (len29 lo v1 (l ++ [x]) w1 HH1.out.own).mono ?_
  rintro e w2 ⟨rfl, rfl⟩
  rw [show ((l ++ [x]).length : Int) = (l.length : Int) + 1 by simp]
  go_wp2_with fail
  refine (up36 lo hb v1 (l ++ [x]) l.length w2 HH1.out (by simp) (by simp; omega)).mono ?_
  rintro e w3 ⟨rfl, hH3, hkb3⟩
  have Hres : Hid (HPs lo hb v (upL (l ++ [x]) l.length) w w3) := HPs.step hkb1 Hbk1.out hH3 hkb3
  clear hH3
  go_wp2_with fail
  go_end0
  exact ⟨rfl, Hres.out⟩

theorem downL_length (l : List Nat) (n i : Nat) : (downL l n i).length = l.length := by
  rw [downL]
  split
  · rfl
  · split
    · rw [downL_length, swp_length]
    · rfl
termination_by n - i
decreasing_by have := kid_gt l n i; omega

theorem down37' (lo hb : Nat) (v : Value) (l : List Nat) (i n : Nat) (w : World) (h : HP w lo hb v l) (hi : i ≤ n) (hn : n ≤ l.length) (hlen : l.length ≤ 1048576) {x : Int} (hx : x = i) :
    Calls Try.prog 37 #[.iface 60 (.pointer (some ⟨hb, 0, none⟩)), .int .i64 x, .int .i64 (n : Int)] w fun e w' => AnyBool e ∧ HP w' lo hb v (downL l n i) ∧ KB (HB hb v) w w' := by
  subst hx
  exact down37 lo hb v l i n w h hi hn hlen

set_option maxRecDepth 100000 in
set_option maxHeartbeats 400000 in
theorem pop30 (lo hb n x : Nat) (v : Value) (l l' : List Nat) (w : World) (h : HP w lo hb v l) (hl : l.length = n + 1) (hn : n < 1048576) (hd : downL (swp l 0 n) n 0 = l' ++ [x]) :
    Calls Try.prog 30 #[.iface 60 (.pointer (some ⟨hb, 0, none⟩))] w fun e w' => e = .returned (.iface 3 (.int .i64 (x : Int))) ∧ HPs lo hb v l' w w' := by
  have hm1 := mLen hb v w h.cell
  have Hd : Hid (downL (swp l 0 n) n 0 = l' ++ [x]) := hd
  have Hl : Hid (l.length = n + 1) := hl
  clear hd hl
  go_enter Try.func30, Try.ntmps30
  go_wp2_with fail
  refine (len29 lo v l w h.own).mono ?_
  rintro e w2 ⟨rfl, rfl⟩
  have hm2 := mSwap hb v w2 h.cell
  rw [show (l.length : Int) = (n : Int) + 1 by rw [Hl.out]; simp]
  go_wp2_with fail
  refine (swap108' lo hb v l 0 n w2 h (by rw [Hl.out]; omega) (by rw [Hl.out]; omega) (by omega) (by omega)).mono ?_
  rintro e w3 ⟨rfl, hH3, hkb3⟩
  have HH3 : Hid (HP w3 lo hb v (swp l 0 n)) := hH3
  clear hH3
  go_wp2_with fail
  refine (down37' lo hb v (swp l 0 n) 0 n w3 HH3.out (by omega) (by rw [swp_length, Hl.out]; omega) (by rw [swp_length, Hl.out]; omega) (by omega)).mono ?_
  rintro e w4 ⟨⟨b4, rfl⟩, hH4, hkb4⟩
  rw [Hd.out] at hH4
  have HH4 : Hid (HP w4 lo hb v (l' ++ [x])) := hH4
  have hm4 := mPop hb w4
  have hlen' : l'.length = n := by
    have := congrArg List.length Hd.out
    rw [downL_length, swp_length, Hl.out] at this
    simp at this
    omega
  have Hlen' : Hid (l'.length = n) := hlen'
  clear hH4 hlen'
  go_wp2_with fail
  refine (pop106 lo hb x v l' w4 HH4.out (by rw [Hlen'.out]; omega)).mono ?_
  rintro e w5 ⟨rfl, v5, hH5, hkb5, hbk5⟩
  have Hres : Hid (HPs lo hb v l' w2 w5) := ⟨v5, hH5, (hkb3.trans hkb4 (fun _ _ h => h)).trans hkb5 (fun _ _ h => h), fun k hk => by
    rcases hbk5 k hk with h | h
    · exact Or.inl h
    · exact Or.inr (Nat.le_trans (Nat.le_trans hkb3.size hkb4.size) h)⟩
  clear hH5 hbk5
  go_wp2_with fail
  go_ret
  exact ⟨rfl, Hres.out⟩

end Go.Proofs.Qxb6605609a
