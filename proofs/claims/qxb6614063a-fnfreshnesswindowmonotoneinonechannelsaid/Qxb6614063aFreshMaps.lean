/-
  THE MAPS OF THE FRESHNESS LAWS: zzB1Channels makes a map; (*Fleet).freshnessWindow ranges over it, in whatever order the tape gives.
-/
import Derived.Test.Qxb6614063aFreshTests
import Derived.Maps.RangeWalk
import Derived.Maps.Views
import Derived.RegionTactic
import Derived.BigRegion
namespace Go.Proofs.Qxb6614063a
open Go.RowKit Go.Maps Go.WideMaps

/-- How a Channel that the law makes reads: by its window alone. -/
def chan (c : Int) : Value := .agg #[.slice none 0 0, .int .i64 0, .int .i64 c]
def chanElem : Value → Option (DataW Unit × List MemPlace)
  | .agg cs => match cs.toList with
    | [.slice none 0 0, .int .i64 0, .int .i64 c] => some (.lit (.int .i64 c), [])
    | _ => none
  | _ => none
theorem chanElem_mk (c : Int) : chanElem (chan c) = some (.lit (.int .i64 c), []) := rfl
theorem chanElem_inv {v : Value} {y : DataW Unit × List MemPlace} (h : chanElem v = some y) : ∃ c, v = chan c ∧ y = (.lit (.int .i64 c), []) := by
  unfold chanElem at h
  split at h
  · rename_i cs
    split at h
    · rename_i c he
      cases h
      refine ⟨c, ?_, rfl⟩
      have : cs = #[.slice none 0 0, .int .i64 0, .int .i64 c] := by
        rw [← Array.toArray_toList (xs := cs), he]
      rw [this, chan]
    · cases h
  · cases h

theorem law9 : Keyed Try.prog 9 := string_keyed Try.underlying9
theorem keyStr {s : ByteArray} (hs : s.size ≤ maxLen) : keyOf Try.prog 9 (.string s) = some (.string s.data.toList) := keyOf_string_mk Try.underlying9 hs

/-- What the map holds: the windows lo .. hi - 1 at their names. -/
structure Holds (ss : Nat → ByteArray) (xs : Nat → Int) (lo hi : Nat) (D : DataW Unit) : Prop where
  isMap : IsMap D
  has : ∀ kl, Maps.has D kl = true → ∃ j, lo ≤ j ∧ j < hi ∧ kl = .string (ss j).data.toList
  at' : ∀ j, lo ≤ j → j < hi → ∀ z, D.atKey (.string (ss j).data.toList) z = .lit (.int .i64 (xs j))

theorem Holds.start (ss : Nat → ByteArray) (xs : Nat → Int) (lo : Nat) : Holds ss xs lo lo (.map []) :=
  ⟨isMap_empty, fun kl h => by simp [Maps.has] at h, fun j h1 h2 => by omega⟩

theorem data_ne {a b : ByteArray} (h : a ≠ b) : (Lit.string a.data.toList) ≠ .string b.data.toList := by
  intro e
  apply h
  injection e with e
  cases a; cases b
  simp at e
  simp [e]

theorem Holds.step {ss : Nat → ByteArray} {xs : Nat → Int} {lo hi : Nat} {D : DataW Unit} (h : Holds ss xs lo hi D) (hd : ∀ j, lo ≤ j → j < hi → ss j ≠ ss hi) (_hl : lo ≤ hi) : Holds ss xs lo (hi + 1) (D.put (.string (ss hi).data.toList) (.lit (.int .i64 (xs hi)))) := by
  refine ⟨h.isMap.put _ _, fun kl hk => ?_, fun j h1 h2 z => ?_⟩
  · by_cases e : kl = .string (ss hi).data.toList
    · exact ⟨hi, by omega, by omega, e⟩
    · rw [has_put_other e] at hk
      obtain ⟨j, j1, j2, j3⟩ := h.has kl hk
      exact ⟨j, j1, by omega, j3⟩
  · by_cases e : j = hi
    · subst e
      exact atKey_put_same (k := .string _) h.isMap trivial _ _
    · rw [atKey_put_other (data_ne (hd j h1 (by omega)))]
      exact h.at' j h1 (by omega) z

theorem makeMap36 (v : Int) (w : World) : (Instr.makeMap 36 (some (.int .i64 v))).run Try.prog w = .ok (.map (some w.heap.size)) (w.alloc (.map #[] 0)) := by kernel_rfl

set_option maxHeartbeats 400000 in
theorem channels14 (na wa : Option Addr) (n nc m mc lo hi : Nat) (ss : Nat → ByteArray) (xs : Nat → Int) (w : World) (hn : SlAt w na n fun j => .string (ss j)) (hm : SlAt w wa m fun j => .int .i64 (xs j)) (hs : ∀ j, (ss j).size ≤ maxLen)
    (h1 : lo ≤ hi) (h2 : hi ≤ n) (h3 : hi ≤ m) (hd : ∀ i j, i < j → j < n → ss i ≠ ss j) :
    Calls Try.prog 14 #[.slice na n nc, .slice wa m mc, .int .i64 lo, .int .i64 hi] w fun e w' => e = .returned (.map (some w.heap.size)) ∧ (∃ D, w'.ownsMap Try.prog 9 chanElem w.heap.size n D ∧ Holds ss xs lo hi D) ∧ Below w.heap.size w w' := by
  have hn0 := hn.small
  have hm0 := hm.small
  have hmk := makeMap36
  go_enter Try.func14, Try.ntmps14
  go_wp2
  go_loopw [10] (fun i wr => ∃ j : Nat, lo ≤ j ∧ j ≤ hi ∧ i = .int .i64 j ∧ (∃ D, wr.ownsMap Try.prog 9 chanElem w.heap.size (j - lo) D ∧ Holds ss xs lo j D) ∧ Below w.heap.size w wr) (fun i _ => hi - (intOf i).toNat)
  case atStart => exact ⟨lo, Nat.le_refl _, h1, rfl, ⟨_, (World.ownsMap_made _ _ _ _).mono (Nat.zero_le _), Holds.start ss xs lo⟩, (Below.refl _ _).alloc (Nat.le_refl _) _⟩
  case round =>
    obtain ⟨j, hj1, hj2, rfl, ⟨D, hown, hD⟩, hbl⟩ := hrel
    by_cases hlt : j < hi
    · obtain ⟨b1, o1, hb1, hix1, hc1'⟩ := hn.elem29 (k := j) (by omega) nc
      obtain ⟨b2, o2, hb2, hix2, hc2'⟩ := hm.elem30 (k := j) (by omega) mc
      have hc1 : wr.cell? ⟨b1, o1, none⟩ = some (.string (ss j)) := (hbl.cell (p := ⟨b1, o1, none⟩) hb1).trans hc1'
      have hc2 : wr.cell? ⟨b2, o2, none⟩ = some (.int .i64 (xs j)) := (hbl.cell (p := ⟨b2, o2, none⟩) hb2).trans hc2'
      have HD := hD.step (fun i hi1 hi2 => hd i j hi2 (by omega)) hj1
      obtain ⟨w1, hrun, hown1, hgrow1⟩ := World.ownsMap.update (w := wr.drew) hown law9 Try.underlying36 (by unfold maxLen; omega) (keyStr (hs j)) (chanElem_mk (xs j))
      have hbl1 : Below w.heap.size w w1 := hbl.drew.grown hgrow1 hbl.size (fun i hi => by cases hi; exact Nat.le_refl _)
      have hrun' : (Instr.mapUpdate 36 (.map (some w.heap.size)) (.string (ss j)) (.agg #[.slice none 0 0, .int .i64 0, .int .i64 (xs j)])).run Try.prog wr.drew = .ok () w1 := hrun
      clear hrun
      go_wp2
      go_region
      all_goals
        go_wp2
        go_roundw
        case rel => exact ⟨j + 1, by omega, by omega, by go_num, ⟨_, hown1.mono (by omega), HD⟩, hbl1⟩
        case measure => simp [intOf]; omega
    · go_wp2
      go_ret
      obtain rfl : j = hi := by omega
      exact ⟨rfl, ⟨D, hown.mono (by omega), hD⟩, hbl⟩
/-- What (*Fleet).freshnessWindow answers over such a map. -/
def MapWin (D : DataW Unit) (left : Lit → Bool) (z : Int) : Prop :=
  0 ≤ z ∧ z ≤ 9223372036854775807 ∧ (∀ kl c, left kl = false → (∀ zd, D.atKey kl zd = .lit (.int .i64 c)) → z ≤ minsOf c) ∧ (z = 9223372036854775807 ∨ ∃ kl c, Maps.has D kl = true ∧ (∀ zd, D.atKey kl zd = .lit (.int .i64 c)) ∧ z = minsOf c)

theorem MapWin.isWin {ss : Nat → ByteArray} {xs : Nat → Int} {lo hi : Nat} {D : DataW Unit} {left : Lit → Bool} {z : Int} (h : MapWin D left z) (hl : ∀ kl, left kl = false) (hD : Holds ss xs lo hi D) : IsWin xs lo hi z := by
  obtain ⟨_, h1, h2, h3⟩ := h
  refine ⟨h1, fun j j1 j2 => h2 _ _ (hl _) (hD.at' j j1 j2), ?_⟩
  rcases h3 with h3 | ⟨kl, c, hk, hc, e⟩
  · exact Or.inl h3
  · obtain ⟨j, j1, j2, rfl⟩ := hD.has kl hk
    refine Or.inr ⟨j, j1, j2, ?_⟩
    have e1 := (hc .nil).symm.trans (hD.at' j j1 j2 .nil)
    injection e1 with e1
    injection e1 with e1 e2
    rw [e, e2]

theorem MapWin.start (D : DataW Unit) : MapWin D (Maps.has D) 9223372036854775807 := by
  refine ⟨by omega, by omega, fun kl c hk hc => ?_, Or.inl rfl⟩
  rw [has_true_of_atKey hc] at hk
  cases hk

theorem MapWin.step {D : DataW Unit} {left : Lit → Bool} {z c : Int} {kl : Lit} (h : MapWin D left z) (hc : ∀ zd, D.atKey kl zd = .lit (.int .i64 c)) (h0 : 0 ≤ c) : MapWin D (fun x => left x && !x.sameKey kl) (if minsOf c < z then minsOf c else z) := by
  obtain ⟨g0, h1, h2, h3⟩ := h
  have m1 := minsOf_le c h0
  have m0 := minsOf_nonneg c h0
  refine ⟨by split <;> omega, by split <;> omega, fun x d hx hd => ?_, ?_⟩
  · simp only [Bool.and_eq_false_iff, Bool.not_eq_false'] at hx
    rcases hx with hx | hx
    · have := h2 x d hx hd
      split <;> omega
    · have e := WideAt.sameKey_eq hx
      subst e
      have e1 := (hc .nil).symm.trans (hd .nil)
      injection e1 with e1
      injection e1 with e1 e2
      subst e2
      split <;> omega
  · split
    · exact Or.inr ⟨kl, c, has_true_of_atKey hc, hc, rfl⟩
    · exact h3

theorem keyOf_inv9 (key : Value) (kl : Lit) (h : keyOf Try.prog 9 key = some kl) : ∃ x : ByteArray, key = .string x := by
  obtain ⟨s, rfl, _⟩ := string_of_keyOf Try.underlying9 h
  exact ⟨s, rfl⟩

def MapRes (D : DataW Unit) (e : Ending) : Prop := ∃ z left, e = .returned (.int .i64 z) ∧ (∀ kl, left kl = false) ∧ MapWin D left z

set_option maxHeartbeats 400000 in
theorem window28 (fb b n : Nat) (D : DataW Unit) (w : World) (hown : w.ownsMap Try.prog 9 chanElem b n D) (hc : w.cell? ⟨fb, 2, none⟩ = some (.map (some b))) (hnn : ∀ kl c, (∀ zd, D.atKey kl zd = .lit (.int .i64 c)) → 0 ≤ c) :
    Calls Try.prog 28 #[.pointer (some ⟨fb, 0, none⟩)] w fun e w' => MapRes D e ∧ Below w.heap.size w w' := by
  go_enter Try.func28, Try.ntmps28
  go_wp2_with (first
    | (at_range; refine wpList_range_own _ rfl _ 36 rfl 9 83 law9 Try.underlying36 _ b n _ rfl hown ?_; intro w0 hrg0 hg0 hs0)
    | go_in)
  go_frame
  go_loopw [3] (fun t wr => ∃ (left : Lit → Bool) (cnt : Nat) (z : Int), t = .int .i64 z ∧ wr.ranges Try.prog 9 chanElem b w.heap.size n D left cnt ∧ MapWin D left z ∧ Below w.heap.size w wr) (fun _ wr => wr.rangeLeft b w.heap.size)
  case atStart => exact ⟨_, _, _, rfl, hrg0, MapWin.start D, (Below.refl _ _).grown hg0 (Nat.le_refl _) (fun j hj => by cases hj)⟩
  case round =>
    obtain ⟨left, cnt, z, rfl, hrg, hmw, hbl⟩ := hrel
    go_wp2_with (first
      | (at_next; refine wpList_next_ranges _ rfl _ rfl 9 law9 chanElem Value.string chan keyOf_inv9 (fun v y hv => by obtain ⟨c, rfl, _⟩ := chanElem_inv hv; exact ⟨c, rfl⟩) b w.heap.size n _ _ _ rfl hrg ?_ ?_)
      | go_in)
    · intro hc0 hl0
      go_wp2
      go_ret
      exact ⟨⟨z, left, rfl, hl0, hmw⟩, hbl⟩
    · intro x c kl y ps w1 cnt1 hkey hlk hy hat hrg1 hlt hg1 hs1 hen
      have hen' : (Instr.entry (.pointer (some ⟨w.heap.size, 0, none⟩))).run Try.prog w1 = .ok (.tuple #[.string x, .agg #[.slice none 0 0, .int .i64 0, .int .i64 c]]) w1 := hen
      have hy1 : y = .lit (.int .i64 c) := by
        rw [chanElem_mk] at hy
        cases hy; rfl
      have hat' : ∀ zd, D.atKey kl zd = .lit (.int .i64 c) := fun zd => (hat zd).trans hy1
      have hc0 := hnn kl c hat'
      have HW : Hid (MapWin D (fun x => left x && !x.sameKey kl) (if minsOf c < z then minsOf c else z)) := hmw.step hat' hc0
      have hbl1 : Below w.heap.size w w1 := hbl.grown hg1 hbl.size (fun j hj => by cases hj; exact Nat.le_refl _)
      clear hen hy hat hy1 hat' hmw hkey hlk
      have hrg2 := hrg1.alloc (.cells #[.slice none 0 0, .int .i64 0, .int .i64 c] 83)
      have hbl2 := hbl1.alloc (hbl1.size) (.cells #[.slice none 0 0, .int .i64 0, .int .i64 c] 83)
      go_wp2_with fail
      refine (minutes31 c _ hc0).mono ?_
      rintro e w' ⟨rfl, rfl⟩
      go_wp2_with fail
      go_roundw
      case rel => exact ⟨_, _, _, rfl, hrg2, HW.out, hbl2⟩
      case measure => rw [hrg2.left_eq, hrg.left_eq]; exact hlt

set_option maxHeartbeats 400000 in
theorem fleet13 (b n lo hi : Nat) (ss : Nat → ByteArray) (xs : Nat → Int) (D : DataW Unit) (w : World) (hown : w.ownsMap Try.prog 9 chanElem b n D) (hD : Holds ss xs lo hi D) (h0 : ∀ j, j < hi → 0 ≤ xs j) :
    Calls Try.prog 13 #[.map (some b)] w fun e w' => WinRes xs lo hi e ∧ Below w.heap.size w w' := by
  have hnn : ∀ kl c, (∀ zd, D.atKey kl zd = .lit (.int .i64 c)) → 0 ≤ c := fun kl c hc => by
    obtain ⟨j, j1, j2, rfl⟩ := hD.has kl (has_true_of_atKey hc)
    have e1 := (hc .nil).symm.trans (hD.at' j j1 j2 .nil)
    injection e1 with e1
    injection e1 with e1 e2
    rw [e2]; exact h0 j j2
  have Hnn : Hid (∀ kl c, (∀ zd, D.atKey kl zd = .lit (.int .i64 c)) → 0 ≤ c) := hnn
  clear hnn
  go_enter Try.func13, Try.ntmps13
  go_wp2_with fail
  refine (window28 _ b n D _ (hown.alloc _) ?_ Hnn.out).mono ?_
  · go_simp
  rintro e w' ⟨⟨z, left, rfl, hl, hz⟩, hb⟩
  have HW : Hid (IsWin xs lo hi z) := hz.isWin hl hD
  have hb1 := ((Below.refl w.heap.size w).alloc (Nat.le_refl _) _).trans (hb.mono (by simp))
  go_wp2
  go_ret
  exact ⟨⟨z, rfl, HW.out⟩, hb1⟩

end Go.Proofs.Qxb6614063a
