/-
  membersFirst, whole.
-/
import Derived.Test.Qxb6605609aMf64
import Derived.Test.Qxb6605609aMf31
import Derived.Test.Qxb6605609aMf7
import Derived.Test.Qxb6605609aCyc27
namespace Go.Proofs.Qxb6605609a
open Go.RowKit
variable {w : World} {cb n : Nat} {gb : Nat → Nat} {ss : Nat → ByteArray} {la : Nat → Option Addr} {ln lc : Nat → Nat} {ms : Nat → Nat → ByteArray} {Post : Ending → World → Prop}

/-- Every place has the least of its component. -/
theorem exists_leastOf (adj : Nat → List Nat) {n x : Nat} (hx : x < n) : ∃ m, LeastOf adj n x m := by
  obtain ⟨m, ⟨h1, h2⟩, h3⟩ := exists_least (p := fun m => m < n ∧ Scc adj x m) ⟨x, hx, .refl _, .refl _⟩
  exact ⟨m, h1, h2, fun y hy hs => h3 y ⟨hy, hs⟩⟩

theorem mf25 {cf : Nat → Nat} {ok : List Nat → Prop} {Hp : List Nat → Prop} {le : Nat → Nat → Prop} (hM : MF w cb n gb ss la ln lc ms) (hcf : ∀ x, x < n → LeastOf (adjL ss n ln ms) n x (cf x)) (hL : HeapLaw Hp le) (hE : Ends w gb ok Post)
    (hok0 : (∀ i, adjL ss n ln ms i = []) → ok (List.range n))
    (hok : ∀ (wl hol : Nat → List Nat) (D : List Nat) (ws : Nat → Int), Waits (adjL ss n ln ms) cf n (rnk cf n) wl hol → Kahn (rnk cf n) wl D [] [] ws → Lst le (rnk cf n) wl D → ok (D.flatMap (partL cf n)) ∧ (D.flatMap (partL cf n)).length ≤ 4096) :
    Calls Try.prog 25 #[.slice (some ⟨cb, 0, none⟩) n n] w Post :=
  stage1 hM (stage7 hM hE hok0 (stage21 hcf (fun w' cb' sz la' lc' hk hex => cyc27 w' cb' sz n ss (adjL ss n ln ms) la' lc' hk hex) (stage31 hM hcf (stage43 hM hcf (stage64 hM hcf (fun _ _ hj => adjL_lt hj) hL hE hok)))))

theorem zz19 {Q : Ending → World → Prop} {v : Value} (h : Calls Try.prog 25 #[v] w Q) (hQ : ∀ e w', Q e w' → ∃ u, e = .returned u) : Calls Try.prog 19 #[v] w Q := by
  go_enter Try.func19, Try.ntmps19
  go_wp2_with fail
  refine h.mono ?_
  intro e w' he
  obtain ⟨u, rfl⟩ := hQ e w' he
  have He : Hid (Q (.returned u) w') := he
  clear he
  go_wp2_with fail
  exact He.out

end Go.Proofs.Qxb6605609a
