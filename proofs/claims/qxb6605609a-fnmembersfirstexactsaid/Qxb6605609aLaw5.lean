/-
  FnMembersFirstExact, whole.
-/
import Derived.Test.Qxb6605609aLe0
import Derived.Test.Qxb6605609aLe12
import Derived.Test.Qxb6605609aUq
namespace Go.Proofs.Qxb6605609a
open Go.RowKit

theorem law5 (a a1 : Option Addr) (n0 n1 c c1 : Nat) (ss : Nat → ByteArray) (la : Nat → Option Addr) (ln lc : Nat → Nat) (ms : Nat → Nat → ByteArray) (w : World) (hs : SlAt w a n0 fun j => .string (ss j)) (hL : Lists w a1 n1 la ln lc ms) (hb : ∀ j, (ss j).size ≤ maxLen) (hmb : ∀ k j, (ms k j).size ≤ maxLen) :
    Calls Try.prog 5 #[.slice a n0 c, .slice a1 n1 c1] w fun e w' => e = .returned (.bool true) ∧ Below w.heap.size w w' :=
  exact0 a a1 n0 n1 c c1 hs hL hb hmb (fun _ h => ⟨rfl, h⟩)
    (exact12 hb hmb (fun _ _ _ hcf => ⟨fun hno => ⟨none_ok hcf hno, same_none hcf hno⟩, fun _ _ _ _ h1 h2 h3 => ⟨told_ok hcf (fun _ _ hj => adjL_lt hj) h1 h2, same_told hcf (fun _ _ hj => adjL_lt hj) h1 h2 h3⟩⟩)
      (fun _ h => ⟨rfl, h⟩))

end Go.Proofs.Qxb6605609a
