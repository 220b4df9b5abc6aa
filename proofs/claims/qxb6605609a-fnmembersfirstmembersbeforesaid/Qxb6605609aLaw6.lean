/-
  FnMembersFirstMembersBefore, whole.
-/
import Derived.Test.Qxb6605609aLa
import Derived.Test.Qxb6605609aL19
import Derived.Test.Qxb6605609aL45
import Derived.Test.Qxb6605609aLd
import Derived.Test.Qxb6605609aLp
namespace Go.Proofs.Qxb6605609a
open Go.RowKit

theorem law6 (a a1 : Option Addr) (n0 n1 c c1 : Nat) (ss : Nat → ByteArray) (la : Nat → Option Addr) (ln lc : Nat → Nat) (ms : Nat → Nat → ByteArray) (w : World) (hs : SlAt w a n0 fun j => .string (ss j)) (hL : Lists w a1 n1 la ln lc ms) (hb : ∀ j, (ss j).size ≤ maxLen) (hmb : ∀ k j, (ms k j).size ≤ maxLen) :
    Calls Try.prog 6 #[.slice a n0 c, .slice a1 n1 c1] w fun e w' => e = .returned (.bool true) ∧ Below w.heap.size w w' :=
  law0 a a1 n0 n1 c c1 hs hL hb hmb (fun _ h => ⟨rfl, h⟩)
    (law12 hb hmb (fun _ _ _ hcf => ⟨fun hno => none_ok hcf hno, fun _ _ _ _ h1 h2 => told_ok hcf (fun _ _ hj => adjL_lt hj) h1 h2⟩)
      (law19 hb (law45 hb hmb (law56 (fun _ h => ⟨rfl, h⟩)))))

end Go.Proofs.Qxb6605609a
