/-
  zzMembersFirstModel, whole.
-/
import Derived.Test.Qxb6605609aMd0
import Derived.Test.Qxb6605609aMd7
import Derived.Test.Qxb6605609aMd27
import Derived.Test.Qxb6605609aMd33
namespace Go.Proofs.Qxb6605609a
open Go.RowKit

theorem model21 {w : World} {ga ca : Option Addr} {gc cc n : Nat} {va : Nat → Option Addr} {vc : Nat → Nat} {adj : Nat → List Nat} {cf : Nat → Nat} {Post : Ending → World → Prop} (hM : MD w ga n va vc adj ca cf) (hE : EndsC w adj cf n Post) :
    Calls Try.prog 21 #[.slice ga n gc, .slice ca n cc] w Post :=
  model0 hM (model2 hM (model7 hM (model27 hM (model33 hM hE))))

end Go.Proofs.Qxb6605609a
