/-
  THE WALKS: 'kv.FutureError' (a '%w' of the sentinel and two integers, through fmt.Errorf), and the law itself: each callee by its contract.
-/
import Derived.Test.Qxb6613518aFmtFacts
import Derived.Test.Qxb6613518aFmtIs
import Derived.WalkSpells
import Derived.Deep.RegionWith
namespace Go.Proofs.Qxb6613518aFmt
open Go.RowKit Go.Extern.Stop Go.Stop Go.Extern

/-- What fmt is asked. -/
def askedOf (n m : Int) (s : ByteArray) : List (List UInt8) :=
  [[37, 119, 58, 32, 37, 100, 44, 32, 119, 104, 105, 108, 101, 32, 116, 104, 101, 32, 115, 116, 111, 114, 101, 32, 105, 115, 32, 97, 116, 32, 37, 100], plain47, s.data.toList, shape2, digits 8 (n % 18446744073709551616).toNat, shape2, digits 8 (m % 18446744073709551616).toNat]

theorem future_any (F : Interp) (n m : Int) (a : Addr) (s : ByteArray) (w : World) (hF : F.answers w.tape) (hg : w.cell? ⟨0, 0, none⟩ = some (.iface 47 (.pointer (some a))))
    (hs : (w.alloc (.cells #[.iface 47 (.pointer (some a)), .iface 2 (.int .i64 n), .iface 2 (.int .i64 m)] 20)).cell? a = some (.string s)) :
    Calls Tryf.prog 4 #[.int .i64 n, .int .i64 m] w fun e w' => e = .returned (.iface 35 (.pointer (some ⟨w.heap.size + 1, 0, none⟩))) ∧ w' = ((w.alloc (.cells #[.iface 47 (.pointer (some a)), .iface 2 (.int .i64 n), .iface 2 (.int .i64 m)] 20)).alloc (.cells #[.string (FmtStop.textOf (F "fmt.errorf" (askedOf n m s) 0)), .iface 47 (.pointer (some a))] 74)).drew := by
  have hF' := answers_open hF
  have hop := opPlain47_119w "fmt.errorf" a s _ hs
  go_enter Tryf.func4, Tryf.ntmps4
  go_wp2
  go_ret
  exact ⟨rfl, rfl⟩

end Go.Proofs.Qxb6613518aFmt
