/-
  NARROWER THAN 'FOR EVERY INPUT', by the rows' own cells (each row's printed sentence says how): FnFutureErrorWrapsErrFuture: ifaces, laid.
  DERIVED. THE GIVEN ROWS OF THIS SEAT. 1 by the template 'for every input the law returns true; each argument reads behind the call as it read before'; 0 by the template 'total and deterministic' (their statements: Qxb6613518aFmtTotals.lean).
  GIVEN WITH THE SEED: the statements are not yours to turn. If you find one false, say at which input.
  Laid BY PROGRAM, IN A SANDBOX (cutbox-rows.mjs): the forced cells as the released guide's own fill.sh prints them over the translation 2105ed57cc202eec… (all of the seat's roots in one cut). By AI agents, Wed Nov 11 2026. No macro, syntax, notation, axiom, sorry.
-/
import Derived.Test.Qxb6613518aFmtChecked
import GoSem.Claim
import GoSem.ClaimJoined
import GoSem.ClaimMapViews
import Derived.JoinedTies
import Derived.KernelRfl
namespace Go.Proofs.Qxb6613518aFmt
/- THE CELL 'sum', in the pinned program and in every row, IS THE sha256 OF THE DUMP (.gsa) THAT Qxb6613518aFmtProg.lean LOADS. Nothing in Lean hashes anything: it is a label: what it is worth is what the hold of that sum in a sandbox is worth. -/
noncomputable def Tryf.pinned : Pinned := { name := "qxb6613518afmt", sum := "2105ed57cc202eecc36146cdaa34b485826024f5e0ad8dcfab5a5c812304df7c", checked := Tryf.checked }
namespace Rows
def none {H : Type} : Left H := { results := [], args := [] }

/- WHAT THE LISTED PACKAGE-LEVEL VARIABLES READ AS WHEN THE CALL BEGINS. Each datum BY PROGRAM (the guide's laid-datum.mjs) off the statement by which the dump's own 'gosem.cut.vars' lays the variable. In a bare row this is a premise. The card (Qxb6613518aFmtCards.lean) ties it to the program's text. -/
def laid_example_com_watchline_watchline_internal_kv_ErrFuture {H : Type} : DataW H := .iface "*errors.errorString" (.ptr (.agg [.lit (.string [114, 101, 118, 105, 115, 105, 111, 110, 32, 110, 111, 116, 32, 121, 101, 116, 32, 114, 101, 97, 99, 104, 101, 100])]))

/-- 'zzlaws_internal_kv_b1.FnFutureErrorWrapsErrFuture': WHATEVER THE INPUT: true; the input reads as it did. -/
def fnFutureErrorWrapsErrFutureSpec : ChangeSpec := { name := "fnFutureErrorWrapsErrFuture", vars := ["example.com/watchline/watchline/internal/kv.ErrFuture"], fn := fun _ => fun
  | [d1, d2, g1] => { results := [.lit (.bool true)], args := [d1, d2], vars := [g1] }
  | _ => none }
def fnFutureErrorWrapsErrFutureRow : OpenClaim := { program := "qxb6613518afmt", sum := "2105ed57cc202eecc36146cdaa34b485826024f5e0ad8dcfab5a5c812304df7c", func := "example.com/watchline/watchline/zzlaws_internal_kv_b1.FnFutureErrorWrapsErrFuture", spec := "fnFutureErrorWrapsErrFuture", stops := ["fmt.errorf"], inPlace := ["fmt.errorf", "internal/reflectlite.TypeOf"], unfollowed := true, recurses := true, named := ["example.com/watchline/watchline/internal/kv.ErrFuture"], ifaces := true, apart := false, laid := [("example.com/watchline/watchline/internal/kv.ErrFuture", laid_example_com_watchline_watchline_internal_kv_ErrFuture)] }
/-- NO THEOREM (fmt's text is open here; it may be false): for the released tool's asking of the row's closed facts alone. THE STATEMENT IS 'FnFutureErrorWrapsErrFutureToldSaid' (Qxb6613518aFmtCards.lean). -/
def FnFutureErrorWrapsErrFutureFormAsk : Prop := fnFutureErrorWrapsErrFutureRow.holds Tryf.pinned (OpenSpec.ofChange fnFutureErrorWrapsErrFutureSpec)

/-- ITS FALSE NEIGHBOUR: 'it returns false'. Refute it at one input. -/
def fnFutureErrorWrapsErrFutureWrong : ChangeSpec := { name := "fnFutureErrorWrapsErrFuture", vars := ["example.com/watchline/watchline/internal/kv.ErrFuture"], fn := fun _ => fun
  | [d1, d2, g1] => { results := [.lit (.bool false)], args := [d1, d2], vars := [g1] }
  | _ => none }
def FnFutureErrorWrapsErrFutureWrongFormAsk : Prop := fnFutureErrorWrapsErrFutureRow.holds Tryf.pinned (OpenSpec.ofChange fnFutureErrorWrapsErrFutureWrong)

end Rows
end Go.Proofs.Qxb6613518aFmt
