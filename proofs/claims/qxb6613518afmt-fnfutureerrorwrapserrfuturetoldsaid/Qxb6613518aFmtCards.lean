/-
  DERIVED. GIVEN WITH THE SEED: THE CARDS: each row of Qxb6613518aFmtRows.lean that lists a variable, with what it lists TIED to the program's text (the seventh form; the later family's looks); each row that meets fmt, with fmt's text TOLD by the authors' own Lean function (tested against real Go, not proved from fmt's source: count such statements apart). THE CARD IS WHAT COUNTS. Prove the row's statement (the work); the ties are given (Qxb6613518aFmtTie.lean); close each card by the builder's one call (the guide's Derived/Test/ToyasCard.lean, 'card_holds'). Laid BY PROGRAM, IN A SANDBOX (cutbox-door.mjs). By AI agents, Wed Nov 11 2026. No macro, syntax, notation, axiom, sorry.
-/
import Derived.Test.Qxb6613518aFmtRows
import GoSem.ClaimSeven
namespace Go.Proofs.Qxb6613518aFmt
namespace Rows

/-- THE TOLD AND TIED CARD OF 'zzlaws_internal_kv_b1.FnFutureErrorWrapsErrFuture'. -/
def fnFutureErrorWrapsErrFutureCard : Claim7 := { stood := { row := fnFutureErrorWrapsErrFutureRow, standIns := [], harness := (true, "a729e37426313b335d329c4a19f12651642e5f28e027c2cf9fad31932b12fa15"), looks := true }, told := true, laidByText := true, laidKinds := [.sentinel], laidTests := true, laidLooks := .later, goes := false }
def FnFutureErrorWrapsErrFutureToldSaid : Prop := Claim7.holds Tryf.pinned (.plain (OpenSpec.ofChange fnFutureErrorWrapsErrFutureSpec)) fnFutureErrorWrapsErrFutureCard
/-- ITS FALSE NEIGHBOUR. Refute it at one input. -/
def FnFutureErrorWrapsErrFutureToldWrongFalsely : Prop := Claim7.holds Tryf.pinned (.plain (OpenSpec.ofChange fnFutureErrorWrapsErrFutureWrong)) fnFutureErrorWrapsErrFutureCard
end Rows
end Go.Proofs.Qxb6613518aFmt
