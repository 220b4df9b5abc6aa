/-
  No cell of these rows narrows 'for every input' (looked for: loops, veiled, ifaces, maps, wideKeys, modest, calm, conditions, laid).
  DERIVED. THE GIVEN ROWS OF THIS SEAT. 4 by the template 'for every input the law returns true; each argument reads behind the call as it read before'; 0 by the template 'total and deterministic' (their statements: Qxb6605609aTotals.lean).
  GIVEN WITH THE SEED: the statements are not yours to turn. If you find one false, say at which input.
  Laid BY PROGRAM, IN A SANDBOX (cutbox-rows.mjs): the forced cells as the released guide's own fill.sh prints them over the translation f96ba81978b82cf1… (all of the seat's roots in one cut). By AI agents, Wed Nov 11 2026. No macro, syntax, notation, axiom, sorry.
-/
import Derived.Test.Qxb6605609aChecked
import GoSem.Claim
import GoSem.ClaimJoined
import GoSem.ClaimMapViews
import Derived.JoinedTies
import Derived.KernelRfl
namespace Go.Proofs.Qxb6605609a
/- THE CELL 'sum', in the pinned program and in every row, IS THE sha256 OF THE DUMP (.gsa) THAT Qxb6605609aProg.lean LOADS. Nothing in Lean hashes anything: it is a label: what it is worth is what the hold of that sum in a sandbox is worth. -/
noncomputable def Try.pinned : Pinned := { name := "qxb6605609a", sum := "f96ba81978b82cf121dbfafcf1acf6a52395dc7a697e3aed770e401e72577289", checked := Try.checked }
namespace Rows
def none {H : Type} : Left H := { results := [], args := [] }

/-- 'zzlaws_pkg_directory_b1.FnAppendDifferingExact': WHATEVER THE INPUT: true; the input reads as it did. -/
def fnAppendDifferingExactSpec : ChangeSpec := { name := "fnAppendDifferingExact", fn := fun _ => fun
  | [d1, d2, d3, d4, d5] => { results := [.lit (.bool true)], args := [d1, d2, d3, d4, d5] }
  | _ => none }
def fnAppendDifferingExactRow : OpenClaim := { program := "qxb6605609a", sum := "f96ba81978b82cf121dbfafcf1acf6a52395dc7a697e3aed770e401e72577289", func := "example.com/dearborn/dearborn/zzlaws_pkg_directory_b1.FnAppendDifferingExact", spec := "fnAppendDifferingExact", apart := false }
def FnAppendDifferingExactSaid : Prop := fnAppendDifferingExactRow.holds Try.pinned (OpenSpec.ofChange fnAppendDifferingExactSpec)

/-- ITS FALSE NEIGHBOUR: 'it returns false'. Refute it at one input. -/
def fnAppendDifferingExactWrong : ChangeSpec := { name := "fnAppendDifferingExact", fn := fun _ => fun
  | [d1, d2, d3, d4, d5] => { results := [.lit (.bool false)], args := [d1, d2, d3, d4, d5] }
  | _ => none }
def FnAppendDifferingExactWrongFalsely : Prop := fnAppendDifferingExactRow.holds Try.pinned (OpenSpec.ofChange fnAppendDifferingExactWrong)

/-- 'zzlaws_pkg_directory_b1.FnAppendDifferingOneKey': WHATEVER THE INPUT: true; the input reads as it did. -/
def fnAppendDifferingOneKeySpec : ChangeSpec := { name := "fnAppendDifferingOneKey", fn := fun _ => fun
  | [d1, d2, d3, d4] => { results := [.lit (.bool true)], args := [d1, d2, d3, d4] }
  | _ => none }
def fnAppendDifferingOneKeyRow : OpenClaim := { program := "qxb6605609a", sum := "f96ba81978b82cf121dbfafcf1acf6a52395dc7a697e3aed770e401e72577289", func := "example.com/dearborn/dearborn/zzlaws_pkg_directory_b1.FnAppendDifferingOneKey", spec := "fnAppendDifferingOneKey", apart := false }
def FnAppendDifferingOneKeySaid : Prop := fnAppendDifferingOneKeyRow.holds Try.pinned (OpenSpec.ofChange fnAppendDifferingOneKeySpec)

/-- ITS FALSE NEIGHBOUR: 'it returns false'. Refute it at one input. -/
def fnAppendDifferingOneKeyWrong : ChangeSpec := { name := "fnAppendDifferingOneKey", fn := fun _ => fun
  | [d1, d2, d3, d4] => { results := [.lit (.bool false)], args := [d1, d2, d3, d4] }
  | _ => none }
def FnAppendDifferingOneKeyWrongFalsely : Prop := fnAppendDifferingOneKeyRow.holds Try.pinned (OpenSpec.ofChange fnAppendDifferingOneKeyWrong)

/-- 'zzlaws_pkg_directory_b1.FnMembersFirstExact': WHATEVER THE INPUT: true; the input reads as it did. -/
def fnMembersFirstExactSpec : ChangeSpec := { name := "fnMembersFirstExact", fn := fun _ => fun
  | [d1, d2] => { results := [.lit (.bool true)], args := [d1, d2] }
  | _ => none }
def fnMembersFirstExactRow : OpenClaim := { program := "qxb6605609a", sum := "f96ba81978b82cf121dbfafcf1acf6a52395dc7a697e3aed770e401e72577289", func := "example.com/dearborn/dearborn/zzlaws_pkg_directory_b1.FnMembersFirstExact", spec := "fnMembersFirstExact", inPlace := ["internal/reflectlite.ValueOf", "internal/reflectlite.Swapper", "(internal/reflectlite.Value).Len"], unfollowed := true, recurses := true, apart := false }
def FnMembersFirstExactSaid : Prop := fnMembersFirstExactRow.holds Try.pinned (OpenSpec.ofChange fnMembersFirstExactSpec)

/-- ITS FALSE NEIGHBOUR: 'it returns false'. Refute it at one input. -/
def fnMembersFirstExactWrong : ChangeSpec := { name := "fnMembersFirstExact", fn := fun _ => fun
  | [d1, d2] => { results := [.lit (.bool false)], args := [d1, d2] }
  | _ => none }
def FnMembersFirstExactWrongFalsely : Prop := fnMembersFirstExactRow.holds Try.pinned (OpenSpec.ofChange fnMembersFirstExactWrong)

/-- 'zzlaws_pkg_directory_b1.FnMembersFirstMembersBefore': WHATEVER THE INPUT: true; the input reads as it did. -/
def fnMembersFirstMembersBeforeSpec : ChangeSpec := { name := "fnMembersFirstMembersBefore", fn := fun _ => fun
  | [d1, d2] => { results := [.lit (.bool true)], args := [d1, d2] }
  | _ => none }
def fnMembersFirstMembersBeforeRow : OpenClaim := { program := "qxb6605609a", sum := "f96ba81978b82cf121dbfafcf1acf6a52395dc7a697e3aed770e401e72577289", func := "example.com/dearborn/dearborn/zzlaws_pkg_directory_b1.FnMembersFirstMembersBefore", spec := "fnMembersFirstMembersBefore", inPlace := ["internal/reflectlite.ValueOf", "internal/reflectlite.Swapper", "(internal/reflectlite.Value).Len"], unfollowed := true, recurses := true, apart := false }
def FnMembersFirstMembersBeforeSaid : Prop := fnMembersFirstMembersBeforeRow.holds Try.pinned (OpenSpec.ofChange fnMembersFirstMembersBeforeSpec)

/-- ITS FALSE NEIGHBOUR: 'it returns false'. Refute it at one input. -/
def fnMembersFirstMembersBeforeWrong : ChangeSpec := { name := "fnMembersFirstMembersBefore", fn := fun _ => fun
  | [d1, d2] => { results := [.lit (.bool false)], args := [d1, d2] }
  | _ => none }
def FnMembersFirstMembersBeforeWrongFalsely : Prop := fnMembersFirstMembersBeforeRow.holds Try.pinned (OpenSpec.ofChange fnMembersFirstMembersBeforeWrong)

end Rows
end Go.Proofs.Qxb6605609a
