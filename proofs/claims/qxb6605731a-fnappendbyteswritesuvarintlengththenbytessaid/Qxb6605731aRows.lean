/-
  No cell of these rows narrows 'for every input' (looked for: loops, veiled, ifaces, maps, wideKeys, modest, calm, conditions, laid).
  DERIVED. THE GIVEN ROWS OF THIS SEAT. 3 by the template 'for every input the law returns true; each argument reads behind the call as it read before'; 0 by the template 'total and deterministic' (their statements: Qxb6605731aTotals.lean).
  GIVEN WITH THE SEED: the statements are not yours to turn. If you find one false, say at which input.
  Laid BY PROGRAM, IN A SANDBOX (cutbox-rows.mjs): the forced cells as the released guide's own fill.sh prints them over the translation e0e3e394c21a25ad… (all of the seat's roots in one cut). By AI agents, Wed Nov 11 2026. No macro, syntax, notation, axiom, sorry.
-/
import Derived.Test.Qxb6605731aChecked
import GoSem.Claim
import GoSem.ClaimJoined
import GoSem.ClaimMapViews
import Derived.JoinedTies
import Derived.KernelRfl
namespace Go.Proofs.Qxb6605731a
/- THE CELL 'sum', in the pinned program and in every row, IS THE sha256 OF THE DUMP (.gsa) THAT Qxb6605731aProg.lean LOADS. Nothing in Lean hashes anything: it is a label: what it is worth is what the hold of that sum in a sandbox is worth. -/
noncomputable def Try.pinned : Pinned := { name := "qxb6605731a", sum := "e0e3e394c21a25ad23e9fae288dff356e813627710065c494e0aff5a3bc09686", checked := Try.checked }
namespace Rows
def none {H : Type} : Left H := { results := [], args := [] }

/-- 'zzlaws_internal_respcodec_b1.FnFieldSizeCountsSevenBitGroups': WHATEVER THE INPUT: true; the input reads as it did. -/
def fnFieldSizeCountsSevenBitGroupsSpec : ChangeSpec := { name := "fnFieldSizeCountsSevenBitGroups", fn := fun _ => fun
  | [d] => { results := [.lit (.bool true)], args := [d] }
  | _ => none }
def fnFieldSizeCountsSevenBitGroupsRow : OpenClaim := { program := "qxb6605731a", sum := "e0e3e394c21a25ad23e9fae288dff356e813627710065c494e0aff5a3bc09686", func := "example.com/post-once/post-once/zzlaws_internal_respcodec_b1.FnFieldSizeCountsSevenBitGroups", spec := "fnFieldSizeCountsSevenBitGroups", apart := false }
def FnFieldSizeCountsSevenBitGroupsSaid : Prop := fnFieldSizeCountsSevenBitGroupsRow.holds Try.pinned (OpenSpec.ofChange fnFieldSizeCountsSevenBitGroupsSpec)

/-- ITS FALSE NEIGHBOUR: 'it returns false'. Refute it at one input. -/
def fnFieldSizeCountsSevenBitGroupsWrong : ChangeSpec := { name := "fnFieldSizeCountsSevenBitGroups", fn := fun _ => fun
  | [d] => { results := [.lit (.bool false)], args := [d] }
  | _ => none }
def FnFieldSizeCountsSevenBitGroupsWrongFalsely : Prop := fnFieldSizeCountsSevenBitGroupsRow.holds Try.pinned (OpenSpec.ofChange fnFieldSizeCountsSevenBitGroupsWrong)

/-- 'zzlaws_internal_respcodec_b1.FnAppendBytesGrowsByFieldSize': WHATEVER THE INPUT: true; the input reads as it did. -/
def fnAppendBytesGrowsByFieldSizeSpec : ChangeSpec := { name := "fnAppendBytesGrowsByFieldSize", fn := fun _ => fun
  | [d1, d2] => { results := [.lit (.bool true)], args := [d1, d2] }
  | _ => none }
def fnAppendBytesGrowsByFieldSizeRow : OpenClaim := { program := "qxb6605731a", sum := "e0e3e394c21a25ad23e9fae288dff356e813627710065c494e0aff5a3bc09686", func := "example.com/post-once/post-once/zzlaws_internal_respcodec_b1.FnAppendBytesGrowsByFieldSize", spec := "fnAppendBytesGrowsByFieldSize", apart := false }
def FnAppendBytesGrowsByFieldSizeSaid : Prop := fnAppendBytesGrowsByFieldSizeRow.holds Try.pinned (OpenSpec.ofChange fnAppendBytesGrowsByFieldSizeSpec)

/-- ITS FALSE NEIGHBOUR: 'it returns false'. Refute it at one input. -/
def fnAppendBytesGrowsByFieldSizeWrong : ChangeSpec := { name := "fnAppendBytesGrowsByFieldSize", fn := fun _ => fun
  | [d1, d2] => { results := [.lit (.bool false)], args := [d1, d2] }
  | _ => none }
def FnAppendBytesGrowsByFieldSizeWrongFalsely : Prop := fnAppendBytesGrowsByFieldSizeRow.holds Try.pinned (OpenSpec.ofChange fnAppendBytesGrowsByFieldSizeWrong)

/-- 'zzlaws_internal_respcodec_b1.FnAppendBytesWritesUvarintLengthThenBytes': WHATEVER THE INPUT: true; the input reads as it did. -/
def fnAppendBytesWritesUvarintLengthThenBytesSpec : ChangeSpec := { name := "fnAppendBytesWritesUvarintLengthThenBytes", fn := fun _ => fun
  | [d1, d2] => { results := [.lit (.bool true)], args := [d1, d2] }
  | _ => none }
def fnAppendBytesWritesUvarintLengthThenBytesRow : OpenClaim := { program := "qxb6605731a", sum := "e0e3e394c21a25ad23e9fae288dff356e813627710065c494e0aff5a3bc09686", func := "example.com/post-once/post-once/zzlaws_internal_respcodec_b1.FnAppendBytesWritesUvarintLengthThenBytes", spec := "fnAppendBytesWritesUvarintLengthThenBytes", apart := false }
def FnAppendBytesWritesUvarintLengthThenBytesSaid : Prop := fnAppendBytesWritesUvarintLengthThenBytesRow.holds Try.pinned (OpenSpec.ofChange fnAppendBytesWritesUvarintLengthThenBytesSpec)

/-- ITS FALSE NEIGHBOUR: 'it returns false'. Refute it at one input. -/
def fnAppendBytesWritesUvarintLengthThenBytesWrong : ChangeSpec := { name := "fnAppendBytesWritesUvarintLengthThenBytes", fn := fun _ => fun
  | [d1, d2] => { results := [.lit (.bool false)], args := [d1, d2] }
  | _ => none }
def FnAppendBytesWritesUvarintLengthThenBytesWrongFalsely : Prop := fnAppendBytesWritesUvarintLengthThenBytesRow.holds Try.pinned (OpenSpec.ofChange fnAppendBytesWritesUvarintLengthThenBytesWrong)

end Rows
end Go.Proofs.Qxb6605731a
