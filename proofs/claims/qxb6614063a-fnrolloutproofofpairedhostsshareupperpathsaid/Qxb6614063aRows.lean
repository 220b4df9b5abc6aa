/-
  No cell of these rows narrows 'for every input' (looked for: loops, veiled, ifaces, maps, wideKeys, modest, calm, conditions, laid).
  DERIVED. THE GIVEN ROWS OF THIS SEAT. 6 by the template 'for every input the law returns true; each argument reads behind the call as it read before'; 0 by the template 'total and deterministic' (their statements: Qxb6614063aTotals.lean).
  GIVEN WITH THE SEED: the statements are not yours to turn. If you find one false, say at which input.
  Laid BY PROGRAM, IN A SANDBOX (cutbox-rows.mjs): the forced cells as the released guide's own fill.sh prints them over the translation 3f54c682ac28c8b8… (all of the seat's roots in one cut). By AI agents, Wed Nov 11 2026. No macro, syntax, notation, axiom, sorry.
-/
import Derived.Test.Qxb6614063aChecked
import GoSem.Claim
import GoSem.ClaimJoined
import GoSem.ClaimMapViews
import Derived.JoinedTies
import Derived.KernelRfl
namespace Go.Proofs.Qxb6614063a
/- THE CELL 'sum', in the pinned program and in every row, IS THE sha256 OF THE DUMP (.gsa) THAT Qxb6614063aProg.lean LOADS. Nothing in Lean hashes anything: it is a label: what it is worth is what the hold of that sum in a sandbox is worth. -/
noncomputable def Try.pinned : Pinned := { name := "qxb6614063a", sum := "3f54c682ac28c8b8ae80d40b0f243b5de2570a062ce8918af7e41490706649db", checked := Try.checked }
namespace Rows
def none {H : Type} : Left H := { results := [], args := [] }

/-- 'zzlaws_internal_artifact_b1.FnLimitHundredMoreHostsAddPct': WHATEVER THE INPUT: true; the input reads as it did. -/
def fnLimitHundredMoreHostsAddPctSpec : ChangeSpec := { name := "fnLimitHundredMoreHostsAddPct", fn := fun _ => fun
  | [d1, d2, d3] => { results := [.lit (.bool true)], args := [d1, d2, d3] }
  | _ => none }
def fnLimitHundredMoreHostsAddPctRow : OpenClaim := { program := "qxb6614063a", sum := "3f54c682ac28c8b8ae80d40b0f243b5de2570a062ce8918af7e41490706649db", func := "example.com/keelward/keelward/zzlaws_internal_artifact_b1.FnLimitHundredMoreHostsAddPct", spec := "fnLimitHundredMoreHostsAddPct", apart := false }
def FnLimitHundredMoreHostsAddPctSaid : Prop := fnLimitHundredMoreHostsAddPctRow.holds Try.pinned (OpenSpec.ofChange fnLimitHundredMoreHostsAddPctSpec)

/-- ITS FALSE NEIGHBOUR: 'it returns false'. Refute it at one input. -/
def fnLimitHundredMoreHostsAddPctWrong : ChangeSpec := { name := "fnLimitHundredMoreHostsAddPct", fn := fun _ => fun
  | [d1, d2, d3] => { results := [.lit (.bool false)], args := [d1, d2, d3] }
  | _ => none }
def FnLimitHundredMoreHostsAddPctWrongFalsely : Prop := fnLimitHundredMoreHostsAddPctRow.holds Try.pinned (OpenSpec.ofChange fnLimitHundredMoreHostsAddPctWrong)

/-- 'zzlaws_internal_artifact_b1.FnLimitPercentIsSymmetricFloor': WHATEVER THE INPUT: true; the input reads as it did. -/
def fnLimitPercentIsSymmetricFloorSpec : ChangeSpec := { name := "fnLimitPercentIsSymmetricFloor", fn := fun _ => fun
  | [d1, d2, d3] => { results := [.lit (.bool true)], args := [d1, d2, d3] }
  | _ => none }
def fnLimitPercentIsSymmetricFloorRow : OpenClaim := { program := "qxb6614063a", sum := "3f54c682ac28c8b8ae80d40b0f243b5de2570a062ce8918af7e41490706649db", func := "example.com/keelward/keelward/zzlaws_internal_artifact_b1.FnLimitPercentIsSymmetricFloor", spec := "fnLimitPercentIsSymmetricFloor", apart := false }
def FnLimitPercentIsSymmetricFloorSaid : Prop := fnLimitPercentIsSymmetricFloorRow.holds Try.pinned (OpenSpec.ofChange fnLimitPercentIsSymmetricFloorSpec)

/-- ITS FALSE NEIGHBOUR: 'it returns false'. Refute it at one input. -/
def fnLimitPercentIsSymmetricFloorWrong : ChangeSpec := { name := "fnLimitPercentIsSymmetricFloor", fn := fun _ => fun
  | [d1, d2, d3] => { results := [.lit (.bool false)], args := [d1, d2, d3] }
  | _ => none }
def FnLimitPercentIsSymmetricFloorWrongFalsely : Prop := fnLimitPercentIsSymmetricFloorRow.holds Try.pinned (OpenSpec.ofChange fnLimitPercentIsSymmetricFloorWrong)

/-- 'zzlaws_internal_artifact_b1.FnFreshnessWindowOfJoinedFleetIsMinOfParts': WHATEVER THE INPUT: true; the input reads as it did. -/
def fnFreshnessWindowOfJoinedFleetIsMinOfPartsSpec : ChangeSpec := { name := "fnFreshnessWindowOfJoinedFleetIsMinOfParts", fn := fun _ => fun
  | [d1, d2, d3] => { results := [.lit (.bool true)], args := [d1, d2, d3] }
  | _ => none }
def fnFreshnessWindowOfJoinedFleetIsMinOfPartsRow : OpenClaim := { program := "qxb6614063a", sum := "3f54c682ac28c8b8ae80d40b0f243b5de2570a062ce8918af7e41490706649db", func := "example.com/keelward/keelward/zzlaws_internal_artifact_b1.FnFreshnessWindowOfJoinedFleetIsMinOfParts", spec := "fnFreshnessWindowOfJoinedFleetIsMinOfParts", apart := false }
def FnFreshnessWindowOfJoinedFleetIsMinOfPartsSaid : Prop := fnFreshnessWindowOfJoinedFleetIsMinOfPartsRow.holds Try.pinned (OpenSpec.ofChange fnFreshnessWindowOfJoinedFleetIsMinOfPartsSpec)

/-- ITS FALSE NEIGHBOUR: 'it returns false'. Refute it at one input. -/
def fnFreshnessWindowOfJoinedFleetIsMinOfPartsWrong : ChangeSpec := { name := "fnFreshnessWindowOfJoinedFleetIsMinOfParts", fn := fun _ => fun
  | [d1, d2, d3] => { results := [.lit (.bool false)], args := [d1, d2, d3] }
  | _ => none }
def FnFreshnessWindowOfJoinedFleetIsMinOfPartsWrongFalsely : Prop := fnFreshnessWindowOfJoinedFleetIsMinOfPartsRow.holds Try.pinned (OpenSpec.ofChange fnFreshnessWindowOfJoinedFleetIsMinOfPartsWrong)

/-- 'zzlaws_internal_artifact_b1.FnFreshnessWindowMonotoneInOneChannel': WHATEVER THE INPUT: true; the input reads as it did. -/
def fnFreshnessWindowMonotoneInOneChannelSpec : ChangeSpec := { name := "fnFreshnessWindowMonotoneInOneChannel", fn := fun _ => fun
  | [d1, d2, d3, d4] => { results := [.lit (.bool true)], args := [d1, d2, d3, d4] }
  | _ => none }
def fnFreshnessWindowMonotoneInOneChannelRow : OpenClaim := { program := "qxb6614063a", sum := "3f54c682ac28c8b8ae80d40b0f243b5de2570a062ce8918af7e41490706649db", func := "example.com/keelward/keelward/zzlaws_internal_artifact_b1.FnFreshnessWindowMonotoneInOneChannel", spec := "fnFreshnessWindowMonotoneInOneChannel", apart := false }
def FnFreshnessWindowMonotoneInOneChannelSaid : Prop := fnFreshnessWindowMonotoneInOneChannelRow.holds Try.pinned (OpenSpec.ofChange fnFreshnessWindowMonotoneInOneChannelSpec)

/-- ITS FALSE NEIGHBOUR: 'it returns false'. Refute it at one input. -/
def fnFreshnessWindowMonotoneInOneChannelWrong : ChangeSpec := { name := "fnFreshnessWindowMonotoneInOneChannel", fn := fun _ => fun
  | [d1, d2, d3, d4] => { results := [.lit (.bool false)], args := [d1, d2, d3, d4] }
  | _ => none }
def FnFreshnessWindowMonotoneInOneChannelWrongFalsely : Prop := fnFreshnessWindowMonotoneInOneChannelRow.holds Try.pinned (OpenSpec.ofChange fnFreshnessWindowMonotoneInOneChannelWrong)

/-- 'zzlaws_internal_artifact_b1.FnRolloutProofOfPairedHostsShareUpperPath': WHATEVER THE INPUT: true; the input reads as it did. -/
def fnRolloutProofOfPairedHostsShareUpperPathSpec : ChangeSpec := { name := "fnRolloutProofOfPairedHostsShareUpperPath", fn := fun _ => fun
  | [d1, d2, d3, d4, d5, d6, d7, d8, d9] => { results := [.lit (.bool true)], args := [d1, d2, d3, d4, d5, d6, d7, d8, d9] }
  | _ => none }
def fnRolloutProofOfPairedHostsShareUpperPathRow : OpenClaim := { program := "qxb6614063a", sum := "3f54c682ac28c8b8ae80d40b0f243b5de2570a062ce8918af7e41490706649db", func := "example.com/keelward/keelward/zzlaws_internal_artifact_b1.FnRolloutProofOfPairedHostsShareUpperPath", spec := "fnRolloutProofOfPairedHostsShareUpperPath", inPlace := ["internal/bytealg.abigen_runtime_cmpstring"], unfollowed := true, recurses := true, apart := false }
def FnRolloutProofOfPairedHostsShareUpperPathSaid : Prop := fnRolloutProofOfPairedHostsShareUpperPathRow.holds Try.pinned (OpenSpec.ofChange fnRolloutProofOfPairedHostsShareUpperPathSpec)

/-- ITS FALSE NEIGHBOUR: 'it returns false'. Refute it at one input. -/
def fnRolloutProofOfPairedHostsShareUpperPathWrong : ChangeSpec := { name := "fnRolloutProofOfPairedHostsShareUpperPath", fn := fun _ => fun
  | [d1, d2, d3, d4, d5, d6, d7, d8, d9] => { results := [.lit (.bool false)], args := [d1, d2, d3, d4, d5, d6, d7, d8, d9] }
  | _ => none }
def FnRolloutProofOfPairedHostsShareUpperPathWrongFalsely : Prop := fnRolloutProofOfPairedHostsShareUpperPathRow.holds Try.pinned (OpenSpec.ofChange fnRolloutProofOfPairedHostsShareUpperPathWrong)

/-- 'zzlaws_internal_artifact_b1.FnRolloutProofFindsExactlyItsEntries': WHATEVER THE INPUT: true; the input reads as it did. -/
def fnRolloutProofFindsExactlyItsEntriesSpec : ChangeSpec := { name := "fnRolloutProofFindsExactlyItsEntries", fn := fun _ => fun
  | [d1, d2, d3, d4, d5, d6, d7, d8, d9] => { results := [.lit (.bool true)], args := [d1, d2, d3, d4, d5, d6, d7, d8, d9] }
  | _ => none }
def fnRolloutProofFindsExactlyItsEntriesRow : OpenClaim := { program := "qxb6614063a", sum := "3f54c682ac28c8b8ae80d40b0f243b5de2570a062ce8918af7e41490706649db", func := "example.com/keelward/keelward/zzlaws_internal_artifact_b1.FnRolloutProofFindsExactlyItsEntries", spec := "fnRolloutProofFindsExactlyItsEntries", inPlace := ["internal/bytealg.abigen_runtime_cmpstring"], unfollowed := true, recurses := true, apart := false }
def FnRolloutProofFindsExactlyItsEntriesSaid : Prop := fnRolloutProofFindsExactlyItsEntriesRow.holds Try.pinned (OpenSpec.ofChange fnRolloutProofFindsExactlyItsEntriesSpec)

/-- ITS FALSE NEIGHBOUR: 'it returns false'. Refute it at one input. -/
def fnRolloutProofFindsExactlyItsEntriesWrong : ChangeSpec := { name := "fnRolloutProofFindsExactlyItsEntries", fn := fun _ => fun
  | [d1, d2, d3, d4, d5, d6, d7, d8, d9] => { results := [.lit (.bool false)], args := [d1, d2, d3, d4, d5, d6, d7, d8, d9] }
  | _ => none }
def FnRolloutProofFindsExactlyItsEntriesWrongFalsely : Prop := fnRolloutProofFindsExactlyItsEntriesRow.holds Try.pinned (OpenSpec.ofChange fnRolloutProofFindsExactlyItsEntriesWrong)

end Rows
end Go.Proofs.Qxb6614063a
