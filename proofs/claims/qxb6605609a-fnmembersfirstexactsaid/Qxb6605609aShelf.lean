/-
  THE SHELF'S CONTRACT FOR sort.Strings AT THIS PROGRAM (written by the kit's lay-shelf.mjs and lay-plain.mjs; what is not used is left out).
-/
import Derived.Shelf.Sort.Plain
import Derived.Shelf.Slices.In.SortNone2
import Derived.Test.Qxb6605609aRows
namespace Go.Proofs
open Go.Shelf
def Try.lays192_ren : Go.Shelf.Ren := ⟨fun | 192 => 33 | 190 => 38 | 125 => 42 | 258 => 44 | 128 => 54 | 129 => 55 | 302 => 64 | 303 => 65 | 304 => 66 | 305 => 67 | 306 => 68 | 307 => 69 | 308 => 70 | 309 => 71 | 310 => 72 | 333 => 78 | 329 => 79 | 330 => 80 | 334 => 81 | 335 => 82 | 336 => 83 | 344 => 85 | n => n, fun | 31 => 22 | 0 => 0 | 9 => 9 | 3 => 3 | 46 => 84 | 51 => 93 | 53 => 95 | 4 => 4 | 183 => 105 | 182 => 104 | 131 => 54 | 5 => 5 | 218 => 117 | 222 => 115 | 228 => 124 | 229 => 122 | n => n, fun | n => n⟩
theorem Try.lays192 : Go.Proofs.Lays.n192 Try.prog Try.lays192_ren := {
  mixed := by kernel_rfl
  f125 := Try.func42.trans (congrArg some (by kernel_rfl))
  f128 := Try.func54.trans (congrArg some (by kernel_rfl))
  f129 := Try.func55.trans (congrArg some (by kernel_rfl))
  f190 := Try.func38.trans (congrArg some (by kernel_rfl))
  f192 := Try.func33.trans (congrArg some (by kernel_rfl))
  f258 := Try.func44.trans (congrArg some (by kernel_rfl))
  f302 := Try.func64.trans (congrArg some (by kernel_rfl))
  f303 := Try.func65.trans (congrArg some (by kernel_rfl))
  f304 := Try.func66.trans (congrArg some (by kernel_rfl))
  f305 := Try.func67.trans (congrArg some (by kernel_rfl))
  f306 := Try.func68.trans (congrArg some (by kernel_rfl))
  f307 := Try.func69.trans (congrArg some (by kernel_rfl))
  f308 := Try.func70.trans (congrArg some (by kernel_rfl))
  f309 := Try.func71.trans (congrArg some (by kernel_rfl))
  f310 := Try.func72.trans (congrArg some (by kernel_rfl))
  f329 := Try.func79.trans (congrArg some (by kernel_rfl))
  f330 := Try.func80.trans (congrArg some (by kernel_rfl))
  f333 := Try.func78.trans (congrArg some (by kernel_rfl))
  f334 := Try.func81.trans (congrArg some (by kernel_rfl))
  f335 := Try.func82.trans (congrArg some (by kernel_rfl))
  f336 := Try.func83.trans (congrArg some (by kernel_rfl))
  f344 := Try.func85.trans (congrArg some (by kernel_rfl))
  t0 := Try.underlying0
  a0 := Try.isAgg0
  z0 := Try.sizeOf0
  v0 := Try.zeroValue0
  t3 := Try.underlying3
  a3 := Try.isAgg3
  z3 := Try.sizeOf3
  v3 := Try.zeroValue3
  t4 := Try.underlying4
  a4 := Try.isAgg4
  z4 := Try.sizeOf4
  v4 := Try.zeroValue4
  t5 := Try.underlying5
  a5 := Try.isAgg5
  z5 := Try.sizeOf5
  v5 := Try.zeroValue5
  t9 := Try.underlying9
  a9 := Try.isAgg9
  z9 := Try.sizeOf9
  v9 := Try.zeroValue9
  t31 := Try.underlying22
  a31 := Try.isAgg22
  z31 := Try.sizeOf22
  v31 := Try.zeroValue22
  t46 := Try.underlying84
  a46 := Try.isAgg84
  z46 := Try.sizeOf84
  v46 := Try.zeroValue84
  t51 := Try.underlying93
  a51 := Try.isAgg93
  z51 := Try.sizeOf93
  v51 := Try.zeroValue93
  t53 := Try.underlying95
  a53 := Try.isAgg95
  z53 := Try.sizeOf95
  v53 := Try.zeroValue95
  t131 := Try.underlying54
  a131 := Try.isAgg54
  z131 := Try.sizeOf54
  v131 := Try.zeroValue54
  t182 := Try.underlying104
  a182 := Try.isAgg104
  z182 := Try.sizeOf104
  v182 := Try.zeroValue104
  t183 := Try.underlying105
  a183 := Try.isAgg105
  z183 := Try.sizeOf105
  v183 := Try.zeroValue105
  t218 := Try.underlying117
  a218 := Try.isAgg117
  z218 := Try.sizeOf117
  v218 := Try.zeroValue117
  t222 := Try.underlying115
  a222 := Try.isAgg115
  z222 := Try.sizeOf115
  v222 := Try.zeroValue115
  t228 := Try.underlying124
  a228 := Try.isAgg124
  z228 := Try.sizeOf124
  v228 := Try.zeroValue124
  t229 := Try.underlying122
  a229 := Try.isAgg122
  z229 := Try.sizeOf122
  v229 := Try.zeroValue122 }
open Go.Sort Go.RowKit in
theorem Try.sort_Strings (blk off cap : Nat) (ss : List (List UInt8)) (w : World) (hH : Holds encStr w blk off ss.toArray) (hblk : blk < w.heap.size) (hsz : ss.length < 4611686018427387904) :
    Calls Try.prog 33 #[.slice (some ⟨blk, off, none⟩) ss.length cap] w fun e w' =>
      e = .returned (.tuple #[]) ∧ ∃ n os, w' = grow (putRow encStr (Sort.ahead w n) blk off (ss.mergeSort fun x y => decide (x ≤ y)).toArray) os := Any.sort_Strings Try.lays192 blk off cap ss w hH hblk hsz
end Go.Proofs
