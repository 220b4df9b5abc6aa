/-
  THE SHELF'S CONTRACT FOR encoding/binary.AppendUvarint AT THIS PROGRAM (written by the kit's lay-shelf.mjs and lay-plain.mjs; what is not used is left out).
-/
import Derived.Shelf.Bin.AppendUvarintArg
import Derived.Test.Qxb6605731aRows
namespace Go.Proofs
open Go.Shelf
def Try.laysBin47_ren : Go.Shelf.Ren := ⟨fun | 47 => 14 | n => n, fun | 22 => 26 | 33 => 22 | 4 => 4 | 5 => 5 | 45 => 23 | n => n, fun | n => n⟩
theorem Try.laysBin47 : Go.Proofs.LaysBin.n47 Try.prog Try.laysBin47_ren := {
  mixed := by kernel_rfl
  f47 := Try.func14.trans (congrArg some (by kernel_rfl))
  t4 := Try.underlying4
  a4 := Try.isAgg4
  z4 := Try.sizeOf4
  v4 := Try.zeroValue4
  i4 := by kernel_rfl
  t5 := Try.underlying5
  a5 := Try.isAgg5
  z5 := Try.sizeOf5
  v5 := Try.zeroValue5
  i5 := by kernel_rfl
  t22 := Try.underlying26
  a22 := Try.isAgg26
  z22 := Try.sizeOf26
  v22 := Try.zeroValue26
  i22 := by kernel_rfl
  t33 := Try.underlying22
  a33 := Try.isAgg22
  z33 := Try.sizeOf22
  v33 := Try.zeroValue22
  i33 := by kernel_rfl
  t45 := Try.underlying23
  a45 := Try.isAgg23
  z45 := Try.sizeOf23
  v45 := Try.zeroValue23
  i45 := by kernel_rfl }
open Go.RowKit in
/-- binary.AppendUvarint, buf A SLICE THAT CAME IN ('Came W0 ..'), onto which m bytes ('ks') have been appended so far: BEHIND THE CALL: x's VARINT BESIDES ('Lib.uvarint x': at most ten bytes). (LAID: no walk: one application.) -/
theorem Try.binary_AppendUvarint_arg (W0 : World) (ao : Option Addr) (b off len cap : Nat) (olds : List Value) (hc : Came W0 1 ao b off len cap olds) (x : Nat) (hx : x < 18446744073709551616) (sv : Value) (m : Nat) (ks : List Value) (w : World) (honto : Onto W0 5 1 ao b off len cap olds w sv m ks) (hlim : len + m + 10 ≤ 140737488355328) :
    Calls Try.prog 14 #[sv, .int .u64 x] w fun e w' => ∃ v', e = .returned v' ∧ Onto W0 5 1 ao b off len cap olds w' v' (m + (Lib.uvarint x).length) (ks ++ Lib.byteCells (Lib.uvarint x)) := Any.binary_AppendUvarint_arg Try.laysBin47 W0 ao b off len cap olds hc x hx sv m ks w honto hlim
end Go.Proofs
