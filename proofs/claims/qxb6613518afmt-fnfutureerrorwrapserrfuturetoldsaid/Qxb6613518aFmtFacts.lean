/-
  THE CLOSED FACTS FOR A WALK OVER fmt's STOPPED FRONT 'fmt.errorf' in this seat's program (after the pattern of a generated facts text): each by the kernel's own evaluation.
-/
import Derived.Test.Qxb6613518aFmtProg
import Derived.Stop.CallBack
import Derived.Stop.IfaceNil
import GoSem.ClaimData
namespace Go.Proofs.Qxb6613518aFmt
open Go.Extern.Stop Go.Stop Go.Extern

-- fmt.errorf: function 9: a plain stop
@[go_sem] theorem call9 (args : Array Value) (w : World) : (callFunc 9 args).run Tryf.prog w = ((FmtStop.errorf #[9, 33] #[23] args).run Tryf.prog w).andThen fun v w' => .ok (.value v) w' :=
  run_callFunc_extern Tryf.func9 (by kernel_rfl) (by kernel_rfl) (by kernel_rfl) (by kernel_rfl) args w

@[go_sem] theorem guardNil (name : String) (w : World) : (FmtStop.guard name).run Tryf.prog w = .ok () w := by kernel_rfl

@[go_sem] theorem fmt0 : FmtStop.printed? ⟨#[37, 119, 58, 32, 37, 100, 44, 32, 119, 104, 105, 108, 101, 32, 116, 104, 101, 32, 115, 116, 111, 114, 101, 32, 105, 115, 32, 97, 116, 32, 37, 100]⟩ 3 = some [(0, 119, false), (1, 100, false), (2, 100, false)] := by kernel_rfl
@[go_sem] theorem fmt0r (w : World) : (FmtDoors.printed ⟨#[37, 119, 58, 32, 37, 100, 44, 32, 119, 104, 105, 108, 101, 32, 116, 104, 101, 32, 115, 116, 111, 114, 101, 32, 105, 115, 32, 97, 116, 32, 37, 100]⟩ 3).run Tryf.prog w = .ok [(0, 119, false), (1, 100, false), (2, 100, false)] w := by kernel_rfl

-- type 2: int64
def shape2 : List UInt8 := [5, 5, 0, 0, 0, 0, 0, 0, 0, 105, 110, 116, 54, 52]
@[go_sem] theorem op2_100w (name : String) (x : Int) (w : World) : (FmtStop.operand name true 100 false (.iface 2 (.int .i64 x))).run Tryf.prog w = .ok (shape2, Go.Extern.Stop.digits 8 (x % 2 ^ 64).toNat) w := by kernel_rfl

-- the two error types that fmt.errorf makes
@[go_sem] theorem ptr47 (w : World) : (FmtStop.ptrTo "errors.errorString").run Tryf.prog w = .ok 47 w := by kernel_rfl
@[go_sem] theorem elem47 (w : World) : (elemOf 47).run Tryf.prog w = .ok 49 w := by kernel_rfl
@[go_sem] theorem isError47 (w : World) : (FmtDoors.textMethod 47 "Error").run Tryf.prog w = .ok true w := by kernel_rfl
def plain47 : List UInt8 := 14 :: FmtStop.pack "*errors.errorString".toUTF8.data.toList
theorem opPlain47_119w (name : String) (a : Addr) (s : ByteArray) (w : World) (hc : w.cell? a = some (.string s)) :
    (FmtStop.operand name true 119 false (.iface 47 (.pointer (some a)))).run Tryf.prog w = .ok (plain47, s.data.toList) w := by
  have h1 : (typeStr 47).run Tryf.prog w = .ok "*errors.errorString" w := by kernel_rfl
  have d2 : Tryf.t47.desc = .pointer 49 := rfl
  have d3 : Tryf.t49.desc = .named "errors.errorString" 48 := rfl
  simp [FmtStop.operand, h1, d2, d3, run_load, hc, plain47]
@[go_sem] theorem ptr35 (w : World) : (FmtStop.ptrTo "fmt.wrapError").run Tryf.prog w = .ok 35 w := by kernel_rfl
@[go_sem] theorem elem35 (w : World) : (elemOf 35).run Tryf.prog w = .ok 74 w := by kernel_rfl
@[go_sem] theorem isError35 (w : World) : (FmtDoors.textMethod 35 "Error").run Tryf.prog w = .ok true w := by kernel_rfl

end Go.Proofs.Qxb6613518aFmt
