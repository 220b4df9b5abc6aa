/-
  errors.Is BY ITS CONTRACT, at a *fmt.wrapError that wraps the target itself (a sentinel of errors.New's make): Go's own text of errors.Is and errors.is is walked. After the guide's worked text on toys/sentry, at this program's numbers.
  THE NUMBERS: types 23: error, 47: *errors.errorString, 49: errors.errorString, 35: *fmt.wrapError, 37: reflectlite's rtype, 39, 42, 44: the three interfaces that errors.is asserts; functions 5: errors.Is, 7: reflectlite.TypeOf, 31: (rtype).Comparable, 27: (*fmt.wrapError).Unwrap; one package-level variable.
-/
import Derived.Test.Qxb6613518aFmtChecked
import Derived.WalkKit
import Derived.LaidEql
import Derived.Stop.Asserts
import Derived.RowKitTokens
namespace Go.Proofs.Qxb6613518aFmt
open Go.RowKit Go.Extern.Stop Go.Stop Go.Extern

theorem isTypeOf (v : Value) (w : World) : (Extern.ReflectliteType.typeOf #[.iface 47 v]).run Tryf.prog w = .ok (.iface 37 (.agg #[.pointer (some ⟨1, 47, none⟩)])) w := by kernel_rfl
theorem isComparable (w : World) : (callFunc 31 #[.agg #[.pointer (some ⟨1, 47, none⟩)]]).run Tryf.prog w = .ok (.value (.bool true)) w := by kernel_rfl
theorem isMethodComparable (v : Value) (w : World) : (Go.method 189 37 v "Comparable").run Tryf.prog w = .ok (31, v) w := by kernel_rfl
theorem isComp : (Tryf.prog.info? 47).map (·.comparable) = some true := by kernel_rfl
theorem isSize : (Tryf.prog.info? 49).map (·.size) = some 1 := by kernel_rfl

theorem noIsE (v : Value) (xT : TypeId) (w : World) : (Instr.typeAssert (.iface 47 v) xT 39 true).run Tryf.prog w = .ok (.tuple #[.nilIface, .bool false]) w := run_typeAssert_lacksB Tryf.underlying39 (by kernel_rfl) (by kernel_rfl) v xT w
theorem noUnwrapE (v : Value) (xT : TypeId) (w : World) : (Instr.typeAssert (.iface 47 v) xT 42 true).run Tryf.prog w = .ok (.tuple #[.nilIface, .bool false]) w := run_typeAssert_lacksB Tryf.underlying42 (by kernel_rfl) (by kernel_rfl) v xT w
theorem noUnwrapsE (v : Value) (xT : TypeId) (w : World) : (Instr.typeAssert (.iface 47 v) xT 44 true).run Tryf.prog w = .ok (.tuple #[.nilIface, .bool false]) w := run_typeAssert_lacksB Tryf.underlying44 (by kernel_rfl) (by kernel_rfl) v xT w
theorem noIsW (v : Value) (xT : TypeId) (w : World) : (Instr.typeAssert (.iface 35 v) xT 39 true).run Tryf.prog w = .ok (.tuple #[.nilIface, .bool false]) w := run_typeAssert_lacksB Tryf.underlying39 (by kernel_rfl) (by kernel_rfl) v xT w
theorem hasUnwrapW (v : Value) (xT : TypeId) (w : World) : (Instr.typeAssert (.iface 35 v) xT 42 true).run Tryf.prog w = .ok (.tuple #[.iface 35 v, .bool true]) w := run_typeAssert_hasB Tryf.underlying42 (by kernel_rfl) v xT w
theorem methodUnwrap (v : Value) (w : World) : (Go.method 189 35 v "Unwrap").run Tryf.prog w = .ok (27, v) w := by kernel_rfl

/-- errors.Is(e, x), e a *fmt.wrapError that wraps x itself: one Unwrap, then equal. -/
theorem is_wrap_same (pb po : Nat) (b : Addr) (w : World) (h1 : w.cell? ⟨pb, po + 1, none⟩ = some (.iface 47 (.pointer (some b)))) :
    Calls Tryf.prog 5 #[.iface 35 (.pointer (some ⟨pb, po, none⟩)), .iface 47 (.pointer (some b))] w fun e w' => e = .returned (.bool true) ∧ w' = w := by
  obtain ⟨i, hi, hcmp⟩ := Option.map_eq_some_iff.1 isComp
  obtain ⟨j, hj, hjs⟩ := Option.map_eq_some_iff.1 isSize
  have h8 := @run_callFunc_extern Tryf.prog 7 _ Extern.ReflectliteType.typeOf Tryf.func7 (by kernel_rfl) (by kernel_rfl) (by kernel_rfl) (by kernel_rfl)
  have tT := isTypeOf
  have cT := isComparable
  have mR := isMethodComparable
  have nE := noIsE
  have uE := noUnwrapE
  have vE := noUnwrapsE
  have nW := noIsW
  have uW := hasUnwrapW
  have mU := methodUnwrap
  have heq := run_eql_iface_ptr_same (P := Tryf.prog) w b Tryf.underlying23 Tryf.underlying47 hi hcmp hj
  have hty := run_eql_iface_types (P := Tryf.prog) 35 47 (.pointer (some ⟨pb, po, none⟩)) (.pointer (some b)) Tryf.underlying23 (by decide) w
  go_enter Tryf.func5, Tryf.ntmps5
  go_wp2
  refine wp_loop_rounds 2 ?_
  rw [rounds_succ]
  go_wp2
  rw [rounds_succ]
  go_wp2
  go_ret
  exact ⟨rfl, rfl⟩

end Go.Proofs.Qxb6613518aFmt
