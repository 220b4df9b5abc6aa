/-
  THE TOLD AND TIED CARD 'Rows.FnFutureErrorWrapsErrFutureToldSaid', PROVED: the law's walk out of the contracts; the row's step at fmt's told text; the card by the builder of a row that is told and tied.
-/
import Derived.Test.Qxb6613518aFmtRoad
import Derived.Test.Qxb6613518aFmtCards
import Derived.Test.Qxb6613518aFmtTie
import Derived.ProofKit
import Derived.Stop.JoinedAt
import Derived.Stop.JoinedTold
import Derived.Stop.Texts
import Derived.Stop.LaidErr
import Derived.SevenTiedAt
namespace Go.Proofs.Qxb6613518aFmt
open Go.ChangeShapes Go.WideShapes Go.ChangeAt Go.RowKit Go.Kit
open Go.Extern.Stop Go.Stop Go.Extern

/-! ### The law's walk -/
theorem law_walk (F : Interp) (n m : Int) (a : Addr) (s : ByteArray) (w : World) (hF : F.answers w.tape) (hg : w.cell? ⟨0, 0, none⟩ = some (.iface 47 (.pointer (some a)))) (hs : w.cell? a = some (.string s)) :
    Calls Tryf.prog 3 #[.int .i64 n, .int .i64 m] w fun e w' => e = .returned (.bool true) ∧ ∃ t : ByteArray, w'.Alike (((w.alloc (.cells #[.iface 47 (.pointer (some a)), .iface 2 (.int .i64 n), .iface 2 (.int .i64 m)] 20)).alloc (.cells #[.string t, .iface 47 (.pointer (some a))] 74)).drew) := by
  go_enter Tryf.func3, Tryf.ntmps3
  go_wp2_with fail
  refine (future_any F n m a s _ hF hg (cell?_alloc_old _ hs)).mono ?_
  rintro e w' ⟨rfl, rfl⟩
  generalize FmtStop.textOf (F "fmt.errorf" (askedOf n m s) 0) = t
  have hg1 : (((w.alloc (.cells #[.iface 47 (.pointer (some a)), .iface 2 (.int .i64 n), .iface 2 (.int .i64 m)] 20)).alloc (.cells #[.string t, .iface 47 (.pointer (some a))] 74)).drew).cell? ⟨0, 0, none⟩ = some (.iface 47 (.pointer (some a))) := cell?_alloc_old _ (cell?_alloc_old _ hg)
  go_wp2_with fail
  refine (is_wrap_same _ 0 a _ ?_).mono ?_
  · go_simp
  rintro e w' ⟨rfl, rfl⟩
  go_wp2_with fail
  go_ret
  exact ⟨rfl, t, rfl, rfl, rfl⟩

/-! ### Closed facts -/
theorem own : ownKnob Tryf.prog.godebug = none := by kernel_rfl
theorem laidOut : laidOutB Tryf.pinned.checked.prog = true := by kernel_rfl
theorem stops : Tryf.pinned.checked.prog.stops = ["fmt.errorf"] := by kernel_rfl
theorem stopKnobs : Tryf.pinned.checked.prog.stopKnobs = [] := by kernel_rfl
theorem quiet (os : Os) : Stop.quiet Tryf.pinned.checked.prog os := by
  intro k hk
  rw [stopKnobs] at hk
  cases hk
theorem gE : Tryf.prog.globalNamed "example.com/watchline/watchline/internal/kv.ErrFuture" = some 0 := by kernel_rfl
theorem gEType : (Tryf.prog.globals[0]?).map (·.type) = some 23 := by kernel_rfl
theorem cells49 : Tryf.prog.cellsOf 49 = 1 := by kernel_rfl
theorem cells9 : Tryf.prog.cellsOf 9 = 1 := by kernel_rfl
theorem star : "*" ++ "errors.errorString" = "*errors.errorString" := by decide
theorem row47 (u : TypeId) (h : Tryf.prog.typeName? 3 u = some "*errors.errorString") : u = 47 :=
  typeName_ptr_named (nm := "errors.errorString") (by rw [star]; kernel_rfl) (by kernel_rfl) (by decide) u (by rw [star]; exact h)

/-! ### One start that fits: the settled world with one block more, an errors.errorString of the listed text; the variable holds a pointer to it -/
theorem laid_met (os : Os) (args : Array Value) : laidMet Tryf.prog Rows.fnFutureErrorWrapsErrFutureRow.laid (({ (World.holding Tryf.prog os ⟨#[.cells #[.string ⟨#[114, 101, 118, 105, 115, 105, 111, 110, 32, 110, 111, 116, 32, 121, 101, 116, 32, 114, 101, 97, 99, 104, 101, 100]⟩] 49], #[], []⟩) with heap := (World.holding Tryf.prog os ⟨#[.cells #[.string ⟨#[114, 101, 118, 105, 115, 105, 111, 110, 32, 110, 111, 116, 32, 121, 101, 116, 32, 114, 101, 97, 99, 104, 101, 100]⟩] 49], #[], []⟩).heap.modify 0 fun
      | .cells _ t frozen => .cells #[.iface 47 (.pointer (some ⟨(World.holding Tryf.prog default ⟨#[], #[], []⟩).heap.size, 0, none⟩))] t frozen
      | o => o } : World).forCall (fun _ _ => 0) ⟨#[], args, []⟩).memory :=
  laidMet_of_run (ps := [.cell 0 0, .cell (World.holding Tryf.prog default ⟨#[], #[], []⟩).heap.size 0]) 8 (by kernel_rfl) (by kernel_rfl) (by kernel_rfl)

set_option maxRecDepth 100000 in
theorem law_lifted (os : Os) (started : os.Started) (H : Type) (enc : TypeId × Value → H) :
    ReturnsInTold none {} Tryf.checked os 3 .any Input.okWide ((OpenSpec.ofChange Rows.fnFutureErrorWrapsErrFutureSpec).preRow enc Tryf.prog Tryf.f3 [] false Rows.fnFutureErrorWrapsErrFutureRow.laid) (fun F => ((OpenSpec.ofChange Rows.fnFutureErrorWrapsErrFutureSpec).at F).post enc Tryf.prog Tryf.f3 false true false false) (aloneAtReturn Tryf.prog) nothingAlways := by
  refine returnsInTold_of_row (C := Tryf.checked) (s := OpenSpec.ofChange Rows.fnFutureErrorWrapsErrFutureSpec) (by kernel_rfl) own started (by kernel_rfl) Tryf.func3
    (OpenSpec.witness_stopped_at (enc := enc) (C := Tryf.checked) false _ #[.int .i64 0, .int .i64 0] rfl (by kernel_rfl) (by kernel_rfl) (by kernel_rfl)
      (OpenSpec.preRow_of_B rfl 8 (by kernel_rfl) (by kernel_rfl) (laid_met os _))) ?_
  intro F W base args ds gs before _ hF hval0 hW _ _ _ hL _
  have hval : ∀ (j : Nat) t v, Tryf.f3.params[j]? = some t → args[j]? = some v → Value.okWide Tryf.prog W .any base t v := hval0
  have hW' := hW
  obtain ⟨p, q, hA0, hV0, rfl, hfz, hnd⟩ := hW
  have hA : DataW.TrodAll enc Tryf.prog W 0 (fun _ => true) true Tryf.f3.params.toList args.toList ds p := hA0
  have hV : DataW.TrodVars enc Tryf.prog W (fun _ => true) Rows.fnFutureErrorWrapsErrFutureSpec.vars gs q := hV0
  rw [Tryf.params3] at hA hval
  obtain ⟨v0, v1, d0, d1, p0, p1, rfl, rfl, rfl, h0, h1⟩ := trodAll_two hA
  obtain ⟨n, rfl, rfl, rfl, wn⟩ := open_int Tryf.underlying2 (hval 0 2 v0 rfl rfl) h0
  obtain ⟨m, rfl, rfl, rfl, wm⟩ := open_int Tryf.underlying2 (hval 1 2 v1 rfl rfl) h1
  obtain ⟨a0, s0, hv0, hc0, hs0, hz0⟩ := laid_sentinel hL gE gEType Tryf.underlying23 row47 Tryf.underlying47 Tryf.underlying49 rfl rfl Tryf.underlying9 cells49 cells9
  obtain ⟨rfl, rfl⟩ := hV.unique (vars_read1 enc gE gEType Tryf.underlying23 hv0 trivial _)
  clear hA0 hV0 hval0
  have hg0 : W.cell? ⟨0, 0, none⟩ = some (.iface 47 (.pointer (some a0))) := by simpa using World.var?_cell gE hv0 0
  refine (law_walk F.told n m a0 s0 W hF hg0 hc0).mono fun e W' ⟨he, t, ha⟩ => ?_
  subst he
  refine ⟨_, rfl, ChangeSpec.post_alike ?_ ha⟩
  have hx : W.Extends (((W.alloc (.cells #[.iface 47 (.pointer (some a0)), .iface 2 (.int .i64 n), .iface 2 (.int .i64 m)] 20)).alloc (.cells #[.string t, .iface 47 (.pointer (some a0))] 74)).drew) := (((World.Extends.refl W).alloc _).alloc _).drew
  refine ⟨_, _, _, [], [], [.cell 0 0], hW', ?_, ?_, ?_, World.keptBut_mono (fun _ h => h.elim) (World.keptBut_none_iff.2 ⟨hx.os, hx.output, hx.block⟩), fun h => by cases h⟩
  · exact trodAll_mk1 (shut_bool Tryf.underlying4 true)
  · exact trodAll_mk2 (shut_int Tryf.underlying2 wn) (shut_int Tryf.underlying2 wm)
  · exact vars_read1 enc gE gEType Tryf.underlying23 (var?_drew (var?_alloc (var?_alloc hv0))) trivial _

theorem fnFutureErrorWrapsErrFuture_told : Rows.FnFutureErrorWrapsErrFutureToldSaid :=
  Claim7.holds_of_told_tied_any_at .later 3 Tryf.f3 "fmt.errorf" [] [] _ _ _ _ _ (by kernel_rfl) rfl rfl rfl laidOut (by kernel_rfl) rfl ⟨rfl, rfl, rfl, rfl, rfl, rfl, rfl⟩ rfl rfl (by kernel_rfl) (by kernel_rfl) Tryf.func3 (by kernel_rfl)
    (of_decide_eq_true (by kernel_rfl)) (of_decide_eq_true (by kernel_rfl)) stops.symm rfl stopKnobs.symm (by kernel_rfl)
    (by kernel_rfl) (by kernel_rfl) (by kernel_rfl) (by kernel_rfl) (by kernel_rfl) (by kernel_rfl) (by kernel_rfl) (by kernel_rfl) (by kernel_rfl) rfl (by kernel_rfl) rfl rfl
    rfl rfl
    rfl (by kernel_rfl) (by kernel_rfl) (by kernel_rfl) (by decide) (by kernel_rfl) fnFutureErrorWrapsErrFuture_row_tie
    (OpenClaim.moreEntering_of (by kernel_rfl) (by kernel_rfl) (by kernel_rfl) (by kernel_rfl) (by kernel_rfl) (by kernel_rfl) (by kernel_rfl) (by kernel_rfl) (by kernel_rfl) (by kernel_rfl))
    ⟨_, WideRow.started_initial, quiet _⟩
    (fun os started _ H enc _ => law_lifted os started H enc)

#print axioms fnFutureErrorWrapsErrFuture_told

end Go.Proofs.Qxb6613518aFmt
