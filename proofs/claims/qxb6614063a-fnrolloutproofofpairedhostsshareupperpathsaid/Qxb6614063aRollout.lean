/-
  ZZNewDerivedRollout, (Rollout).Proof.
-/
import Derived.Test.Qxb6614063aEntries
import Derived.Laws.ResultCell
namespace Go.Proofs.Qxb6614063a
open Go.RowKit

theorem derived21 (ch id : ByteArray) (ma sa : Option Addr) (mn mc sn sc : Nat) (ea la : Option Addr) (en ec m lc : Nat) (w : World) :
    Calls Try.prog 21 #[.string ch, .string id, .slice ma mn mc, .slice sa sn sc, .slice ea en ec, .slice la m lc] w fun e w' =>
      e = .returned (.agg #[.string ch, .string id, .slice ma mn mc, .slice sa sn sc, .pointer (some ⟨w.heap.size + 1, 0, none⟩)]) ∧ w'.cell? ⟨w.heap.size + 1, 0, none⟩ = some (.slice ea en ec) ∧ w'.cell? ⟨w.heap.size + 1, 1, none⟩ = some (.slice la m lc) ∧ w.heap.size + 1 < w'.heap.size ∧ Below w.heap.size w w' := by
  go_enter Try.func21, Try.ntmps21
  go_wp2
  refine bodyPost_ret (v := .agg #[.string ch, .string id, .slice ma mn mc, .slice sa sn sc, .pointer (some ⟨w.heap.size + 1, 0, none⟩)]) (by simp [results, Try.results21, go_sem]) rfl ⟨rfl, ?_, ?_, ?_, ?_⟩
  · go_simp
  · go_simp
  · go_simp
  · exact ((Below.refl _ _).alloc (Nat.le_refl _) _).alloc (by simp) _

end Go.Proofs.Qxb6614063a
