/-
  'Rows.FnRolloutProofOfPairedHostsShareUpperPathSaid', PROVED: the row's step after the guide's skeleton.
-/
import Derived.Test.Qxb6614063aLaw7b
import Derived.Test.Qxb6614063aOpenL
namespace Go.Proofs.Qxb6614063a
open Go.ChangeShapes Go.WideShapes Go.ChangeAt Go.RowKit
open Go.ChangeMaps (open_string shut_string)

set_option maxRecDepth 100000 in
theorem lifted7 (os : Os) (started : os.Started) (H : Type) (enc : TypeId × Value → H) :
    ReturnsInHanded {} Try.checked os 7 .any (Rows.fnRolloutProofOfPairedHostsShareUpperPathSpec.pre6 enc Try.prog Try.f7 Rows.fnRolloutProofOfPairedHostsShareUpperPathRow.domain false) (Rows.fnRolloutProofOfPairedHostsShareUpperPathSpec.post enc Try.prog Try.f7 false true false false) := by
  refine returnsInHanded_of_change_sized (C := Try.checked) own started (by kernel_rfl) Try.func7
    (ChangeSpec.witness6 (enc := enc) (C := Try.checked) false ⟨#[], #[.string ⟨#[]⟩, .string ⟨#[]⟩, .slice none 0 0, .slice none 0 0, .slice none 0 0, .slice none 0 0, .slice none 0 0, .slice none 0 0, .int .i64 0], []⟩ 8 (by kernel_rfl) (by kernel_rfl) (by kernel_rfl) (by kernel_rfl)) ?_
  intro W base args ds gs before hval0 hW _ hsz _
  have hval : ∀ (j : Nat) t v, Try.f7.params[j]? = some t → args[j]? = some v → Value.okWide Try.prog W .any base t v := hval0
  have hW' := hW
  obtain ⟨p, q, hA0, hV, rfl, _, _⟩ := hW
  have hA : DataW.TrodAll enc Try.prog W 0 (fun _ => true) true Try.f7.params.toList args.toList ds p := hA0
  rw [Try.params7] at hA hval
  obtain ⟨v0, vs0, d0, ds0, p0, q0, hargs, rfl, rfl, h0, r0⟩ := trodAll_cons hA
  obtain ⟨v1, vs1, d1, ds1, p1, q1, rfl, rfl, rfl, h1, r1⟩ := trodAll_cons r0
  obtain ⟨v2, vs2, d2, ds2, p2, q2, rfl, rfl, rfl, h2, r2⟩ := trodAll_cons r1
  obtain ⟨v3, vs3, d3, ds3, p3, q3, rfl, rfl, rfl, h3, r3⟩ := trodAll_cons r2
  obtain ⟨v4, vs4, d4, ds4, p4, q4, rfl, rfl, rfl, h4, r4⟩ := trodAll_cons r3
  obtain ⟨v5, vs5, d5, ds5, p5, q5, rfl, rfl, rfl, h5, r5⟩ := trodAll_cons r4
  obtain ⟨v6, vs6, d6, ds6, p6, q6, rfl, rfl, rfl, h6, r6⟩ := trodAll_cons r5
  obtain ⟨v7, vs7, d7, ds7, p7, q7, rfl, rfl, rfl, h7, r7⟩ := trodAll_cons r6
  obtain ⟨v8, vs8, d8, ds8, p8, q8, rfl, rfl, rfl, h8, r8⟩ := trodAll_cons r7
  obtain ⟨rfl, rfl, rfl⟩ := trodAll_nil r8
  obtain rfl : args = #[v0, v1, v2, v3, v4, v5, v6, v7, v8] := by cases args; simp_all
  obtain ⟨rfl, rfl⟩ := trodVars_none hV
  obtain ⟨s0, rfl, rfl, rfl, w0⟩ := open_string Try.underlying9 (hval 0 9 v0 rfl rfl) h0
  obtain ⟨s1, rfl, rfl, rfl, w1⟩ := open_string Try.underlying9 (hval 1 9 v1 rfl rfl) h1
  obtain ⟨s8, rfl, rfl, rfl, w8⟩ := open_int Try.underlying3 (hval 8 3 v8 rfl rfl) h8
  obtain ⟨a2, len2, cap2, rfl⟩ := okWide_slice Try.underlying40 (hval 2 40 v2 rfl rfl)
  have lt2 : ∀ x ∈ p2, x.block < W.heap.size := by obtain ⟨m, hm⟩ := h2; exact DataW.trod_lt m _ _ _ hm
  obtain ⟨b2, hb2, hn2⟩ := open40 h2 (fun elems spare e => sized_slice hsz (j := 2) (t := 40) (e := 5) rfl (by rw [e]; rfl) Try.underlying40)
  obtain ⟨a3, len3, cap3, rfl⟩ := okWide_slice Try.underlying40 (hval 3 40 v3 rfl rfl)
  have lt3 : ∀ x ∈ p3, x.block < W.heap.size := by obtain ⟨m, hm⟩ := h3; exact DataW.trod_lt m _ _ _ hm
  obtain ⟨b3, hb3, hn3⟩ := open40 h3 (fun elems spare e => sized_slice hsz (j := 3) (t := 40) (e := 5) rfl (by rw [e]; rfl) Try.underlying40)
  obtain ⟨a4, len4, cap4, rfl⟩ := okWide_slice Try.underlying29 (hval 4 29 v4 rfl rfl)
  have lt4 : ∀ x ∈ p4, x.block < W.heap.size := by obtain ⟨m, hm⟩ := h4; exact DataW.trod_lt m _ _ _ hm
  obtain ⟨ss4, hs4, hsb4, _, _⟩ := open29 h4 (fun elems spare e => sized_slice hsz (j := 4) (t := 29) (e := 9) rfl (by rw [e]; rfl) Try.underlying29)
  obtain ⟨a5, len5, cap5, rfl⟩ := okWide_slice Try.underlying29 (hval 5 29 v5 rfl rfl)
  have lt5 : ∀ x ∈ p5, x.block < W.heap.size := by obtain ⟨m, hm⟩ := h5; exact DataW.trod_lt m _ _ _ hm
  obtain ⟨ss5, hs5, hsb5, _, _⟩ := open29 h5 (fun elems spare e => sized_slice hsz (j := 5) (t := 29) (e := 9) rfl (by rw [e]; rfl) Try.underlying29)
  obtain ⟨a6, len6, cap6, rfl⟩ := okWide_slice Try.underlying30 (hval 6 30 v6 rfl rfl)
  have lt6 : ∀ x ∈ p6, x.block < W.heap.size := by obtain ⟨m, hm⟩ := h6; exact DataW.trod_lt m _ _ _ hm
  obtain ⟨xs6, hx6, _, _, _⟩ := open30 h6 (fun elems spare e => sized_slice hsz (j := 6) (t := 30) (e := 3) rfl (by rw [e]; rfl) Try.underlying30)
  obtain ⟨a7, len7, cap7, rfl⟩ := okWide_slice Try.underlying41 (hval 7 41 v7 rfl rfl)
  have lt7 : ∀ x ∈ p7, x.block < W.heap.size := by obtain ⟨m, hm⟩ := h7; exact DataW.trod_lt m _ _ _ hm
  obtain ⟨la, ln, lc, bs, hL⟩ := open41 h7 (fun z hz => of_decide_eq_true (List.all_eq_true.1 hsz _ (DataW.weights_mem_each (j := 7) (t := 41) rfl rfl z hz)))
  clear hA0 hval0
  refine (law7 s0 s1 s8 a2 a3 a4 a5 a6 a7 len2 cap2 len3 cap3 len4 cap4 len5 cap5 len6 cap6 len7 cap7 b2 b3 ss4 ss5 xs6 la ln lc bs W hb2 hb3 hn2 hn3 hs4 hs5 hx6 hL hsb4 hsb5).mono fun e W' ⟨he, bel⟩ => ?_
  subst he
  exact ⟨_, rfl, _, _, _, [], _, [], hW', trodAll_mk1 (shut_bool Try.underlying4 _), (trodAll_cons_mk (shut_string Try.underlying9 w0) (trodAll_cons_mk (shut_string Try.underlying9 w1) (trodAll_cons_mk (Below.trod laidOut (by kernel_rfl) (of_decide_eq_true (by kernel_rfl)) h2 bel lt2) (trodAll_cons_mk (Below.trod laidOut (by kernel_rfl) (of_decide_eq_true (by kernel_rfl)) h3 bel lt3) (trodAll_cons_mk (Below.trod laidOut (by kernel_rfl) (of_decide_eq_true (by kernel_rfl)) h4 bel lt4) (trodAll_cons_mk (Below.trod laidOut (by kernel_rfl) (of_decide_eq_true (by kernel_rfl)) h5 bel lt5) (trodAll_cons_mk (Below.trod laidOut (by kernel_rfl) (of_decide_eq_true (by kernel_rfl)) h6 bel lt6) (trodAll_cons_mk (Below.trod laidOut (by kernel_rfl) (of_decide_eq_true (by kernel_rfl)) h7 bel lt7) (trodAll_cons_mk (shut_int Try.underlying3 w8) trodAll_mk0))))))))), rfl, bel.frame _, fun h => by cases h⟩

theorem fnRolloutProofOfPairedHostsShareUpperPath_holds : Rows.FnRolloutProofOfPairedHostsShareUpperPathSaid :=
  OpenClaim.holds_of_wide 7 Try.f7 rfl rfl rfl rfl rfl rfl rfl ⟨rfl, rfl, rfl, rfl, rfl⟩ rfl rfl rfl rfl rfl (by kernel_rfl) Try.func7 (by kernel_rfl)
    (of_decide_eq_true (by kernel_rfl)) (by unfold Func.isWrapper; first | (rw [if_pos (by decide +kernel)]; kernel_rfl) | (rw [if_neg (by decide +kernel)]; exact ⟨rfl, rfl⟩))
    (fun os started H enc _ => lifted7 os started H enc)

#print axioms fnRolloutProofOfPairedHostsShareUpperPath_holds

end Go.Proofs.Qxb6614063a
