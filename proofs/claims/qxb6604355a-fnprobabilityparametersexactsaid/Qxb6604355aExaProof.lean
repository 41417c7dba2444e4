import Derived.Test.Qxb6604355aOrdProof
import Derived.Test.Qxb6604355aHold
namespace Go.Proofs.Qxb6604355a
open Go.ChangeShapes Go.WideShapes Go.ChangeAt Go.RowKit
set_option linter.unusedSimpArgs false
set_option linter.unusedVariables false

set_option maxHeartbeats 2000000 in
theorem law_exact (x : Nat) (hx : x < 2 * SW) (w : World) : Calls Try.prog 3 #[.float .f64 x] w fun e w' => Yes w w' e := by
  have hnil := fun (w : World) (a : Option Addr) (n c : Nat) => Lib.run_eql_slice_nil (P := Try.prog) w 29 5 a n c 0 0 Try.underlying29
  go_enter Try.func3, Try.ntmps3
  go_wp2_with (first
    | (go_at_call 5; refine (parameters_any x _).mono ?_; rintro e w1 ⟨b1, rfl, hb1, ⟨t1, n1, hc1⟩, hl1⟩; obtain ⟨p0, p1, p2, p3⟩ := ValAt.of hc1; clear hc1)
    | (go_at_call 6; refine (hold_any x hx _).mono ?_; rintro e w2 ⟨rfl, rfl⟩))
  go_ret
  exact ⟨rfl, hl1⟩

set_option maxHeartbeats 1600000 in
set_option maxRecDepth 100000 in
theorem exact_lifted (os : Os) (started : os.Started) (H : Type) (enc : TypeId × Value → H) :
    ReturnsInHanded {} Try.checked os 3 .any (Rows.fnProbabilityParametersExactSpec.pre6 enc Try.prog Try.f3 Rows.fnProbabilityParametersExactRow.domain false) (Rows.fnProbabilityParametersExactSpec.post enc Try.prog Try.f3 false true false false) := by
  refine returnsInHanded_of_change (C := Try.checked) own started (by kernel_rfl) Try.func3
    (ChangeSpec.witness6 (enc := enc) (C := Try.checked) false ⟨#[], #[.float .f64 0], []⟩ 8 (by kernel_rfl) (by kernel_rfl) (by kernel_rfl) (by kernel_rfl)) ?_
  intro W base args ds gs before hval0 hW hcnd _
  have hval : ∀ (j : Nat) t v, Try.f3.params[j]? = some t → args[j]? = some v → Value.okWide Try.prog W .any base t v := hval0
  have hW' := hW
  obtain ⟨p, q, hA0, hV, rfl, hfz, hnd⟩ := hW
  have hA : DataW.TrodAll enc Try.prog W 0 (fun _ => true) true Try.f3.params.toList args.toList ds p := hA0
  rw [Try.params3] at hA hval
  obtain ⟨v0, vs0, d0, ds0, p0, q0, hargs, rfl, rfl, h0, r0⟩ := trodAll_cons hA
  obtain ⟨rfl, rfl, rfl⟩ := trodAll_nil r0
  obtain rfl : args = #[v0] := by cases args; simp_all
  obtain ⟨rfl, rfl⟩ := trodVars_none hV
  obtain ⟨x, rfl, rfl, rfl, wx⟩ := open_float Try.underlying22 (hval 0 22 v0 rfl rfl) h0
  clear hA0 hval0
  refine (law_exact x (bits_lt wx) W).mono fun e W' ⟨he, bel⟩ => ?_
  subst he
  exact ⟨_, rfl, _, _, _, [], _, [], hW', trodAll_mk1 (shut_bool Try.underlying4 _), (trodAll_cons_mk (shut_float Try.underlying22 wx) trodAll_mk0), rfl, bel.frame _, fun h => by cases h⟩

theorem exact_over : Rows.fnProbabilityParametersExactRow.holds Try.pinned (OpenSpec.ofChange Rows.fnProbabilityParametersExactSpec) :=
  OpenClaim.holds_of_wide 3 Try.f3 rfl rfl rfl rfl rfl rfl rfl ⟨rfl, rfl, rfl, rfl, rfl⟩ rfl rfl rfl rfl rfl (by kernel_rfl) Try.func3 (by kernel_rfl)
    (of_decide_eq_true (by kernel_rfl)) (by unfold Func.isWrapper; first | (rw [if_pos (by decide +kernel)]; kernel_rfl) | (rw [if_neg (by decide +kernel)]; exact ⟨rfl, rfl⟩))
    (fun os started H enc _ => exact_lifted os started H enc)

/-- THE STATEMENT -/
theorem exact_proved : Rows.FnProbabilityParametersExactSaid := exact_over
#print axioms exact_proved
end Go.Proofs.Qxb6604355a
