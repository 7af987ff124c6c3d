/- The row of the law FnWideReverse: whatever the input, the law answers true, and the input reads behind the call as it read before. Out of the walk 'PAll.reverse_walk' of YtiifnofghicnaaaReverse. -/
import Derived.Test.YtiifnofghicnaaaRows
import Derived.Test.YtiifnofghicnaaaReverse
import Derived.WalkKit
import Derived.ProofKit
import Derived.OpenShut
import Derived.ShutString
import Derived.ChangeOld
import Derived.Below
import Derived.SizedLaws
import Derived.Lib.SmallJoins
namespace Go.Proofs.Ytiifnofghicnaaa.fnWideReverse
open Go.ChangeShapes Go.WideShapes Go.ChangeAt Go.RowKit Go.Joins
set_option linter.unusedVariables false
theorem own : ownKnob Try.prog.godebug = none := by kernel_rfl
theorem cells24 : Try.prog.cellsOf 24 = 2 := by kernel_rfl
set_option maxRecDepth 100000 in
theorem lifted (os : Os) (started : os.Started) (H : Type) (enc : TypeId × Value → H) :
    ReturnsInHanded {} Try.checked os 13 .any (Rows.fnWideReverseSpec.pre6 enc Try.prog Try.f13 Rows.fnWideReverseRow.domain false) (Rows.fnWideReverseSpec.post enc Try.prog Try.f13 false true false false) := by
  refine returnsInHanded_of_change_sized (C := Try.checked) own started (by kernel_rfl) Try.func13
    (ChangeSpec.witness6 (enc := enc) (C := Try.checked) false ⟨#[], #[.agg #[.int .u64 0, .int .u64 0]], []⟩ 8 (by kernel_rfl) (by kernel_rfl) (by kernel_rfl) (by kernel_rfl)) ?_
  intro W base args ds gs before hval0 hW hcnd hsz0 _
  have hsz : (DataW.weightsEach Try.prog (Try.f13.params.toList ++ Rows.fnWideReverseSpec.plain.varTypes Try.prog) (ds ++ gs)).all (· ≤ reachBytes) = true := hsz0
  have hval : ∀ (j : Nat) t v, Try.f13.params[j]? = some t → args[j]? = some v → Value.okWide Try.prog W .any base t v := hval0
  have hW' := hW
  obtain ⟨p, q, hA0, hV, rfl, hfz, hnd⟩ := hW
  have hA : DataW.TrodAll enc Try.prog W 0 (fun _ => true) true Try.f13.params.toList args.toList ds p := hA0
  rw [Try.params13] at hA hval hsz
  obtain ⟨v0, vs0, d0, ds0, p0, q0, hargs, rfl, rfl, h0, r0⟩ := trodAll_cons hA
  obtain ⟨rfl, rfl, rfl⟩ := trodAll_nil r0
  obtain rfl : args = #[v0] := by cases args; simp_all
  obtain ⟨rfl, rfl⟩ := trodVars_none hV
  obtain ⟨c00, c01, y00, y01, m0, rfl, rfl, rfl, hy00, hy01⟩ := open_agg2 Try.underlying24 (by kernel_rfl) cells24 (hval 0 24 v0 rfl rfl) h0
  obtain ⟨a00, e00, rfl, w00⟩ := DataW.trod_int Try.underlying22 hy00
  obtain ⟨a01, e01, rfl, w01⟩ := DataW.trod_int Try.underlying22 hy01
  simp at e00 e01
  subst e00 e01
  have sr0 : ∀ (W' : World) (sp : Nat → Bool), DataW.Trod enc Try.prog W' 0 sp true 24 (.agg #[.int .u64 a00, .int .u64 a01]) (.agg [.lit (.int .u64 a00), .lit (.int .u64 a01)]) [] := fun W' sp =>
    shut_agg2 (y0 := (.lit (.int .u64 a00), [])) (y1 := (.lit (.int .u64 a01), [])) Try.underlying24 (by kernel_rfl) cells24 ⟨1, by simp [DataW.trod, Try.underlying22, w00]⟩ ⟨1, by simp [DataW.trod, Try.underlying22, w01]⟩
  have b00 := w00; simp only [Lit.wf, Bool.and_eq_true, decide_eq_true_eq] at b00
  have b01 := w01; simp only [Lit.wf, Bool.and_eq_true, decide_eq_true_eq] at b01
  clear hA0 hval0 hsz0 hsz
  refine (PAll.reverse_walk a00 a01 b00 b01 W).mono fun e W' ⟨he, bel⟩ => ?_
  subst he
  exact ⟨_, rfl, _, _, _, [], _, [], hW', trodAll_mk1 (shut_bool Try.underlying4 _), (trodAll_cons_mk (sr0 _ _) trodAll_mk0), rfl, bel.frame _, fun h => by cases h⟩
theorem over : Rows.fnWideReverseRow.holds Try.pinned (OpenSpec.ofChange Rows.fnWideReverseSpec) :=
  OpenClaim.holds_of_wide 13 Try.f13 rfl rfl rfl rfl rfl rfl rfl ⟨rfl, rfl, rfl, rfl, rfl⟩ rfl rfl rfl rfl rfl (by kernel_rfl) Try.func13 (by kernel_rfl)
    (of_decide_eq_true (by kernel_rfl)) (by unfold Func.isWrapper; first | (rw [if_pos (by decide +kernel)]; kernel_rfl) | (rw [if_neg (by decide +kernel)]; exact ⟨rfl, rfl⟩))
    (fun os started H enc _ => lifted os started H enc)
theorem proved : Rows.FnWideReverseSaid := over
#print axioms proved
end Go.Proofs.Ytiifnofghicnaaa.fnWideReverse
namespace Go.Proofs.Ytiifnofghicnaaa
theorem fnWideReverse_holds : Rows.FnWideReverseSaid := fnWideReverse.proved
end Go.Proofs.Ytiifnofghicnaaa
