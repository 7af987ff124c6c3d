/- The row of the law FnWideRotateRight: whatever the input, the law answers true, and the input reads behind the call as it read before. Out of the walk 'PAll.rotateRight_walk' of YtiifnofghicnaaaRotateRight. -/
import Derived.Test.YtiifnofghicnaaaRows
import Derived.Test.YtiifnofghicnaaaRotateRight
import Derived.WalkKit
import Derived.ProofKit
import Derived.OpenShut
import Derived.ShutString
import Derived.ChangeOld
import Derived.Below
import Derived.SizedLaws
import Derived.Lib.SmallJoins
namespace Go.Proofs.Ytiifnofghicnaaa.fnWideRotateRight
open Go.ChangeShapes Go.WideShapes Go.ChangeAt Go.RowKit Go.Joins
set_option linter.unusedVariables false
theorem own : ownKnob Try.prog.godebug = none := by kernel_rfl
theorem cells24 : Try.prog.cellsOf 24 = 2 := by kernel_rfl
set_option maxRecDepth 100000 in
theorem lifted (os : Os) (started : os.Started) (H : Type) (enc : TypeId × Value → H) :
    ReturnsInHanded {} Try.checked os 20 .any (Rows.fnWideRotateRightSpec.pre6 enc Try.prog Try.f20 Rows.fnWideRotateRightRow.domain false) (Rows.fnWideRotateRightSpec.post enc Try.prog Try.f20 false true false false) := by
  refine returnsInHanded_of_change_sized (C := Try.checked) own started (by kernel_rfl) Try.func20
    (ChangeSpec.witness6 (enc := enc) (C := Try.checked) false ⟨#[], #[.agg #[.int .u64 0, .int .u64 0], .int .i64 0], []⟩ 8 (by kernel_rfl) (by kernel_rfl) (by kernel_rfl) (by kernel_rfl)) ?_
  intro W base args ds gs before hval0 hW hcnd hsz0 _
  have hsz : (DataW.weightsEach Try.prog (Try.f20.params.toList ++ Rows.fnWideRotateRightSpec.plain.varTypes Try.prog) (ds ++ gs)).all (· ≤ reachBytes) = true := hsz0
  have hval : ∀ (j : Nat) t v, Try.f20.params[j]? = some t → args[j]? = some v → Value.okWide Try.prog W .any base t v := hval0
  have hW' := hW
  obtain ⟨p, q, hA0, hV, rfl, hfz, hnd⟩ := hW
  have hA : DataW.TrodAll enc Try.prog W 0 (fun _ => true) true Try.f20.params.toList args.toList ds p := hA0
  rw [Try.params20] at hA hval hsz
  obtain ⟨v0, vs0, d0, ds0, p0, q0, hargs, rfl, rfl, h0, r0⟩ := trodAll_cons hA
  obtain ⟨v1, vs1, d1, ds1, p1, q1, rfl, rfl, rfl, h1, r1⟩ := trodAll_cons r0
  obtain ⟨rfl, rfl, rfl⟩ := trodAll_nil r1
  obtain rfl : args = #[v0, v1] := by cases args; simp_all
  obtain ⟨rfl, rfl⟩ := trodVars_none hV
  obtain ⟨c00, c01, y00, y01, m0, rfl, rfl, rfl, hy00, hy01⟩ := open_agg2 Try.underlying24 (by kernel_rfl) cells24 (hval 0 24 v0 rfl rfl) h0
  obtain ⟨a00, e00, rfl, w00⟩ := DataW.trod_int Try.underlying22 hy00
  obtain ⟨a01, e01, rfl, w01⟩ := DataW.trod_int Try.underlying22 hy01
  simp at e00 e01
  subst e00 e01
  have sr0 : ∀ (W' : World) (sp : Nat → Bool), DataW.Trod enc Try.prog W' 0 sp true 24 (.agg #[.int .u64 a00, .int .u64 a01]) (.agg [.lit (.int .u64 a00), .lit (.int .u64 a01)]) [] := fun W' sp =>
    shut_agg2 (y0 := (.lit (.int .u64 a00), [])) (y1 := (.lit (.int .u64 a01), [])) Try.underlying24 (by kernel_rfl) cells24 ⟨1, by simp [DataW.trod, Try.underlying22, w00]⟩ ⟨1, by simp [DataW.trod, Try.underlying22, w01]⟩
  have b00 := w00; simp only [Lit.wf, Bool.and_eq_true, decide_eq_true_eq] at b00
  have b01 := w01; simp only [Lit.wf, Bool.and_eq_true, decide_eq_true_eq] at b01
  obtain ⟨a1, rfl, rfl, rfl, w1⟩ := open_int Try.underlying3 (hval 1 3 v1 rfl rfl) h1
  have b1 := w1; simp only [Lit.wf, Bool.and_eq_true, decide_eq_true_eq] at b1
  clear hA0 hval0 hsz0 hsz
  refine (PAll.rotateRight_walk a00 a01 a1 b00 b01 b1 W).mono fun e W' ⟨he, bel⟩ => ?_
  subst he
  exact ⟨_, rfl, _, _, _, [], _, [], hW', trodAll_mk1 (shut_bool Try.underlying4 _), (trodAll_cons_mk (sr0 _ _) (trodAll_cons_mk (shut_int Try.underlying3 w1) trodAll_mk0)), rfl, bel.frame _, fun h => by cases h⟩
theorem over : Rows.fnWideRotateRightRow.holds Try.pinned (OpenSpec.ofChange Rows.fnWideRotateRightSpec) :=
  OpenClaim.holds_of_wide 20 Try.f20 rfl rfl rfl rfl rfl rfl rfl ⟨rfl, rfl, rfl, rfl, rfl⟩ rfl rfl rfl rfl rfl (by kernel_rfl) Try.func20 (by kernel_rfl)
    (of_decide_eq_true (by kernel_rfl)) (by unfold Func.isWrapper; first | (rw [if_pos (by decide +kernel)]; kernel_rfl) | (rw [if_neg (by decide +kernel)]; exact ⟨rfl, rfl⟩))
    (fun os started H enc _ => lifted os started H enc)
theorem proved : Rows.FnWideRotateRightSaid := over
#print axioms proved
end Go.Proofs.Ytiifnofghicnaaa.fnWideRotateRight
namespace Go.Proofs.Ytiifnofghicnaaa
theorem fnWideRotateRight_holds : Rows.FnWideRotateRightSaid := fnWideRotateRight.proved
end Go.Proofs.Ytiifnofghicnaaa
