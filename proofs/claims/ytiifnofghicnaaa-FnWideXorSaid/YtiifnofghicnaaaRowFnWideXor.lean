/- The row of the law FnWideXor: whatever the input, the law answers true, and the input reads behind the call as it read before. Out of the walk 'PAll.xor_walk' of YtiifnofghicnaaaXor. -/
import Derived.Test.YtiifnofghicnaaaRows
import Derived.Test.YtiifnofghicnaaaXor
import Derived.WalkKit
import Derived.ProofKit
import Derived.OpenShut
import Derived.ShutString
import Derived.ChangeOld
import Derived.Below
import Derived.SizedLaws
import Derived.Lib.SmallJoins
namespace Go.Proofs.Ytiifnofghicnaaa.fnWideXor
open Go.ChangeShapes Go.WideShapes Go.ChangeAt Go.RowKit Go.Joins
set_option linter.unusedVariables false
theorem own : ownKnob Try.prog.godebug = none := by kernel_rfl
theorem cells24 : Try.prog.cellsOf 24 = 2 := by kernel_rfl
set_option maxRecDepth 100000 in
theorem lifted (os : Os) (started : os.Started) (H : Type) (enc : TypeId × Value → H) :
    ReturnsInHanded {} Try.checked os 6 .any (Rows.fnWideXorSpec.pre6 enc Try.prog Try.f6 Rows.fnWideXorRow.domain false) (Rows.fnWideXorSpec.post enc Try.prog Try.f6 false true false false) := by
  refine returnsInHanded_of_change_sized (C := Try.checked) own started (by kernel_rfl) Try.func6
    (ChangeSpec.witness6 (enc := enc) (C := Try.checked) false ⟨#[], #[.agg #[.int .u64 0, .int .u64 0], .agg #[.int .u64 0, .int .u64 0], .int .u64 0], []⟩ 8 (by kernel_rfl) (by kernel_rfl) (by kernel_rfl) (by kernel_rfl)) ?_
  intro W base args ds gs before hval0 hW hcnd hsz0 _
  have hsz : (DataW.weightsEach Try.prog (Try.f6.params.toList ++ Rows.fnWideXorSpec.plain.varTypes Try.prog) (ds ++ gs)).all (· ≤ reachBytes) = true := hsz0
  have hval : ∀ (j : Nat) t v, Try.f6.params[j]? = some t → args[j]? = some v → Value.okWide Try.prog W .any base t v := hval0
  have hW' := hW
  obtain ⟨p, q, hA0, hV, rfl, hfz, hnd⟩ := hW
  have hA : DataW.TrodAll enc Try.prog W 0 (fun _ => true) true Try.f6.params.toList args.toList ds p := hA0
  rw [Try.params6] at hA hval hsz
  obtain ⟨v0, vs0, d0, ds0, p0, q0, hargs, rfl, rfl, h0, r0⟩ := trodAll_cons hA
  obtain ⟨v1, vs1, d1, ds1, p1, q1, rfl, rfl, rfl, h1, r1⟩ := trodAll_cons r0
  obtain ⟨v2, vs2, d2, ds2, p2, q2, rfl, rfl, rfl, h2, r2⟩ := trodAll_cons r1
  obtain ⟨rfl, rfl, rfl⟩ := trodAll_nil r2
  obtain rfl : args = #[v0, v1, v2] := by cases args; simp_all
  obtain ⟨rfl, rfl⟩ := trodVars_none hV
  obtain ⟨c00, c01, y00, y01, m0, rfl, rfl, rfl, hy00, hy01⟩ := open_agg2 Try.underlying24 (by kernel_rfl) cells24 (hval 0 24 v0 rfl rfl) h0
  obtain ⟨a00, e00, rfl, w00⟩ := DataW.trod_int Try.underlying22 hy00
  obtain ⟨a01, e01, rfl, w01⟩ := DataW.trod_int Try.underlying22 hy01
  simp at e00 e01
  subst e00 e01
  have sr0 : ∀ (W' : World) (sp : Nat → Bool), DataW.Trod enc Try.prog W' 0 sp true 24 (.agg #[.int .u64 a00, .int .u64 a01]) (.agg [.lit (.int .u64 a00), .lit (.int .u64 a01)]) [] := fun W' sp =>
    shut_agg2 (y0 := (.lit (.int .u64 a00), [])) (y1 := (.lit (.int .u64 a01), [])) Try.underlying24 (by kernel_rfl) cells24 ⟨1, by simp [DataW.trod, Try.underlying22, w00]⟩ ⟨1, by simp [DataW.trod, Try.underlying22, w01]⟩
  have b00 := w00; simp only [Lit.wf, Bool.and_eq_true, decide_eq_true_eq] at b00
  have b01 := w01; simp only [Lit.wf, Bool.and_eq_true, decide_eq_true_eq] at b01
  obtain ⟨c10, c11, y10, y11, m1, rfl, rfl, rfl, hy10, hy11⟩ := open_agg2 Try.underlying24 (by kernel_rfl) cells24 (hval 1 24 v1 rfl rfl) h1
  obtain ⟨a10, e10, rfl, w10⟩ := DataW.trod_int Try.underlying22 hy10
  obtain ⟨a11, e11, rfl, w11⟩ := DataW.trod_int Try.underlying22 hy11
  simp at e10 e11
  subst e10 e11
  have sr1 : ∀ (W' : World) (sp : Nat → Bool), DataW.Trod enc Try.prog W' 0 sp true 24 (.agg #[.int .u64 a10, .int .u64 a11]) (.agg [.lit (.int .u64 a10), .lit (.int .u64 a11)]) [] := fun W' sp =>
    shut_agg2 (y0 := (.lit (.int .u64 a10), [])) (y1 := (.lit (.int .u64 a11), [])) Try.underlying24 (by kernel_rfl) cells24 ⟨1, by simp [DataW.trod, Try.underlying22, w10]⟩ ⟨1, by simp [DataW.trod, Try.underlying22, w11]⟩
  have b10 := w10; simp only [Lit.wf, Bool.and_eq_true, decide_eq_true_eq] at b10
  have b11 := w11; simp only [Lit.wf, Bool.and_eq_true, decide_eq_true_eq] at b11
  obtain ⟨a2, rfl, rfl, rfl, w2⟩ := open_int Try.underlying22 (hval 2 22 v2 rfl rfl) h2
  have b2 := w2; simp only [Lit.wf, Bool.and_eq_true, decide_eq_true_eq] at b2
  clear hA0 hval0 hsz0 hsz
  refine (PAll.xor_walk a00 a01 a10 a11 a2 b00 b01 b10 b11 b2 W).mono fun e W' ⟨he, bel⟩ => ?_
  subst he
  exact ⟨_, rfl, _, _, _, [], _, [], hW', trodAll_mk1 (shut_bool Try.underlying4 _), (trodAll_cons_mk (sr0 _ _) (trodAll_cons_mk (sr1 _ _) (trodAll_cons_mk (shut_int Try.underlying22 w2) trodAll_mk0))), rfl, bel.frame _, fun h => by cases h⟩
theorem over : Rows.fnWideXorRow.holds Try.pinned (OpenSpec.ofChange Rows.fnWideXorSpec) :=
  OpenClaim.holds_of_wide 6 Try.f6 rfl rfl rfl rfl rfl rfl rfl ⟨rfl, rfl, rfl, rfl, rfl⟩ rfl rfl rfl rfl rfl (by kernel_rfl) Try.func6 (by kernel_rfl)
    (of_decide_eq_true (by kernel_rfl)) (by unfold Func.isWrapper; first | (rw [if_pos (by decide +kernel)]; kernel_rfl) | (rw [if_neg (by decide +kernel)]; exact ⟨rfl, rfl⟩))
    (fun os started H enc _ => lifted os started H enc)
theorem proved : Rows.FnWideXorSaid := over
#print axioms proved
end Go.Proofs.Ytiifnofghicnaaa.fnWideXor
namespace Go.Proofs.Ytiifnofghicnaaa
theorem fnWideXor_holds : Rows.FnWideXorSaid := fnWideXor.proved
end Go.Proofs.Ytiifnofghicnaaa
