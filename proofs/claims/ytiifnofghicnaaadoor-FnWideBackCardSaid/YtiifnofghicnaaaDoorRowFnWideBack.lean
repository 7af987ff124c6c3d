/- The row of the law FnWideBack: whatever the input, the law answers true, and the input reads behind the call as it read before. Out of the walk 'PAll.back_walk' of YtiifnofghicnaaaDoorLawB. -/
import Derived.Test.YtiifnofghicnaaaDoorRows
import Derived.Test.YtiifnofghicnaaaDoorCards
import Derived.Test.YtiifnofghicnaaaDoorTie
import Derived.Test.YtiifnofghicnaaaDoorLawB
import Derived.WalkKit
import Derived.ProofKit
import Derived.OpenShut
import Derived.ShutString
import Derived.ChangeOld
import Derived.Below
import Derived.SizedLaws
import Derived.Lib.SmallJoins
import Derived.LaidMore
import Derived.LaidLaws
import Derived.LaidHandle
import Derived.Stop.Joined
import Derived.SevenTiedAt
namespace Go.Proofs.YtiifnofghicnaaaDoor.fnWideBack
open Go.ChangeShapes Go.WideShapes Go.ChangeAt Go.RowKit Go.Joins
set_option linter.unusedVariables false
theorem own : ownKnob Tryd.prog.godebug = none := by kernel_rfl
theorem cells24 : Tryd.prog.cellsOf 24 = 2 := by kernel_rfl
theorem door_met (os : Os) (args : Array Value) : laidMetH Tryd.prog Rows.fnWideBackRow.laid ((World.doorLaid Tryd.prog 400 os).forCall (fun _ _ => 0) ⟨#[], args, []⟩).memory :=
  laidMetH_of_parts3 (fuel := 8) (laidMet_of_run' 8 (by kernel_rfl) (by kernel_rfl)) (by kernel_rfl) (by kernel_rfl)
set_option maxRecDepth 100000 in
theorem lifted (os : Os) (started : os.Started) (H : Type) (enc : TypeId × Value → H) :
    ReturnsInHanded {} Tryd.checked os 9 .any (fun w args => (Rows.fnWideBackSpec.pre enc Tryd.prog Tryd.f9 [] false w args ∧ laidMetH Tryd.prog Rows.fnWideBackRow.laid w) ∧ sizedMet enc Tryd.prog Tryd.f9 (OpenSpec.ofChange Rows.fnWideBackSpec) false w args) (Rows.fnWideBackSpec.post enc Tryd.prog Tryd.f9 false true false false) := by
  refine returnsInHanded_of_change_and (C := Tryd.checked) (X := fun w _ => laidMetH Tryd.prog Rows.fnWideBackRow.laid w) (fun _ _ _ hh h => h.of_heap hh) own started (by kernel_rfl) Tryd.func9
    (ChangeSpec.witness_shaped (enc := enc) (C := Tryd.checked) (os := os) (X := fun w _ => laidMetH Tryd.prog Rows.fnWideBackRow.laid w) false (World.doorLaid Tryd.prog 400 os) #[.agg #[.int .u64 0, .int .u64 0], .agg #[.int .u64 0, .int .u64 0]] 8 rfl (World.shaped_of_RefB (by kernel_rfl) (by kernel_rfl)) (by kernel_rfl) (by kernel_rfl) (by kernel_rfl) (door_met os _)) ?_
  intro W base args ds gs before hval0 hW _ _ hL _
  have hval : ∀ (j : Nat) t v, Tryd.f9.params[j]? = some t → args[j]? = some v → Value.okWide Tryd.prog W .any base t v := hval0
  have hW' := hW
  obtain ⟨p, q, hA0, hV, rfl, hfz, hnd⟩ := hW
  have hA : DataW.TrodAll enc Tryd.prog W 0 (fun _ => true) true Tryd.f9.params.toList args.toList ds p := hA0
  rw [Tryd.params9] at hA hval
  obtain ⟨v0, vs0, d0, ds0, p0, q0, hargs, rfl, rfl, h0, r0⟩ := trodAll_cons hA
  obtain ⟨v1, vs1, d1, ds1, p1, q1, rfl, rfl, rfl, h1, r1⟩ := trodAll_cons r0
  obtain ⟨rfl, rfl, rfl⟩ := trodAll_nil r1
  obtain rfl : args = #[v0, v1] := by cases args; simp_all
  obtain ⟨rfl, rfl⟩ := trodVars_none hV
  obtain ⟨c00, c01, y00, y01, m0, rfl, rfl, rfl, hy00, hy01⟩ := open_agg2 Tryd.underlying24 (by kernel_rfl) cells24 (hval 0 24 v0 rfl rfl) h0
  obtain ⟨a00, e00, rfl, w00⟩ := DataW.trod_int Tryd.underlying22 hy00
  obtain ⟨a01, e01, rfl, w01⟩ := DataW.trod_int Tryd.underlying22 hy01
  simp at e00 e01
  subst e00 e01
  have sr0 : ∀ (W' : World) (sp : Nat → Bool), DataW.Trod enc Tryd.prog W' 0 sp true 24 (.agg #[.int .u64 a00, .int .u64 a01]) (.agg [.lit (.int .u64 a00), .lit (.int .u64 a01)]) [] := fun W' sp =>
    shut_agg2 (y0 := (.lit (.int .u64 a00), [])) (y1 := (.lit (.int .u64 a01), [])) Tryd.underlying24 (by kernel_rfl) cells24 ⟨1, by simp [DataW.trod, Tryd.underlying22, w00]⟩ ⟨1, by simp [DataW.trod, Tryd.underlying22, w01]⟩
  have b00 := w00; simp only [Lit.wf, Bool.and_eq_true, decide_eq_true_eq] at b00
  have b01 := w01; simp only [Lit.wf, Bool.and_eq_true, decide_eq_true_eq] at b01
  obtain ⟨c10, c11, y10, y11, m1, rfl, rfl, rfl, hy10, hy11⟩ := open_agg2 Tryd.underlying24 (by kernel_rfl) cells24 (hval 1 24 v1 rfl rfl) h1
  obtain ⟨a10, e10, rfl, w10⟩ := DataW.trod_int Tryd.underlying22 hy10
  obtain ⟨a11, e11, rfl, w11⟩ := DataW.trod_int Tryd.underlying22 hy11
  simp at e10 e11
  subst e10 e11
  have sr1 : ∀ (W' : World) (sp : Nat → Bool), DataW.Trod enc Tryd.prog W' 0 sp true 24 (.agg #[.int .u64 a10, .int .u64 a11]) (.agg [.lit (.int .u64 a10), .lit (.int .u64 a11)]) [] := fun W' sp =>
    shut_agg2 (y0 := (.lit (.int .u64 a10), [])) (y1 := (.lit (.int .u64 a11), [])) Tryd.underlying24 (by kernel_rfl) cells24 ⟨1, by simp [DataW.trod, Tryd.underlying22, w10]⟩ ⟨1, by simp [DataW.trod, Tryd.underlying22, w11]⟩
  have b10 := w10; simp only [Lit.wf, Bool.and_eq_true, decide_eq_true_eq] at b10
  have b11 := w11; simp only [Lit.wf, Bool.and_eq_true, decide_eq_true_eq] at b11
  clear hA0 hval0
  refine (PAll.back_walk a00 a01 a10 a11 b00 b01 b10 b11 W hL).mono fun e W' ⟨he, bel⟩ => ?_
  subst he
  exact ⟨_, rfl, _, _, _, [], _, [], hW', trodAll_mk1 (shut_bool Tryd.underlying4 _), (trodAll_cons_mk (sr0 _ _) (trodAll_cons_mk (sr1 _ _) trodAll_mk0)), rfl, bel.frame _, fun h => by cases h⟩
theorem over : Rows.fnWideBackRow.holds Tryd.pinned (OpenSpec.ofChange Rows.fnWideBackSpec) :=
  OpenClaim.holds_of_wide 9 Tryd.f9 rfl rfl rfl rfl rfl rfl rfl ⟨rfl, rfl, rfl, rfl, rfl⟩ rfl rfl rfl rfl rfl (by kernel_rfl) Tryd.func9 (by kernel_rfl)
    (of_decide_eq_true (by kernel_rfl)) (by unfold Func.isWrapper; first | (rw [if_pos (by decide +kernel)]; kernel_rfl) | (rw [if_neg (by decide +kernel)]; exact ⟨rfl, rfl⟩))
    (fun os started H enc _ => lifted os started H enc)
theorem proved : Rows.FnWideBackSaid := over
theorem carded : Rows.FnWideBackCardSaid :=
  Claim7.holds_tied_plain_at .later [] [.sentinel, .sentinel] true (true, "fb46fe1f5bb39fb5f74f659d942952184e1538aa198083185c96437e5ab896ec") false
    proved (fun _ h => by cases h) (by kernel_rfl) (fun _ h => by cases h) fnWideBack_row_tie rfl ⟨rfl, rfl⟩ (by kernel_rfl) rfl
    (fun f fn hf hfn => by
      obtain rfl : f = 9 := Option.some.inj ((show Tryd.prog.funcNamed "pub-hashloom/laws.FnWideBack" = some 9 by kernel_rfl).symm.trans hf) |>.symm
      obtain rfl : fn = Tryd.f9 := (Option.some.inj (Tryd.func9.symm.trans hfn)).symm
      exact ⟨by kernel_rfl, fun j t ht => by
        rw [Tryd.params9] at ht
        have hm : t ∈ [24, 24] := by simpa using Array.mem_of_getElem? ht
        have hall : ([24, 24].all fun u => !Tryd.prog.wantsStandIn u) = true := by kernel_rfl
        exact (show Tryd.prog.wantsStandIn t = false by simpa using List.all_eq_true.1 hall t hm)⟩)
    (by kernel_rfl)
#print axioms carded
end Go.Proofs.YtiifnofghicnaaaDoor.fnWideBack
namespace Go.Proofs.YtiifnofghicnaaaDoor
theorem fnWideBack_holds : Rows.FnWideBackCardSaid := fnWideBack.carded
end Go.Proofs.YtiifnofghicnaaaDoor
