/- FnHalfMade: the law's function answers true. -/
import Derived.Test.YtdepcnaiobfpkaaPAllx1
namespace Go.Proofs.Ytdepcnaiobfpkaa.PAll
open Go.RowKit Go.Proofs.YtdepcnaiobfpkaaW.PrintWords Go.Proofs.YtdepcnaiobfpkaaW.PrintLast Go.Proofs.YtdepcnaiobfpkaaW.PrintMore
theorem made_pure : laws_FnHalfMade.Pure := by
  intro a h
  by_cases ha : a < 0
  · have h2 : ¬ a ≥ 0 := by omega
    simp [laws_FnHalfMade.f, impl_HalfNaN.f, impl_HalfInf.f, float16_NaN.f, float16_Inf.f, float16_Float16_Bits.f, ha, h2]
  · have h2 : a ≥ 0 := by omega
    simp [laws_FnHalfMade.f, impl_HalfNaN.f, impl_HalfInf.f, float16_NaN.f, float16_Inf.f, float16_Float16_Bits.f, ha, h2]
theorem made_walk (a : Int) (h : -9223372036854775808 ≤ a ∧ a ≤ 9223372036854775807) (w : World) :
    Calls Try.prog 3 #[.int .i64 a] w fun e w' => e = .returned (.bool true) ∧ Below w.heap.size w w' :=
  laws_FnHalfMade.walk made_pure a w (by simp only [Lit.wf, Bool.and_eq_true, decide_eq_true_eq]; exact h)
end Go.Proofs.Ytdepcnaiobfpkaa.PAll
