/- FnWideZeroIs: a number is zero just if both halves are: the law's function answers true. -/
import Derived.Test.YtiifnofghicnaaaBase
import Derived.Test.YtiifnofghicnaaaPAllx3
namespace Go.Proofs.Ytiifnofghicnaaa.PAll
open Go.RowKit Go.Proofs.YtiifnofghicnaaaW.PrintWords Go.Proofs.YtiifnofghicnaaaW.PrintLast Go.Proofs.YtiifnofghicnaaaW.PrintMore
theorem zeroIs_pure {a b : Int} (ha : U64 a) (hb : U64 b) : laws_FnWideZeroIs.f a b = some true := by
  unfold laws_FnWideZeroIs.f
  rw [whole_law ha hb]
  simp only [impl_WideIsZero.f, uint128_Uint128_IsZero.f, impl_Wide_u.f, Option.bind_some]
  rw [Dig.dg_len, if_pos]
  · rfl
  · have h0 := ha.1
    have h1 := hb.1
    rw [beq_iff_eq, Bool.eq_iff_iff]
    simp only [Bool.and_eq_true, beq_iff_eq]
    have e : (((Dig.nd (N128 a b) : Nat) : Int) = 0) ↔ N128 a b = 0 := by rw [← Dig.nd_eq_zero]; omega
    rw [e]
    unfold N128
    omega
theorem zeroIs_walk (a b : Int) (ha : 0 ≤ a ∧ a ≤ 18446744073709551615) (hb : 0 ≤ b ∧ b ≤ 18446744073709551615) (w : World) :
    Calls Try.prog 3 #[.agg #[.int .u64 a, .int .u64 b]] w fun e w' => e = .returned (.bool true) ∧ Below w.heap.size w w' :=
  laws_FnWideZeroIs.calls a b true w (zeroIs_pure (U64.of ha) (U64.of hb))
end Go.Proofs.Ytiifnofghicnaaa.PAll
