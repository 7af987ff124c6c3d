/- FnWideMul: the law's function answers true. -/
import Derived.Test.YtiifnofghicnaaaMulBase
import Derived.Test.YtiifnofghicnaaaFitsLaw
import Derived.Test.YtiifnofghicnaaaQAllx40
namespace Go.Proofs.Ytiifnofghicnaaa.PAll
open Go.RowKit Go.Proofs.YtiifnofghicnaaaW.PrintWords Go.Proofs.YtiifnofghicnaaaW.PrintLast Go.Proofs.YtiifnofghicnaaaW.PrintMore
theorem mul_pure {a b c d : Int} (ha : U64 a) (hb : U64 b) (hc : U64 c) (hd : U64 d) : laws_FnWideMul.f 400 a b c d = some true := by
  unfold laws_FnWideMul.f
  have p1 := product_128 (nd_128 (N128_lt ha hb)) (nd_128 (N128_lt hc hd))
  have n3 := nd_prod (N128_lt ha hb) (N128_lt hc hd)
  have f1 := fits_law (N128 a b * N128 c d) 400 (Nat.le_trans n3 (by decide)) (fits_400 n3)
  rw [bnd (whole_law ha hb), bnd (whole_law hc hd), bnd p1, bnd f1]
  by_cases hlt : N128 a b * N128 c d < 340282366920938463463374607431768211456
  · have hi : impl_WideMul.f a b c d = some ((halves (N128 a b * N128 c d)).1, (halves (N128 a b * N128 c d)).2, true) := by
      unfold impl_WideMul.f
      rw [if_pos ⟨ha, hb, hc, hd⟩, if_pos hlt]
    rw [if_pos (decide_eq_true hlt), bnd hi, if_pos rfl, bnd (is_self _ 400 (by decide))]
  · rw [if_neg (by rw [decide_eq_true_eq]; exact hlt)]
theorem mul_walk (a b c d : Int) (ha : 0 ≤ a ∧ a ≤ 18446744073709551615) (hb : 0 ≤ b ∧ b ≤ 18446744073709551615) (hc : 0 ≤ c ∧ c ≤ 18446744073709551615) (hd : 0 ≤ d ∧ d ≤ 18446744073709551615) (w : World) :
    Calls Try.prog 22 #[.agg #[.int .u64 a, .int .u64 b], .agg #[.int .u64 c, .int .u64 d]] w fun e w' => e = .returned (.bool true) ∧ Below w.heap.size w w' :=
  laws_FnWideMul.calls 400 a b c d true w (mul_pure (U64.of ha) (U64.of hb) (U64.of hc) (U64.of hd))
end Go.Proofs.Ytiifnofghicnaaa.PAll
