/- FnWideMul64: the law's function answers true. -/
import Derived.Test.YtiifnofghicnaaaMulBase
import Derived.Test.YtiifnofghicnaaaFitsLaw
import Derived.Test.YtiifnofghicnaaaQAllx39
namespace Go.Proofs.Ytiifnofghicnaaa.PAll
open Go.RowKit Go.Proofs.YtiifnofghicnaaaW.PrintWords Go.Proofs.YtiifnofghicnaaaW.PrintLast Go.Proofs.YtiifnofghicnaaaW.PrintMore
theorem mul64_pure {a b c : Int} (ha : U64 a) (hb : U64 b) (hc : U64 c) : laws_FnWideMul64.f 400 a b c = some true := by
  unfold laws_FnWideMul64.f
  have p1 := product_128 (nd_128 (N128_lt ha hb)) (nd_64' hc)
  have n3 := nd_prod (N128_lt ha hb) (toNat_lt hc)
  have f1 := fits_law (N128 a b * c.toNat) 400 (Nat.le_trans n3 (by decide)) (fits_400 n3)
  rw [bnd (whole_law ha hb), bnd (small_law hc), bnd p1]
  by_cases hlt : N128 a b * c.toNat < 340282366920938463463374607431768211456
  · have hi : impl_WideMul64.f a b c = some ((halves (N128 a b * c.toNat)).1, (halves (N128 a b * c.toNat)).2, true) := by
      unfold impl_WideMul64.f
      rw [if_pos ⟨ha, hb, hc⟩, if_pos hlt]
    rw [bnd hi, bnd f1, if_pos (by rw [decide_eq_true hlt]; rfl), if_pos rfl, bnd (is_self _ 400 (by decide))]
  · have hi : impl_WideMul64.f a b c = some (0, 0, false) := by
      unfold impl_WideMul64.f
      rw [if_pos ⟨ha, hb, hc⟩, if_neg hlt]
    rw [bnd hi, bnd f1, if_pos (by rw [decide_eq_false hlt]; rfl), if_neg (by decide)]
theorem mul64_walk (a b c : Int) (ha : 0 ≤ a ∧ a ≤ 18446744073709551615) (hb : 0 ≤ b ∧ b ≤ 18446744073709551615) (hc : 0 ≤ c ∧ c ≤ 18446744073709551615) (w : World) :
    Calls Try.prog 21 #[.agg #[.int .u64 a, .int .u64 b], .int .u64 c] w fun e w' => e = .returned (.bool true) ∧ Below w.heap.size w w' :=
  laws_FnWideMul64.calls 400 a b c true w (mul64_pure (U64.of ha) (U64.of hb) (U64.of hc))
end Go.Proofs.Ytiifnofghicnaaa.PAll
