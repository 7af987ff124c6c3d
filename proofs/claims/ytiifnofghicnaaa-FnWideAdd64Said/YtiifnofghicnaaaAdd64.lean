/- FnWideAdd64: the law's function answers true. -/
import Derived.Test.YtiifnofghicnaaaFitsLaw
import Derived.Test.YtiifnofghicnaaaCmpLaw
import Derived.Test.YtiifnofghicnaaaQAllx34
namespace Go.Proofs.Ytiifnofghicnaaa.PAll
open Go.RowKit Go.Proofs.YtiifnofghicnaaaW.PrintWords Go.Proofs.YtiifnofghicnaaaW.PrintLast Go.Proofs.YtiifnofghicnaaaW.PrintMore
theorem add64_pure {a b c : Int} (ha : U64 a) (hb : U64 b) (hc : U64 c) : laws_FnWideAdd64.f 300 a b c = some true := by
  unfold laws_FnWideAdd64.f
  have n1 := nd_128 (N128_lt ha hb)
  have n2 := nd_64 hc
  have n3 : Dig.nd (N128 a b + c.toNat) ≤ 9 := Dig.nd_le (by have := N128_lt ha hb; have := hc.2; omega)
  have p1 := plus_law (N128 a b) c.toNat 300 (by omega) (by omega) (by omega)
  have f1 := fits_law (N128 a b + c.toNat) 300 (by omega) (by omega)
  rw [bnd (whole_law ha hb), bnd (small_law hc), bnd p1]
  by_cases hlt : N128 a b + c.toNat < 340282366920938463463374607431768211456
  · have hi : impl_WideAdd64.f a b c = some ((halves (N128 a b + c.toNat)).1, (halves (N128 a b + c.toNat)).2, true) := by
      unfold impl_WideAdd64.f
      rw [if_pos ⟨ha, hb, hc⟩, if_pos hlt]
    rw [bnd hi, bnd f1, if_pos (by rw [decide_eq_true hlt]; rfl), if_pos rfl, bnd (is_self _ 300 (by decide))]
  · have hi : impl_WideAdd64.f a b c = some (0, 0, false) := by
      unfold impl_WideAdd64.f
      rw [if_pos ⟨ha, hb, hc⟩, if_neg hlt]
    rw [bnd hi, bnd f1, if_pos (by rw [decide_eq_false hlt]; rfl), if_neg (by decide)]
theorem add64_walk (a b c : Int) (ha : 0 ≤ a ∧ a ≤ 18446744073709551615) (hb : 0 ≤ b ∧ b ≤ 18446744073709551615) (hc : 0 ≤ c ∧ c ≤ 18446744073709551615) (w : World) :
    Calls Try.prog 17 #[.agg #[.int .u64 a, .int .u64 b], .int .u64 c] w fun e w' => e = .returned (.bool true) ∧ Below w.heap.size w w' :=
  laws_FnWideAdd64.calls 300 a b c true w (add64_pure (U64.of ha) (U64.of hb) (U64.of hc))
end Go.Proofs.Ytiifnofghicnaaa.PAll
