/- FnWideSub: the law's function answers true. -/
import Derived.Test.YtiifnofghicnaaaFitsLaw
import Derived.Test.YtiifnofghicnaaaCmpLaw
import Derived.Test.YtiifnofghicnaaaQAllx31
namespace Go.Proofs.Ytiifnofghicnaaa.PAll
open Go.RowKit Go.Proofs.YtiifnofghicnaaaW.PrintWords Go.Proofs.YtiifnofghicnaaaW.PrintLast Go.Proofs.YtiifnofghicnaaaW.PrintMore
theorem sub_pure {a b c d : Int} (ha : U64 a) (hb : U64 b) (hc : U64 c) (hd : U64 d) : laws_FnWideSub.f 300 a b c d = some true := by
  unfold laws_FnWideSub.f
  have n1 := nd_128 (N128_lt ha hb)
  have n2 := nd_128 (N128_lt hc hd)
  have c1 := compare_law (N128 a b) (N128 c d) 300 (by omega) (by decide) (by omega)
  have hc1 : decide (cmpN (N128 a b) (N128 c d) ≥ 0) = decide ((N128 c d) ≤ N128 a b) := by
    rw [decide_eq_decide]
    unfold cmpN
    split
    · omega
    · split <;> omega
  rw [bnd (whole_law ha hb), bnd (whole_law hc hd)]
  by_cases hlt : (N128 c d) ≤ N128 a b
  · have p1 := minus_law (N128 a b) (N128 c d) 300 hlt (by omega) (by omega)
    have hi : impl_WideSub.f a b c d = some ((halves (N128 a b - (N128 c d))).1, (halves (N128 a b - (N128 c d))).2, true) := by
      unfold impl_WideSub.f
      rw [if_pos ⟨ha, hb, hc, hd⟩, if_pos hlt]
    rw [bnd hi, bnd c1, if_pos (by rw [hc1, decide_eq_true hlt]; rfl), if_pos rfl, bnd p1, bnd (is_self _ 300 (by decide))]
  · have hi : impl_WideSub.f a b c d = some (0, 0, false) := by
      unfold impl_WideSub.f
      rw [if_pos ⟨ha, hb, hc, hd⟩, if_neg hlt]
    rw [bnd hi, bnd c1, if_pos (by rw [hc1, decide_eq_false hlt]; rfl), if_neg (by decide)]
theorem sub_walk (a b c d : Int) (ha : 0 ≤ a ∧ a ≤ 18446744073709551615) (hb : 0 ≤ b ∧ b ≤ 18446744073709551615) (hc : 0 ≤ c ∧ c ≤ 18446744073709551615) (hd : 0 ≤ d ∧ d ≤ 18446744073709551615) (w : World) :
    Calls Try.prog 14 #[.agg #[.int .u64 a, .int .u64 b], .agg #[.int .u64 c, .int .u64 d]] w fun e w' => e = .returned (.bool true) ∧ Below w.heap.size w w' :=
  laws_FnWideSub.calls 300 a b c d true w (sub_pure (U64.of ha) (U64.of hb) (U64.of hc) (U64.of hd))
end Go.Proofs.Ytiifnofghicnaaa.PAll
