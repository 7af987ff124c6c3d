/- FnWideSub64: the law's function answers true. -/
import Derived.Test.YtiifnofghicnaaaFitsLaw
import Derived.Test.YtiifnofghicnaaaCmpLaw
import Derived.Test.YtiifnofghicnaaaQAllx32
namespace Go.Proofs.Ytiifnofghicnaaa.PAll
open Go.RowKit Go.Proofs.YtiifnofghicnaaaW.PrintWords Go.Proofs.YtiifnofghicnaaaW.PrintLast Go.Proofs.YtiifnofghicnaaaW.PrintMore
theorem sub64_pure {a b c : Int} (ha : U64 a) (hb : U64 b) (hc : U64 c) : laws_FnWideSub64.f 300 a b c = some true := by
  unfold laws_FnWideSub64.f
  have n1 := nd_128 (N128_lt ha hb)
  have n2 := nd_64 hc
  have c1 := compare_law (N128 a b) c.toNat 300 (by omega) (by decide) (by omega)
  have hc1 : decide (cmpN (N128 a b) c.toNat ≥ 0) = decide (c.toNat ≤ N128 a b) := by
    rw [decide_eq_decide]
    unfold cmpN
    split
    · omega
    · split <;> omega
  rw [bnd (whole_law ha hb), bnd (small_law hc)]
  by_cases hlt : c.toNat ≤ N128 a b
  · have p1 := minus_law (N128 a b) c.toNat 300 hlt (by omega) (by omega)
    have hi : impl_WideSub64.f a b c = some ((halves (N128 a b - c.toNat)).1, (halves (N128 a b - c.toNat)).2, true) := by
      unfold impl_WideSub64.f
      rw [if_pos ⟨ha, hb, hc⟩, if_pos hlt]
    rw [bnd hi, bnd c1, if_pos (by rw [hc1, decide_eq_true hlt]; rfl), if_pos rfl, bnd p1, bnd (is_self _ 300 (by decide))]
  · have hi : impl_WideSub64.f a b c = some (0, 0, false) := by
      unfold impl_WideSub64.f
      rw [if_pos ⟨ha, hb, hc⟩, if_neg hlt]
    rw [bnd hi, bnd c1, if_pos (by rw [hc1, decide_eq_false hlt]; rfl), if_neg (by decide)]
theorem sub64_walk (a b c : Int) (ha : 0 ≤ a ∧ a ≤ 18446744073709551615) (hb : 0 ≤ b ∧ b ≤ 18446744073709551615) (hc : 0 ≤ c ∧ c ≤ 18446744073709551615) (w : World) :
    Calls Try.prog 15 #[.agg #[.int .u64 a, .int .u64 b], .int .u64 c] w fun e w' => e = .returned (.bool true) ∧ Below w.heap.size w w' :=
  laws_FnWideSub64.calls 300 a b c true w (sub64_pure (U64.of ha) (U64.of hb) (U64.of hc))
end Go.Proofs.Ytiifnofghicnaaa.PAll
