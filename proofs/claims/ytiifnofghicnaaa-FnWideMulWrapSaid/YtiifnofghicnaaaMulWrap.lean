/- FnWideMulWrap: MulWrap is a product modulo 2^128: the law's function answers true. -/
import Derived.Test.YtiifnofghicnaaaMulBase
import Derived.Test.YtiifnofghicnaaaQAllx36
namespace Go.Proofs.Ytiifnofghicnaaa.PAll
open Go.RowKit Go.Proofs.YtiifnofghicnaaaW.PrintWords Go.Proofs.YtiifnofghicnaaaW.PrintLast Go.Proofs.YtiifnofghicnaaaW.PrintMore
theorem impl_mulWrap {a b c d : Int} (ha : U64 a) (hb : U64 b) (hc : U64 c) (hd : U64 d) : impl_WideMulWrap.f a b c d = some (halves (N128 a b * N128 c d)) := by
  unfold impl_WideMulWrap.f
  have e : uint128_Uint128_MulWrap.f a b c d = some (halves (N128 a b * N128 c d)) := by
    unfold uint128_Uint128_MulWrap.f
    rw [if_pos ⟨ha, hb, hc, hd⟩]
  rw [bnd (show impl_Wide_u.f a b = some (a, b) from rfl), bnd (show impl_Wide_u.f c d = some (c, d) from rfl), bnd e]
  rfl
theorem impl_mulWrap64 {a b c : Int} (ha : U64 a) (hb : U64 b) (hc : U64 c) : impl_WideMulWrap64.f a b c = some (halves (N128 a b * c.toNat)) := by
  unfold impl_WideMulWrap64.f
  have e : uint128_Uint128_MulWrap64.f a b c = some (halves (N128 a b * c.toNat)) := by
    unfold uint128_Uint128_MulWrap64.f
    rw [if_pos ⟨ha, hb, hc⟩]
  rw [bnd (show impl_Wide_u.f a b = some (a, b) from rfl), bnd e]
  rfl
theorem mulWrap_pure {a b c d e : Int} (ha : U64 a) (hb : U64 b) (hc : U64 c) (hd : U64 d) (he : U64 e) : laws_FnWideMulWrap.f 400 a b c d e = some true := by
  unfold laws_FnWideMulWrap.f
  have p1 := product_128 (nd_128 (N128_lt ha hb)) (nd_128 (N128_lt hc hd))
  have p2 := product_128 (nd_128 (N128_lt ha hb)) (nd_64' he)
  rw [bnd (impl_mulWrap ha hb hc hd), bnd (whole_law ha hb), bnd (whole_law hc hd), bnd p1, bnd (is_self _ 400 (by decide)), if_pos rfl,
    bnd (impl_mulWrap64 ha hb he), bnd (whole_law ha hb), bnd (small_law he), bnd p2, bnd (is_self _ 400 (by decide))]
theorem mulWrap_walk (a b c d e : Int) (ha : 0 ≤ a ∧ a ≤ 18446744073709551615) (hb : 0 ≤ b ∧ b ≤ 18446744073709551615) (hc : 0 ≤ c ∧ c ≤ 18446744073709551615) (hd : 0 ≤ d ∧ d ≤ 18446744073709551615) (he : 0 ≤ e ∧ e ≤ 18446744073709551615) (w : World) :
    Calls Try.prog 18 #[.agg #[.int .u64 a, .int .u64 b], .agg #[.int .u64 c, .int .u64 d], .int .u64 e] w fun e w' => e = .returned (.bool true) ∧ Below w.heap.size w w' :=
  laws_FnWideMulWrap.calls 400 a b c d e true w (mulWrap_pure (U64.of ha) (U64.of hb) (U64.of hc) (U64.of hd) (U64.of he))
end Go.Proofs.Ytiifnofghicnaaa.PAll
