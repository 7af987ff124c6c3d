/- FnWideSubWrap: SubWrap is a difference modulo 2^128: the law's function answers true. -/
import Derived.Test.YtiifnofghicnaaaMinusLaw
import Derived.Test.YtiifnofghicnaaaPAllx9
namespace Go.Proofs.Ytiifnofghicnaaa.PAll
open Go.RowKit Go.Proofs.YtiifnofghicnaaaW.PrintWords Go.Proofs.YtiifnofghicnaaaW.PrintLast Go.Proofs.YtiifnofghicnaaaW.PrintMore
theorem impl_subWrap {a b c d : Int} (ha : U64 a) (hb : U64 b) (hc : U64 c) (hd : U64 d) : impl_WideSubWrap.f a b c d = some (halves (N128 a b + 340282366920938463463374607431768211456 - N128 c d)) := by
  unfold impl_WideSubWrap.f
  have e : uint128_Uint128_SubWrap.f a b c d = some (halves (N128 a b + 340282366920938463463374607431768211456 - N128 c d)) := by
    unfold uint128_Uint128_SubWrap.f
    rw [if_pos ⟨ha, hb, hc, hd⟩]
  rw [bnd (show impl_Wide_u.f a b = some (a, b) from rfl), bnd (show impl_Wide_u.f c d = some (c, d) from rfl), bnd e]
  rfl
theorem impl_subWrap64 {a b c : Int} (ha : U64 a) (hb : U64 b) (hc : U64 c) : impl_WideSubWrap64.f a b c = some (halves (N128 a b + 340282366920938463463374607431768211456 - c.toNat)) := by
  unfold impl_WideSubWrap64.f
  have e : uint128_Uint128_SubWrap64.f a b c = some (halves (N128 a b + 340282366920938463463374607431768211456 - c.toNat)) := by
    unfold uint128_Uint128_SubWrap64.f
    rw [if_pos ⟨ha, hb, hc⟩]
  rw [bnd (show impl_Wide_u.f a b = some (a, b) from rfl), bnd e]
  rfl
theorem subWrap_pure {a b c d e : Int} (ha : U64 a) (hb : U64 b) (hc : U64 c) (hd : U64 d) (he : U64 e) : laws_FnWideSubWrap.f 100 a b c d e = some true := by
  unfold laws_FnWideSubWrap.f
  have p1 := less_law (N128 a b) (N128 c d) (N128_lt ha hb) (N128_lt hc hd)
  have p2 := less_law (N128 a b) e.toNat (N128_lt ha hb) (by have := he.1; have := he.2; omega)
  rw [bnd (impl_subWrap ha hb hc hd), bnd (whole_law ha hb), bnd (whole_law hc hd), bnd p1, bnd (is_self _ 100 (by decide)), if_pos rfl,
    bnd (impl_subWrap64 ha hb he), bnd (whole_law ha hb), bnd (small_law he), bnd p2, bnd (is_self _ 100 (by decide))]
theorem subWrap_walk (a b c d e : Int) (ha : 0 ≤ a ∧ a ≤ 18446744073709551615) (hb : 0 ≤ b ∧ b ≤ 18446744073709551615) (hc : 0 ≤ c ∧ c ≤ 18446744073709551615) (hd : 0 ≤ d ∧ d ≤ 18446744073709551615) (he : 0 ≤ e ∧ e ≤ 18446744073709551615) (w : World) :
    Calls Try.prog 11 #[.agg #[.int .u64 a, .int .u64 b], .agg #[.int .u64 c, .int .u64 d], .int .u64 e] w fun e w' => e = .returned (.bool true) ∧ Below w.heap.size w w' :=
  laws_FnWideSubWrap.calls 100 a b c d e true w (subWrap_pure (U64.of ha) (U64.of hb) (U64.of hc) (U64.of hd) (U64.of he))
end Go.Proofs.Ytiifnofghicnaaa.PAll
