/- FnWideAddWrap: AddWrap is a sum modulo 2^128: the law's function answers true. -/
import Derived.Test.YtiifnofghicnaaaPlusLaw
import Derived.Test.YtiifnofghicnaaaPAllx11
namespace Go.Proofs.Ytiifnofghicnaaa.PAll
open Go.RowKit Go.Proofs.YtiifnofghicnaaaW.PrintWords Go.Proofs.YtiifnofghicnaaaW.PrintLast Go.Proofs.YtiifnofghicnaaaW.PrintMore
theorem impl_addWrap {a b c d : Int} (ha : U64 a) (hb : U64 b) (hc : U64 c) (hd : U64 d) : impl_WideAddWrap.f a b c d = some (halves (N128 a b + N128 c d)) := by
  unfold impl_WideAddWrap.f
  have e : uint128_Uint128_AddWrap.f a b c d = some (halves (N128 a b + N128 c d)) := by
    unfold uint128_Uint128_AddWrap.f
    rw [if_pos ⟨ha, hb, hc, hd⟩]
  rw [bnd (show impl_Wide_u.f a b = some (a, b) from rfl), bnd (show impl_Wide_u.f c d = some (c, d) from rfl), bnd e]
  rfl
theorem impl_addWrap64 {a b c : Int} (ha : U64 a) (hb : U64 b) (hc : U64 c) : impl_WideAddWrap64.f a b c = some (halves (N128 a b + c.toNat)) := by
  unfold impl_WideAddWrap64.f
  have e : uint128_Uint128_AddWrap64.f a b c = some (halves (N128 a b + c.toNat)) := by
    unfold uint128_Uint128_AddWrap64.f
    rw [if_pos ⟨ha, hb, hc⟩]
  rw [bnd (show impl_Wide_u.f a b = some (a, b) from rfl), bnd e]
  rfl
theorem addWrap_pure {a b c d e : Int} (ha : U64 a) (hb : U64 b) (hc : U64 c) (hd : U64 d) (he : U64 e) : laws_FnWideAddWrap.f 100 a b c d e = some true := by
  unfold laws_FnWideAddWrap.f
  have n1 := nd_128 (N128_lt ha hb)
  have n2 := nd_128 (N128_lt hc hd)
  have n3 := nd_64 he
  have p1 := plus_law (N128 a b) (N128 c d) 100 (by omega) (by omega) (by omega)
  have p2 := plus_law (N128 a b) e.toNat 100 (by omega) (by omega) (by omega)
  rw [bnd (impl_addWrap ha hb hc hd), bnd (whole_law ha hb), bnd (whole_law hc hd), bnd p1, bnd (is_self _ 100 (by decide)), if_pos rfl,
    bnd (impl_addWrap64 ha hb he), bnd (whole_law ha hb), bnd (small_law he), bnd p2, bnd (is_self _ 100 (by decide))]
theorem addWrap_walk (a b c d e : Int) (ha : 0 ≤ a ∧ a ≤ 18446744073709551615) (hb : 0 ≤ b ∧ b ≤ 18446744073709551615) (hc : 0 ≤ c ∧ c ≤ 18446744073709551615) (hd : 0 ≤ d ∧ d ≤ 18446744073709551615) (he : 0 ≤ e ∧ e ≤ 18446744073709551615) (w : World) :
    Calls Try.prog 12 #[.agg #[.int .u64 a, .int .u64 b], .agg #[.int .u64 c, .int .u64 d], .int .u64 e] w fun e w' => e = .returned (.bool true) ∧ Below w.heap.size w w' :=
  laws_FnWideAddWrap.calls 100 a b c d e true w (addWrap_pure (U64.of ha) (U64.of hb) (U64.of hc) (U64.of hd) (U64.of he))
end Go.Proofs.Ytiifnofghicnaaa.PAll
