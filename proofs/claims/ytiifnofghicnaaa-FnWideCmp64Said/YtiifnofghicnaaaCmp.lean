/- FnWideCmp, FnWideCmp64: numbers are compared as whole numbers: the laws' functions answer true. -/
import Derived.Test.YtiifnofghicnaaaCmpLaw
import Derived.Test.YtiifnofghicnaaaPAllx6
import Derived.Test.YtiifnofghicnaaaPAllx7
namespace Go.Proofs.Ytiifnofghicnaaa.PAll
open Go.RowKit Go.Proofs.YtiifnofghicnaaaW.PrintWords Go.Proofs.YtiifnofghicnaaaW.PrintLast Go.Proofs.YtiifnofghicnaaaW.PrintMore
theorem cmpN_is {a b c d : Int} (ha : U64 a) (hb : U64 b) (hc : U64 c) (hd : U64 d) :
    cmpN (N128 a b) (N128 c d) = if a = c ∧ b = d then 0 else if b < d ∨ (b = d ∧ a < c) then -1 else 1 := by
  obtain ⟨h1, h2⟩ := ha
  obtain ⟨h3, h4⟩ := hb
  obtain ⟨h5, h6⟩ := hc
  obtain ⟨h7, h8⟩ := hd
  unfold cmpN N128
  split <;> split <;> (try split) <;> (try split) <;> omega
theorem impl_cmp {a b c d : Int} : impl_WideCmp.f a b c d = some (if a = c ∧ b = d then 0 else if b < d ∨ (b = d ∧ a < c) then -1 else 1) := rfl
theorem impl_equals {a b c d : Int} : impl_WideEquals.f a b c d = some (a == c && (b == d)) := rfl
theorem cmp_pure {a b c d : Int} (ha : U64 a) (hb : U64 b) (hc : U64 c) (hd : U64 d) : laws_FnWideCmp.f 10 a b c d = some true := by
  unfold laws_FnWideCmp.f
  have n1 := nd_128 (N128_lt ha hb)
  have n2 := nd_128 (N128_lt hc hd)
  rw [bnd (whole_law ha hb), bnd (whole_law hc hd), bnd (compare_law _ _ 10 (by omega) (by omega) (by omega)), bnd impl_cmp, if_pos (cmpN_is ha hb hc hd).symm, bnd impl_equals, cmpN_is ha hb hc hd, if_pos, bnd impl_equals]
  · simp
  · rw [beq_iff_eq, Bool.eq_iff_iff]
    simp only [Bool.and_eq_true, beq_iff_eq]
    split
    · simp_all
    · split <;> simp_all
theorem cmp_walk (a b c d : Int) (ha : 0 ≤ a ∧ a ≤ 18446744073709551615) (hb : 0 ≤ b ∧ b ≤ 18446744073709551615) (hc : 0 ≤ c ∧ c ≤ 18446744073709551615) (hd : 0 ≤ d ∧ d ≤ 18446744073709551615) (w : World) :
    Calls Try.prog 9 #[.agg #[.int .u64 a, .int .u64 b], .agg #[.int .u64 c, .int .u64 d]] w fun e w' => e = .returned (.bool true) ∧ Below w.heap.size w w' :=
  laws_FnWideCmp.calls 10 a b c d true w (cmp_pure (U64.of ha) (U64.of hb) (U64.of hc) (U64.of hd))
theorem impl_cmp64 {a b c : Int} (hb : 0 ≤ b) (k : Nat) : impl_WideCmp64.f (k + 1) a b c = some (if a = c ∧ b = 0 then 0 else if b < 0 ∨ (b = 0 ∧ a < c) then -1 else 1) := by
  simp only [impl_WideCmp64.f, uint128_Uint128_Cmp64.f, impl_Wide_u.f, Option.bind_some, uint128_Uint128_Cmp64.j0]
  by_cases h0 : b = 0
  · subst h0
    by_cases h1 : a = c
    · simp [h1]
    · by_cases h2 : a < c <;> simp [h1, h2]
  · have : ¬ b < 0 := by omega
    simp [h0, this]
theorem impl_equals64 {a b c : Int} : impl_WideEquals64.f a b c = some (a == c && (b == 0)) := by
  simp only [impl_WideEquals64.f, uint128_Uint128_Equals64.f, impl_Wide_u.f, Option.bind_some]
  by_cases h1 : a = c <;> simp [h1]
theorem cmp64_pure {a b c : Int} (ha : U64 a) (hb : U64 b) (hc : U64 c) : laws_FnWideCmp64.f 10 a b c = some true := by
  unfold laws_FnWideCmp64.f
  have n1 := nd_128 (N128_lt ha hb)
  have n2 := nd_64 hc
  have hz : U64 0 := by decide
  have e0 : c.toNat = N128 c 0 := by unfold N128; omega
  have hcmp := compare_law (N128 a b) c.toNat 10 (by omega) (by omega) (by omega)
  have hn := cmpN_is ha hb hc hz
  rw [← e0] at hn
  rw [bnd (whole_law ha hb), bnd (small_law hc), bnd hcmp, bnd (impl_cmp64 hb.1 9), if_pos hn.symm, bnd impl_equals64, hn, if_pos, bnd impl_equals64]
  · simp
  · have h3 := hb.1
    rw [beq_iff_eq, Bool.eq_iff_iff]
    simp only [Bool.and_eq_true, beq_iff_eq]
    split
    · simp_all
    · split <;> simp_all
theorem cmp64_walk (a b c : Int) (ha : 0 ≤ a ∧ a ≤ 18446744073709551615) (hb : 0 ≤ b ∧ b ≤ 18446744073709551615) (hc : 0 ≤ c ∧ c ≤ 18446744073709551615) (w : World) :
    Calls Try.prog 10 #[.agg #[.int .u64 a, .int .u64 b], .int .u64 c] w fun e w' => e = .returned (.bool true) ∧ Below w.heap.size w w' :=
  laws_FnWideCmp64.calls 10 a b c true w (cmp64_pure (U64.of ha) (U64.of hb) (U64.of hc))
end Go.Proofs.Ytiifnofghicnaaa.PAll
