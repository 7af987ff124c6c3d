/- Printed by the kit's print.py, called for several laws at once: functions as plain Lean, and the walks' contracts. -/
import Derived.Test.YtiifnofghicnaaaQAllx0
import Derived.Test.YtiifnofghicnaaaQAllx14
namespace Go.Proofs.Ytiifnofghicnaaa.PAll
open Go.RowKit Go.Proofs.YtiifnofghicnaaaW.PrintWords Go.Proofs.YtiifnofghicnaaaW.PrintLast Go.Proofs.YtiifnofghicnaaaW.PrintMore
attribute [local go_sem] max2_int min2_int max_two min_two max_three min_three max_four min_four   -- for this text's walks alone
set_option linter.unusedVariables false
set_option linter.unusedSimpArgs false

/-! ### uint128_Uint128_MulWrap: function 112 -/
def mwHi (a b c d : Nat) : Nat := (mHi a c + b * c + a * d) % 18446744073709551616
theorem mw_val (a b c d : Nat) : (a + b * 18446744073709551616) * (c + d * 18446744073709551616) = a * c + (b * c + a * d) * 18446744073709551616 + b * d * 340282366920938463463374607431768211456 := by grind
theorem mw_hi (a b c d : Nat) : IntKind.u64.wrap ((mHi a c : Int) + IntKind.u64.wrap (IntKind.u64.wrap ((b : Int) * (c : Int)) + IntKind.u64.wrap ((a : Int) * (d : Int)))) = (mwHi a b c d : Int) := by
  simp only [IntKind.wrap_u64]
  unfold mwHi
  have e1 : (b : Int) * (c : Int) = ((b * c : Nat) : Int) := by simp
  have e2 : (a : Int) * (d : Int) = ((a * d : Nat) : Int) := by simp
  rw [e1, e2]
  omega
theorem mw_1 (a b c d : Nat) : mLo a c = (a + b * 18446744073709551616) * (c + d * 18446744073709551616) % 18446744073709551616 ∧ mwHi a b c d = (a + b * 18446744073709551616) * (c + d * 18446744073709551616) / 18446744073709551616 % 18446744073709551616 := by
  rw [mw_val]
  unfold mwHi mHi mLo
  generalize a * c = x
  generalize b * c = y
  generalize a * d = z
  generalize b * d = t
  omega
def uint128_Uint128_MulWrap.f (a0_0 a0_1 a1_0 a1_1 : Int) : Option (Int × Int) := if U64 a0_0 ∧ U64 a0_1 ∧ U64 a1_0 ∧ U64 a1_1 then some (halves (N128 a0_0 a0_1 * N128 a1_0 a1_1)) else none
set_option maxHeartbeats 2000000 in
set_option maxRecDepth 100000 in
theorem MulWrap_nat (a b c d : Nat) (ha : a < 18446744073709551616) (hb : b < 18446744073709551616) (hc : c < 18446744073709551616) (hd : d < 18446744073709551616) (w : World) :
    Calls Try.prog 112 #[.agg #[.int .u64 a, .int .u64 b], .agg #[.int .u64 c, .int .u64 d]] w fun e w' => e = .returned (.agg #[.int .u64 (mLo a c : Int), .int .u64 (mwHi a b c d : Int)]) ∧ Below w.heap.size w w' := by
  have m1 := Lib.hid (mul64_law a c ha hc)
  have h1 := Lib.hid (mw_hi a b c d)
  clear ha hb hc hd
  go_enter Try.func112, Try.ntmps112
  go_wp2_with fail
  refine (bits_Mul64.calls _ _ _ _ _ m1.out).mono ?_
  rintro e w1 ⟨rfl, ⟨⟨n1, rfl⟩⟩⟩
  go_wp2
  refine bodyPost_ret (v := .agg #[.int .u64 (mLo a c : Int), .int .u64 (mwHi a b c d : Int)]) (by rw [← h1.out]; simp [results, Try.results112, go_sem]) rfl ⟨rfl, ?_⟩
  exact by repeat (first | exact Below.refl _ _ | apply pw_below_drewN | apply below_alloc | refine Below.setCell ?_ (by (try simp only [Nat.le_refl]); omega) _)
theorem uint128_Uint128_MulWrap.calls (a0_0 : Int) (a0_1 : Int) (a1_0 : Int) (a1_1 : Int) (r1 : Int) (r2 : Int) (w : World) (h : uint128_Uint128_MulWrap.f a0_0 a0_1 a1_0 a1_1 = some (r1, r2)) :
    Calls Try.prog 112 #[.agg #[.int .u64 a0_0, .int .u64 a0_1], .agg #[.int .u64 a1_0, .int .u64 a1_1]] w fun e w' => e = .returned (.agg #[.int .u64 r1, .int .u64 r2]) ∧ Below w.heap.size w w' := by
  unfold uint128_Uint128_MulWrap.f at h
  split at h
  case isFalse => cases h
  rename_i hb
  obtain ⟨ka, kb, kc, kd⟩ := hb
  obtain ⟨a, rfl, ha⟩ := ka.nat
  obtain ⟨b, rfl, hb⟩ := kb.nat
  obtain ⟨c, rfl, hc⟩ := kc.nat
  obtain ⟨d, rfl, hd⟩ := kd.nat
  have e := Option.some.inj h
  simp only [halves, N128, Int.toNat_natCast, Prod.mk.injEq] at e
  rw [← (mw_1 a b c d).1, ← (mw_1 a b c d).2] at e
  obtain ⟨rfl, rfl⟩ := e
  exact MulWrap_nat a b c d ha hb hc hd w

end Go.Proofs.Ytiifnofghicnaaa.PAll
