/- Printed by the kit's print.py, called for several laws at once: functions as plain Lean, and the walks' contracts. -/
import Derived.Test.YtiifnofghicnaaaQAllx0
import Derived.Test.YtiifnofghicnaaaQAllx6
namespace Go.Proofs.Ytiifnofghicnaaa.PAll
open Go.RowKit Go.Proofs.YtiifnofghicnaaaW.PrintWords Go.Proofs.YtiifnofghicnaaaW.PrintLast Go.Proofs.YtiifnofghicnaaaW.PrintMore
attribute [local go_sem] max2_int min2_int max_two min_two max_three min_three max_four min_four   -- for this text's walks alone
set_option linter.unusedVariables false
set_option linter.unusedSimpArgs false

/-! ### uint128_Uint128_AddWrap64: function 99 -/
def uint128_Uint128_AddWrap64.f (a0_0 a0_1 a1 : Int) : Option (Int × Int) :=
  if U64 a0_0 ∧ U64 a0_1 ∧ U64 a1 then some (halves (N128 a0_0 a0_1 + a1.toNat)) else none
theorem addw64_1 (a b c : Nat) : aLo a c 0 = (a + b * 18446744073709551616 + c) % 18446744073709551616 := by unfold aLo; omega
theorem addw64_2 (a b c : Nat) (ha : a < 18446744073709551616) (hc : c < 18446744073709551616) : aLo b 0 (aHi a c 0) = (a + b * 18446744073709551616 + c) / 18446744073709551616 % 18446744073709551616 := by unfold aLo aHi; omega
set_option maxHeartbeats 2000000 in
set_option maxRecDepth 100000 in
theorem addwrap64_nat (a b c : Nat) (ha : a < 18446744073709551616) (hb : b < 18446744073709551616) (hc : c < 18446744073709551616) (w : World) :
    Calls Try.prog 99 #[.agg #[.int .u64 a, .int .u64 b], .int .u64 c] w fun e w' => e = .returned (.agg #[.int .u64 (aLo a c 0 : Int), .int .u64 (aLo b 0 (aHi a c 0) : Int)]) ∧ Below w.heap.size w w' := by
  have r1 := run_add64_0 a c
  have r2 : IntKind.u64.wrap ((b : Int) + (aHi a c 0 : Int)) = (aLo b 0 (aHi a c 0) : Int) := by rw [IntKind.wrap_u64]; unfold aLo; omega
  clear ha hb hc
  go_enter Try.func99, Try.ntmps99
  go_wp2
  refine bodyPost_ret (v := .agg #[.int .u64 (aLo a c 0 : Int), .int .u64 (aLo b 0 (aHi a c 0) : Int)]) (by simp [results, Try.results99, go_sem]) rfl ⟨rfl, ?_⟩
  exact ((Below.refl w.heap.size w).alloc (Nat.le_refl _) _).alloc (by simp) _
theorem uint128_Uint128_AddWrap64.calls (a0_0 : Int) (a0_1 : Int) (a1 : Int) (r1 : Int) (r2 : Int) (w : World) (h : uint128_Uint128_AddWrap64.f a0_0 a0_1 a1 = some (r1, r2)) :
    Calls Try.prog 99 #[.agg #[.int .u64 a0_0, .int .u64 a0_1], .int .u64 a1] w fun e w' => e = .returned (.agg #[.int .u64 r1, .int .u64 r2]) ∧ Below w.heap.size w w' := by
  unfold uint128_Uint128_AddWrap64.f at h
  split at h
  case isFalse => cases h
  rename_i hb
  obtain ⟨ka, kb, kc⟩ := hb
  obtain ⟨a, rfl, ha⟩ := ka.nat
  obtain ⟨b, rfl, hb⟩ := kb.nat
  obtain ⟨c, rfl, hc⟩ := kc.nat
  have e := Option.some.inj h
  simp only [halves, N128, Int.toNat_natCast, Prod.mk.injEq] at e
  rw [← addw64_1 a b c, ← addw64_2 a b c ha hc] at e
  obtain ⟨rfl, rfl⟩ := e
  exact addwrap64_nat a b c ha hb hc w

end Go.Proofs.Ytiifnofghicnaaa.PAll
