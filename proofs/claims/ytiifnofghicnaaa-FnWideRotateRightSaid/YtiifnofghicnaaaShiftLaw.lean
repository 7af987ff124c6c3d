/- Shifts of numbers of 128 bits, bit by bit. -/
import Derived.Test.YtiifnofghicnaaaWordLaw
import Derived.Test.YtiifnofghicnaaaQAllx11
import Derived.Test.YtiifnofghicnaaaQAllx12
namespace Go.Proofs.Ytiifnofghicnaaa.PAll
open Go.RowKit Go.Proofs.YtiifnofghicnaaaW.PrintWords Go.Proofs.YtiifnofghicnaaaW.PrintLast Go.Proofs.YtiifnofghicnaaaW.PrintMore
theorem int_sub (n m : Nat) (h : m ≤ n) (hn : n < 18446744073709551616) : IntKind.u64.wrap ((n : Int) - (m : Int)) = ((n - m : Nat) : Int) := by
  rw [IntKind.wrap_u64]
  omega
theorem lsh_bits (x y n : Nat) (hx : x < 18446744073709551616) (_hy : y < 18446744073709551616) (hn : n < 18446744073709551616) :
    ∃ u v : Nat, uint128_Uint128_Lsh.f x y n = some ((u : Int), (v : Int)) ∧ u < 18446744073709551616 ∧ v < 18446744073709551616 ∧
      (∀ i, i < 64 → u.testBit i = (decide (n ≤ i) && (N128 (x : Int) (y : Int)).testBit (i - n))) ∧ (∀ i, i < 64 → v.testBit i = (decide (n ≤ i + 64) && (N128 (x : Int) (y : Int)).testBit (i + 64 - n))) := by
  unfold uint128_Uint128_Lsh.f
  by_cases h : n > 64
  · have e := int_sub n 64 (by omega) hn
    refine ⟨0, x * 2 ^ (n - 64) % 18446744073709551616, ?_, by decide, shl_lt _ _, ?_, ?_⟩
    · rw [if_pos (by omega), show ((64 : Nat) : Int) = 64 from rfl] at *
      rw [e, if_pos (by omega), shl_nat]
      rfl
    · intro i hi
      rw [decide_eq_false (by omega)]
      simp
    · intro i hi
      rw [bit_shl _ _ _ hi]
      by_cases h2 : n ≤ i + 64
      · rw [decide_eq_true h2, decide_eq_true (by omega), bit_whole _ _ _ hx, if_pos (by omega)]
        congr 2
        omega
      · rw [decide_eq_false h2, decide_eq_false (by omega)]
        simp
  · have e := int_sub 64 n (by omega) (by omega)
    refine ⟨x * 2 ^ n % 18446744073709551616, (y * 2 ^ n % 18446744073709551616) ||| (x / 2 ^ (64 - n)), ?_, shl_lt _ _, or_lt (shl_lt _ _) (shr_lt _ hx), ?_, ?_⟩
    · rw [if_neg (by omega), if_pos (by omega), show ((64 : Nat) : Int) = 64 from rfl] at *
      rw [e, if_pos (by omega), shl_nat, shl_nat, shr_nat _ _ hx, or_nat _ _ (shl_lt _ _) (shr_lt _ hx)]
    · intro i hi
      rw [bit_shl _ _ _ hi, bit_whole _ _ _ hx, if_pos (by omega)]
    · intro i hi
      rw [Nat.testBit_or, bit_shl _ _ _ hi, bit_shr, decide_eq_true (show n ≤ i + 64 by omega), bit_whole _ _ _ hx, Bool.true_and]
      by_cases h2 : n ≤ i
      · rw [decide_eq_true h2, if_neg (by omega), bit_high x (i + (64 - n)) hx (by omega)]
        simp
        congr 1
        omega
      · rw [decide_eq_false h2, if_pos (by omega)]
        simp
        congr 1
        omega
theorem rsh_bits (x y n : Nat) (hx : x < 18446744073709551616) (hy : y < 18446744073709551616) (hn : n < 18446744073709551616) :
    ∃ u v : Nat, uint128_Uint128_Rsh.f x y n = some ((u : Int), (v : Int)) ∧ u < 18446744073709551616 ∧ v < 18446744073709551616 ∧
      (∀ i, i < 64 → u.testBit i = (N128 (x : Int) (y : Int)).testBit (i + n)) ∧ (∀ i, i < 64 → v.testBit i = (N128 (x : Int) (y : Int)).testBit (i + 64 + n)) := by
  unfold uint128_Uint128_Rsh.f
  by_cases h : n > 64
  · have e := int_sub n 64 (by omega) hn
    refine ⟨y / 2 ^ (n - 64), 0, ?_, shr_lt _ hy, by decide, ?_, ?_⟩
    · rw [if_pos (by omega), show ((64 : Nat) : Int) = 64 from rfl] at *
      rw [e, if_pos (by omega), shr_nat _ _ hy]
      rfl
    · intro i hi
      rw [bit_shr, bit_whole _ _ _ hx, if_neg (by omega)]
      congr 1
      omega
    · intro i hi
      rw [bit_whole _ _ _ hx, if_neg (by omega), bit_high y _ hy (by omega)]
      simp
  · have e := int_sub 64 n (by omega) (by omega)
    refine ⟨(x / 2 ^ n) ||| (y * 2 ^ (64 - n) % 18446744073709551616), y / 2 ^ n, ?_, or_lt (shr_lt _ hx) (shl_lt _ _), shr_lt _ hy, ?_, ?_⟩
    · rw [if_neg (by omega), if_pos (by omega), show ((64 : Nat) : Int) = 64 from rfl] at *
      rw [e, if_pos (by omega), shl_nat, shr_nat _ _ hx, shr_nat _ _ hy, or_nat _ _ (shr_lt _ hx) (shl_lt _ _)]
    · intro i hi
      rw [Nat.testBit_or, bit_shl _ _ _ hi, bit_shr, bit_whole _ _ _ hx]
      by_cases h2 : i + n < 64
      · rw [if_pos h2, decide_eq_false (by omega)]
        simp
      · rw [if_neg h2, decide_eq_true (by omega), bit_high x _ hx (by omega)]
        simp
        congr 1
        omega
    · intro i hi
      rw [bit_shr, bit_whole _ _ _ hx, if_neg (by omega)]
      congr 1
      omega
theorem rot_bit (x i n : Nat) (hi : i < 128) (hn : n < 128) : spec_Big_Bit.f (Dig.dg x) (((i : Int) + 128 - (n : Int)).tmod 128) = some (x.testBit ((i + 128 - n) % 128)) := by
  have e : ((i : Int) + 128 - (n : Int)).tmod 128 = (((i + 128 - n) % 128 : Nat) : Int) := by
    rw [Int.tmod_eq_emod_of_nonneg (by omega)]
    omega
  rw [e, bit_law x _ (by omega)]
theorem rot_bit' (x i n : Nat) (hi : i < 128) (hn : n < 128) : spec_Big_Bit.f (Dig.dg x) (((i : Int) + (n : Int)).tmod 128) = some (x.testBit ((i + n) % 128)) := by
  have e : ((i : Int) + (n : Int)).tmod 128 = (((i + n) % 128 : Nat) : Int) := by
    rw [Int.tmod_eq_emod_of_nonneg (by omega)]
    omega
  rw [e, bit_law x _ (by omega)]
theorem wrap_mod (k : Int) (n : Nat) (h : k % 128 = n) : wrap64 ((IntKind.u64.wrap k).tmod 128) = (n : Int) := by
  rw [IntKind.wrap_u64, Int.tmod_eq_emod_of_nonneg (Int.emod_nonneg _ (by decide))]
  have e : k % 18446744073709551616 % 128 = (n : Int) := by omega
  rw [e]
  unfold wrap64
  omega
end Go.Proofs.Ytiifnofghicnaaa.PAll
