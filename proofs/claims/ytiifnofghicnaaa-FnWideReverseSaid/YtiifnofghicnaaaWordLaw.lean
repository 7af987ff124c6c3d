/- Words of 64 bits, bit by bit. -/
import Derived.Test.YtiifnofghicnaaaBits
namespace Go.Proofs.Ytiifnofghicnaaa.PAll
open Go.RowKit Go.Proofs.YtiifnofghicnaaaW.PrintWords Go.Proofs.YtiifnofghicnaaaW.PrintLast Go.Proofs.YtiifnofghicnaaaW.PrintMore
theorem shl_nat (x n : Nat) : shl .u64 (x : Int) (n : Int) = ((x * 2 ^ n % 18446744073709551616 : Nat) : Int) := by
  unfold shl
  rw [Int.toNat_natCast, IntKind.wrap_u64]
  have e : min n IntKind.u64.bits = min n 64 := rfl
  rw [e]
  have h1 : ((2 : Int) ^ (min n 64)) = ((2 ^ (min n 64) : Nat) : Int) := by simp
  rw [h1]
  have h2 : (x : Int) * ((2 ^ (min n 64) : Nat) : Int) = ((x * 2 ^ (min n 64) : Nat) : Int) := by simp
  rw [h2]
  have h3 : x * 2 ^ (min n 64) % 18446744073709551616 = x * 2 ^ n % 18446744073709551616 := by
    rcases Nat.le_total n 64 with h | h
    · rw [Nat.min_eq_left h]
    · rw [Nat.min_eq_right h]
      obtain ⟨d, rfl⟩ : ∃ d, n = 64 + d := ⟨n - 64, by omega⟩
      rw [Nat.pow_add, show (2 : Nat) ^ 64 = 18446744073709551616 from rfl, Nat.mul_mod_left, Nat.mul_comm 18446744073709551616, ← Nat.mul_assoc, Nat.mul_mod_left]
  rw [← h3]
  generalize x * 2 ^ (min n 64) = y
  omega
theorem shr_nat (x n : Nat) (hx : x < 18446744073709551616) : shr .u64 (x : Int) (n : Int) = ((x / 2 ^ n : Nat) : Int) := by
  unfold shr
  rw [Int.toNat_natCast]
  have e : min n IntKind.u64.bits = min n 64 := rfl
  rw [e]
  have h3 : x / 2 ^ (min n 64) = x / 2 ^ n := by
    rcases Nat.le_total n 64 with h | h
    · rw [Nat.min_eq_left h]
    · rw [Nat.min_eq_right h, Nat.div_eq_of_lt (by exact hx), Nat.div_eq_of_lt (Nat.lt_of_lt_of_le (show x < 2 ^ 64 from hx) (Nat.pow_le_pow_right (by decide) h))]
  rw [← h3]
  simp
theorem wrap_nat (n : Nat) (h : n < 18446744073709551616) : IntKind.u64.wrap (n : Int) = (n : Int) := by
  rw [IntKind.wrap_u64]
  omega
theorem or_nat (x y : Nat) (hx : x < 18446744073709551616) (hy : y < 18446744073709551616) : Go.bits .or .u64 (x : Int) (y : Int) = ((x ||| y : Nat) : Int) := u64_or_nat x y hx hy
theorem and_nat (x y : Nat) (hx : x < 18446744073709551616) (hy : y < 18446744073709551616) : Go.bits .and .u64 (x : Int) (y : Int) = ((x &&& y : Nat) : Int) := u64_and_nat x y hx hy
theorem xor_nat (x y : Nat) (hx : x < 18446744073709551616) (hy : y < 18446744073709551616) : Go.bits .xor .u64 (x : Int) (y : Int) = ((x ^^^ y : Nat) : Int) := u64_xor_nat x y hx hy
theorem or_lt {x y : Nat} (hx : x < 18446744073709551616) (hy : y < 18446744073709551616) : x ||| y < 18446744073709551616 := Nat.or_lt_two_pow (n := 64) hx hy
theorem and_lt {x y : Nat} (hy : y < 18446744073709551616) : x &&& y < 18446744073709551616 := Nat.and_lt_two_pow (n := 64) x hy
theorem xor_lt {x y : Nat} (hx : x < 18446744073709551616) (hy : y < 18446744073709551616) : x ^^^ y < 18446744073709551616 := Nat.xor_lt_two_pow (n := 64) hx hy
theorem shl_lt (x n : Nat) : x * 2 ^ n % 18446744073709551616 < 18446744073709551616 := Nat.mod_lt _ (by decide)
theorem shr_lt {x : Nat} (n : Nat) (hx : x < 18446744073709551616) : x / 2 ^ n < 18446744073709551616 := Nat.lt_of_le_of_lt (Nat.div_le_self _ _) hx
theorem bit_shl (x n i : Nat) (hi : i < 64) : (x * 2 ^ n % 18446744073709551616).testBit i = (decide (n ≤ i) && x.testBit (i - n)) := by
  rw [show (18446744073709551616 : Nat) = 2 ^ 64 from rfl, Nat.testBit_mod_two_pow, decide_eq_true hi, Bool.true_and, Nat.mul_comm, Nat.testBit_two_pow_mul]
theorem bit_shr (x n i : Nat) : (x / 2 ^ n).testBit i = x.testBit (i + n) := Nat.testBit_div_two_pow ..
theorem bit_whole (x y i : Nat) (hx : x < 18446744073709551616) : (N128 (x : Int) (y : Int)).testBit i = if i < 64 then x.testBit i else y.testBit (i - 64) := by
  unfold N128
  rw [Int.toNat_natCast, Int.toNat_natCast, Nat.add_comm, Nat.mul_comm]
  exact Nat.testBit_two_pow_mul_add y (i := 64) hx i
theorem bit_high (x i : Nat) (hx : x < 18446744073709551616) (hi : 64 ≤ i) : x.testBit i = false :=
  Nat.testBit_lt_two_pow (Nat.lt_of_lt_of_le (show x < 2 ^ 64 from hx) (Nat.pow_le_pow_right (by decide) hi))
/-- Two halves are the lowest bits of a number told by its bits. -/
theorem is_bits (x y : Nat) (b : Nat → Bool) (hx : x < 18446744073709551616) (hy : y < 18446744073709551616) (h1 : ∀ i, i < 64 → x.testBit i = b i) (h2 : ∀ i, i < 64 → y.testBit i = b (i + 64)) :
    laws_wideIs.f 100 (x : Int) (y : Int) (Dig.dg (Dig.ofb b 128)) = some true := by
  have e1 : Dig.ofb b 128 % 18446744073709551616 = x := by
    apply Nat.eq_of_testBit_eq
    intro i
    rw [show (18446744073709551616 : Nat) = 2 ^ 64 from rfl, Nat.testBit_mod_two_pow, Dig.ofb_bit]
    by_cases h : i < 64
    · rw [h1 i h, decide_eq_true h, decide_eq_true (show i < 128 by omega)]
      rfl
    · rw [decide_eq_false h, bit_high x i hx (by omega)]
      rfl
  have e2 : Dig.ofb b 128 / 18446744073709551616 % 18446744073709551616 = y := by
    apply Nat.eq_of_testBit_eq
    intro i
    rw [show (18446744073709551616 : Nat) = 2 ^ 64 from rfl, Nat.testBit_mod_two_pow, bit_shr, Dig.ofb_bit]
    by_cases h : i < 64
    · rw [h2 i h, decide_eq_true h, decide_eq_true (show i + 64 < 128 by omega)]
      rfl
    · rw [decide_eq_false h, bit_high y i hy (by omega)]
      rfl
  rw [is_law _ 100 _ _ (by decide)]
  unfold halves
  rw [e1, e2]
  simp
end Go.Proofs.Ytiifnofghicnaaa.PAll
