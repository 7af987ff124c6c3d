/- What the reference's functions of halves answer, as plain numbers. -/
import Derived.Test.YtdepcnaiobfpkaaHNat
import Derived.Test.YtdepcnaiobfpkaaPAllx1
import Derived.Test.YtdepcnaiobfpkaaPAllx2
namespace Go.Proofs.Ytdepcnaiobfpkaa.PAll
open Go.RowKit Go.Proofs.YtdepcnaiobfpkaaW.PrintWords Go.Proofs.YtdepcnaiobfpkaaW.PrintLast Go.Proofs.YtdepcnaiobfpkaaW.PrintMore Go.Proofs.Ytdepcnaiobfpkaa.HN
/-- A step whose answer is known. -/
theorem bnd {α β : Type} {o : Option α} {x : α} (h : o = some x) (f : α → Option β) : o.bind f = f x := by
  subst h
  rfl
theorem and16 (a b : Nat) (ha : a < 65536) (hb : b < 65536) : Go.bits .and .u16 (a : Int) (b : Int) = ((a &&& b : Nat) : Int) := u16_and_nat a b ha hb
theorem low16 (a k : Nat) (ha : a < 65536) (hk : k ≤ 15) : Go.bits .and .u16 (a : Int) ((2 ^ k - 1 : Nat) : Int) = ((a % 2 ^ k : Nat) : Int) := by
  have h : 2 ^ k ≤ 2 ^ 15 := Nat.pow_le_pow_right (by decide) hk
  rw [and16 a _ ha (by omega), Nat.and_two_pow_sub_one_eq_mod]
theorem low32 (a k : Nat) (ha : a < 4294967296) (hk : k ≤ 31) : Go.bits .and .u32 (a : Int) ((2 ^ k - 1 : Nat) : Int) = ((a % 2 ^ k : Nat) : Int) := by
  have h : 2 ^ k ≤ 2 ^ 31 := Nat.pow_le_pow_right (by decide) hk
  rw [u32_and_nat a _ ha (by omega), Nat.and_two_pow_sub_one_eq_mod]
theorem l16_1023 (a : Nat) (ha : a < 65536) : Go.bits .and .u16 (a : Int) 1023 = ((a % 1024 : Nat) : Int) := low16 a 10 ha (by decide)
theorem l16_511 (a : Nat) (ha : a < 65536) : Go.bits .and .u16 (a : Int) 511 = ((a % 512 : Nat) : Int) := low16 a 9 ha (by decide)
theorem l16_32767 (a : Nat) (ha : a < 65536) : Go.bits .and .u16 (a : Int) 32767 = ((a % 32768 : Nat) : Int) := low16 a 15 ha (by decide)
theorem l16_exp (a : Nat) (ha : a < 65536) : Go.bits .and .u16 ((a : Int) / 1024) 31 = ((a / 1024 % 32 : Nat) : Int) := by
  have e : ((a : Int) / 1024) = ((a / 1024 : Nat) : Int) := by omega
  rw [e]
  exact low16 (a / 1024) 5 (by omega) (by decide)
theorem l32_frac (a : Nat) (ha : a < 4294967296) : Go.bits .and .u32 (a : Int) 8388607 = ((a % 8388608 : Nat) : Int) := low32 a 23 ha (by decide)
theorem l32_4194303 (a : Nat) (ha : a < 4294967296) : Go.bits .and .u32 (a : Int) 4194303 = ((a % 4194304 : Nat) : Int) := low32 a 22 ha (by decide)
theorem l32_8191 (a : Nat) (ha : a < 4294967296) : Go.bits .and .u32 (a : Int) 8191 = ((a % 8192 : Nat) : Int) := low32 a 13 ha (by decide)
theorem l32_size (a : Nat) (ha : a < 4294967296) : Go.bits .and .u32 (a : Int) 2147483647 = ((a % 2147483648 : Nat) : Int) := low32 a 31 ha (by decide)
theorem l32_exp (a : Nat) (ha : a < 4294967296) : Go.bits .and .u32 ((a : Int) / 8388608) 255 = ((a / 8388608 % 256 : Nat) : Int) := by
  have e : ((a : Int) / 8388608) = ((a / 8388608 : Nat) : Int) := by omega
  rw [e]
  exact low32 (a / 8388608) 8 (by omega) (by decide)
theorem w64_small (n : Int) (h : -9223372036854775808 ≤ n ∧ n < 9223372036854775808) : wrap64 n = n := by
  unfold wrap64
  omega
theorem kindH (a : Nat) (ha : a < 65536) : spec_HalfKind.f (a : Int) = some (if a / 1024 % 32 = 31 then (if a % 1024 = 0 then 1 else 2) else 0) := by
  unfold spec_HalfKind.f
  rw [l16_exp a ha, l16_1023 a ha]
  repeat' split
  all_goals (first | rfl | omega)
theorem kindS (a : Nat) (ha : a < 4294967296) : spec_SingleKind.f (a : Int) = some (if a / 8388608 % 256 = 255 then (if a % 8388608 = 0 then 1 else 2) else 0) := by
  unfold spec_SingleKind.f
  rw [l32_exp a ha, l32_frac a ha]
  repeat' split
  all_goals (first | rfl | omega)
theorem valueH (a : Nat) (ha : a < 65536) : spec_HalfValue.f (a : Int) = some (if a / 1024 % 32 = 0 then (((a % 1024 : Nat) : Int), -24) else (((1024 + a % 1024 : Nat) : Int), ((a / 1024 % 32 : Nat) : Int) - 25)) := by
  unfold spec_HalfValue.f
  rw [l16_exp a ha, l16_1023 a ha, w64_small _ (by omega), w64_small _ (by omega), w64_small _ (by omega), w64_small _ (by omega)]
  repeat' split
  all_goals (first | rfl | omega | (simp; done))
theorem valueS (a : Nat) (ha : a < 4294967296) : spec_SingleValue.f (a : Int) = some (if a / 8388608 % 256 = 0 then (((a % 8388608 : Nat) : Int), -149) else (((8388608 + a % 8388608 : Nat) : Int), ((a / 8388608 % 256 : Nat) : Int) - 150)) := by
  unfold spec_SingleValue.f
  rw [l32_exp a ha, l32_frac a ha, w64_small _ (by omega), w64_small _ (by omega), w64_small _ (by omega), w64_small _ (by omega)]
  repeat' split
  all_goals (first | rfl | omega | (simp; done))
theorem fromH (a : Nat) (ha : a < 4294967296) : impl_HalfFrom.f (a : Int) = some ((f16 a : Nat) : Int) := by
  unfold impl_HalfFrom.f float16_f32bitsToF16bits.f
  rw [if_pos (by omega), if_pos (by omega), Int.toNat_natCast]
/-- The loop that shifts a subnormal half's bits up. -/
theorem up_law (s : Int) : ∀ (j k : Nat) (e : Int) (c : Nat), 0 ≤ e → e < 4294967296 → c * 2 ^ j < 16777216 → 8388608 ≤ c * 2 ^ j →
    float16_f16bitsToF32bits.l0 (k + j + 1) s e (c : Int) = some (Go.bits .or .u32 (Go.bits .or .u32 s (((((e - j) % 4294967296 + 112) % 4294967296) * 8388608) % 4294967296)) ((c * 2 ^ j - 8388608 : Nat) : Int)) := by
  intro j
  induction j with
  | zero =>
    intro k e c h1 h2 h3 h4
    simp only [Nat.pow_zero, Nat.mul_one] at h3 h4 ⊢
    unfold float16_f16bitsToF32bits.l0
    have n := and_exp c (by omega)
    rw [if_neg (by omega), l32_frac c (by omega)]
    have e1 : c % 8388608 = c - 8388608 := by omega
    have e2 : (e - ((0 : Nat) : Int)) % 4294967296 = e := by omega
    rw [e1, e2]
  | succ j ih =>
    intro k e c h1 h2 h3 h4
    have e0 : c * 2 ^ (j + 1) = c * 2 * 2 ^ j := by rw [Nat.pow_succ, Nat.mul_assoc, Nat.mul_comm 2]
    rw [e0] at h3 h4 ⊢
    have hp : 1 ≤ 2 ^ j := Nat.one_le_two_pow
    have hc : c * 2 ≤ c * 2 * 2 ^ j := Nat.le_mul_of_pos_right _ hp
    have ih2 := ih k ((e - 1) % 4294967296) (c * 2) (by omega) (by omega) h3 h4
    generalize c * 2 * 2 ^ j = q at *
    have n := and_exp c (by omega)
    rw [show k + (j + 1) + 1 = (k + j + 1) + 1 by omega]
    rw [float16_f16bitsToF32bits.l0]
    rw [if_pos (by omega)]
    have e3 : ((c : Int) * 2) % 4294967296 = ((c * 2 : Nat) : Int) := by omega
    have e4 : ((e - 1) % 4294967296 - (j : Int)) % 4294967296 = (e - ((j + 1 : Nat) : Int)) % 4294967296 := by omega
    rw [e3, ih2, e4]
theorem or32 (a b : Nat) (ha : a < 4294967296) (hb : b < 4294967296) : Go.bits .or .u32 (a : Int) (b : Int) = ((a ||| b : Nat) : Int) := u32_or_nat a b ha hb
theorem add31 (s b : Nat) (hb : b < 2147483648) : s * 2147483648 ||| b = s * 2147483648 + b := or_add (k := 31) hb s (Nat.mul_comm ..)
theorem add23 (s x b : Nat) (hb : b < 8388608) : s * 2147483648 + x * 8388608 ||| b = s * 2147483648 + x * 8388608 + b := or_add (k := 23) hb (s * 256 + x) (by omega)
theorem or3 (s x b : Nat) (hs : s < 2) (hx : x < 256) (hb : b < 8388608) : Go.bits .or .u32 (Go.bits .or .u32 ((s * 2147483648 : Nat) : Int) ((x * 8388608 : Nat) : Int)) (b : Int) = ((s * 2147483648 + (x * 8388608 + b) : Nat) : Int) := by
  rw [or32 _ _ (by omega) (by omega), add31 _ _ (by omega), or32 _ _ (by omega) (by omega), add23 _ _ _ hb, Nat.add_assoc]
theorem sgn16 (h : Nat) (hh : h < 65536) : Go.bits .and .u16 (h : Int) 32768 = ((h / 32768 * 32768 : Nat) : Int) := by
  have e := and16 h 32768 hh (by decide)
  rw [show ((32768 : Nat) : Int) = 32768 from rfl] at e
  rw [e]
  congr 1
  apply Nat.eq_of_testBit_eq
  intro i
  rw [Nat.testBit_and, show (32768 : Nat) = 2 ^ 15 from rfl, Nat.testBit_two_pow, Nat.mul_comm, Nat.testBit_two_pow_mul, Nat.testBit_div_two_pow]
  by_cases h : 15 = i
  · subst h
    simp
  · by_cases h2 : 15 ≤ i
    · rw [Nat.sub_add_cancel h2, Nat.testBit_lt_two_pow (Nat.lt_of_lt_of_le (show _ < 2 ^ 16 from hh) (Nat.pow_le_pow_right (by decide) (by omega)))]
      simp
    · simp [h, h2]
theorem exp16 (n : Nat) (hn : n < 65536) : Go.bits .and .u16 (n : Int) 31744 = ((n / 1024 % 32 * 1024 : Nat) : Int) := by
  have e := and16 n 31744 hn (by decide)
  rw [show ((31744 : Nat) : Int) = 31744 from rfl] at e
  rw [e]
  congr 1
  apply Nat.eq_of_testBit_eq
  intro i
  rw [Nat.testBit_and, show (31744 : Nat) = 2 ^ 10 * (2 ^ 5 - 1) from rfl, Nat.testBit_two_pow_mul, Nat.testBit_two_pow_sub_one, Nat.mul_comm (n / 1024 % 32), show (1024 : Nat) = 2 ^ 10 from rfl, Nat.testBit_two_pow_mul, show (32 : Nat) = 2 ^ 5 from rfl, Nat.testBit_mod_two_pow, Nat.testBit_div_two_pow]
  by_cases h : 10 ≤ i
  · rw [Nat.sub_add_cancel h]
    simp [h, Bool.and_comm]
  · simp [h]
theorem t32_lt (h : Nat) (hh : h < 65536) : t32 h < 4294967296 ∧ tf (h % 32768) < 2147483648 := by
  have : tf (h % 32768) < 2147483648 := by
    have hy : h % 32768 < 32768 := by omega
    generalize h % 32768 = y at *
    unfold tf
    split
    · split
      · decide
      · have : 4194304 ||| y % 1024 * 8192 < 2 ^ 23 := Nat.or_lt_two_pow (by decide) (by omega)
        omega
    · split
      · split
        · decide
        · rename_i h1 h0
          have hy0 : y ≠ 0 := by omega
          have l1 := Nat.log2_self_le hy0
          have l2 := Nat.lt_log2_self (n := y)
          have l3 : y.log2 < 10 := (Nat.log2_lt hy0).mpr (by omega)
          have e : 2 ^ (y.log2 + 1) * 2 ^ (23 - y.log2) = 16777216 := by rw [← Nat.pow_add, show y.log2 + 1 + (23 - y.log2) = 24 by omega]
          have l4 : y * 2 ^ (23 - y.log2) < 16777216 := by
            rw [← e]
            exact Nat.mul_lt_mul_of_pos_right l2 (Nat.pow_pos (by decide))
          generalize y * 2 ^ (23 - y.log2) = q at *
          omega
      · omega
  refine ⟨?_, this⟩
  unfold t32
  omega
set_option maxHeartbeats 1000000 in
theorem to_law (h : Nat) (hh : h < 65536) (k : Nat) : float16_f16bitsToF32bits.f (k + 12) (h : Int) = some ((t32 h : Nat) : Int) := by
  unfold float16_f16bitsToF32bits.f
  rw [exp16 h hh, l16_1023 h hh, sgn16 h hh]
  have e1 : (((h / 1024 % 32 * 1024 : Nat) : Int) % 4294967296) / 1024 = ((h / 1024 % 32 : Nat) : Int) := by omega
  have e2 : ((((h % 1024 : Nat) : Int) % 4294967296) * 8192) % 4294967296 = ((h % 1024 * 8192 : Nat) : Int) := by omega
  have e3 : ((((h / 32768 * 32768 : Nat) : Int) % 4294967296) * 65536) % 4294967296 = ((h / 32768 * 2147483648 : Nat) : Int) := by omega
  rw [e1, e2, e3]
  have hs : h / 32768 < 2 := by omega
  have hx : h / 1024 % 32 = h % 32768 / 1024 := by omega
  have hc : h % 1024 = h % 32768 % 1024 := by omega
  have hy : h % 32768 < 32768 := by omega
  unfold t32 tf
  rw [hx, hc]
  generalize h / 32768 = s at *
  generalize h % 32768 = y at *
  clear e1 e2 e3 hx hc hh h
  have hc : y % 1024 < 1024 := by omega
  have hx : y / 1024 < 32 := by omega
  by_cases h1 : y / 1024 = 31
  · rw [if_pos (by omega), if_pos h1]
    by_cases h2 : y % 1024 = 0
    · rw [if_pos (by omega), if_pos h2, h2]
      have := or3 s 255 0 hs (by decide) (by decide)
      simpa using this
    · rw [if_neg (by omega), if_neg h2]
      have e : Go.bits .or .u32 (Go.bits .or .u32 ((s * 2147483648 : Nat) : Int) 2143289344) ((y % 1024 * 8192 : Nat) : Int) = (((s * 2147483648 ||| 2143289344) ||| y % 1024 * 8192 : Nat) : Int) := by
        have o1 := or32 (s * 2147483648) 2143289344 (by omega) (by decide)
        rw [show ((2143289344 : Nat) : Int) = 2143289344 from rfl] at o1
        rw [o1, or32 _ _ (by
          rw [add31 _ _ (by decide)]
          omega) (by omega)]
      rw [e]
      have o2 : (2139095040 ||| 4194304 : Nat) = 2143289344 := by decide
      have o3 : 4194304 ||| y % 1024 * 8192 < 8388608 := Nat.or_lt_two_pow (n := 23) (by decide) (by omega)
      have o4 : 2139095040 ||| (4194304 ||| y % 1024 * 8192) = 2139095040 + (4194304 ||| y % 1024 * 8192) := or_add (k := 23) o3 255 (by decide)
      rw [← o2, Nat.or_assoc, Nat.or_assoc, o4, add31 _ _ (by omega)]
  · rw [if_neg (by omega), if_neg h1]
    by_cases h2 : y / 1024 = 0
    · rw [if_pos (by omega), if_pos h2]
      by_cases h3 : y % 1024 = 0
      · rw [if_pos (by omega), if_pos h3]
        simp
      · rw [if_neg (by omega), if_neg h3]
        have hy0 : y ≠ 0 := by omega
        have hm : y % 1024 = y := by omega
        have l1 := Nat.log2_self_le hy0
        have l2 := Nat.lt_log2_self (n := y)
        have l3 : y.log2 < 10 := (Nat.log2_lt hy0).mpr (by omega)
        rw [hm, h2]
        generalize hl : y.log2 = l at *
        have p1 : y * 8192 * 2 ^ (10 - l) = y * 2 ^ (23 - l) := by
          rw [Nat.mul_assoc, show (8192 : Nat) = 2 ^ 13 from rfl, ← Nat.pow_add, show 13 + (10 - l) = 23 - l by omega]
        have p2 : 2 ^ (l + 1) * 2 ^ (23 - l) = 16777216 := by rw [← Nat.pow_add, show l + 1 + (23 - l) = 24 by omega]
        have p3 : 2 ^ l * 2 ^ (23 - l) = 8388608 := by rw [← Nat.pow_add, show l + (23 - l) = 23 by omega]
        have p4 : y * 2 ^ (23 - l) < 16777216 := by
          rw [← p2]
          exact Nat.mul_lt_mul_of_pos_right l2 (Nat.pow_pos (by decide))
        have p5 : 8388608 ≤ y * 2 ^ (23 - l) := by
          rw [← p3]
          exact Nat.mul_le_mul_right _ l1
        have u := up_law ((s * 2147483648 : Nat) : Int) (10 - l) (k + l + 1) (((0 : Nat) : Int) + 1) (y * 8192) (by decide) (by decide) (by rw [p1]; exact p4) (by rw [p1]; exact p5)
        rw [show k + l + 1 + (10 - l) + 1 = k + 12 by omega, p1] at u
        rw [u]
        have e4 : (((((0 : Nat) : Int) + 1 - ((10 - l : Nat) : Int)) % 4294967296 + 112) % 4294967296 * 8388608) % 4294967296 = (((103 + l) * 8388608 : Nat) : Int) := by omega
        rw [e4]
        generalize y * 2 ^ (23 - l) = q at *
        rw [or3 s (103 + l) (q - 8388608) hs (by omega) (by omega)]
    · rw [if_neg (by omega), if_neg h2]
      have e4 : ((((y / 1024 : Nat) : Int) + 112) * 8388608) % 4294967296 = (((y / 1024 + 112) * 8388608 : Nat) : Int) := by omega
      rw [e4, or3 s (y / 1024 + 112) (y % 1024 * 8192) hs (by omega) (by omega)]
theorem toH (h : Nat) (hh : h < 65536) (k : Nat) : impl_HalfTo.f (k + 12) (h : Int) = some ((t32 h : Nat) : Int) := by
  unfold impl_HalfTo.f
  rw [bnd (to_law h hh k), if_pos (by omega)]
end Go.Proofs.Ytdepcnaiobfpkaa.PAll
