/- Halves as plain numbers: the rounding to the nearest, the half of a float32's bits without the sign (g), the float32's bits of a half (tf, t32). -/
import Derived.Test.YtdepcnaiobfpkaaPAllx2
namespace Go.Proofs.Ytdepcnaiobfpkaa.HN
open Go.Proofs.Ytdepcnaiobfpkaa.PAll (rup f16)
/-- m / 2^d, rounded to the nearest whole number, of two as near to the even one. -/
def rnd (m d : Nat) : Nat := m / 2 ^ d + if 2 ^ d < 2 * (m % 2 ^ d) ∨ (2 * (m % 2 ^ d) = 2 ^ d ∧ m / 2 ^ d % 2 = 1) then 1 else 0
theorem and_pow_ne (m k : Nat) : ((m &&& 2 ^ k) != 0) = (m / 2 ^ k % 2 == 1) := by
  have h0 : 0 < 2 ^ k := Nat.pow_pos (by decide)
  have ht : m.testBit k = decide (m / 2 ^ k % 2 = 1) := Nat.testBit_eq_decide_div_mod_eq
  have e : m &&& 2 ^ k = if m.testBit k then 2 ^ k else 0 := by
    apply Nat.eq_of_testBit_eq
    intro i
    rw [Nat.testBit_and, Nat.testBit_two_pow]
    by_cases h : k = i
    · subst h
      cases m.testBit k <;> simp
    · cases hb : m.testBit k <;> simp [h]
  rw [e, ht]
  by_cases h : m / 2 ^ k % 2 = 1
  · simp [h]
  · simp [h]
theorem and_low_ne (m k : Nat) : ((m &&& (3 * 2 ^ k - 1)) != 0) = (decide (m / 2 ^ (k + 1) % 2 = 1) || decide (m % 2 ^ k ≠ 0)) := by
  have h0 : 0 < 2 ^ k := Nat.pow_pos (by decide)
  have e : 3 * 2 ^ k - 1 = 2 ^ (k + 1) * 1 + (2 ^ k - 1) := by rw [Nat.pow_succ]; omega
  have hl : 2 ^ k - 1 < 2 ^ (k + 1) := by rw [Nat.pow_succ]; omega
  rw [e, Nat.two_pow_add_eq_or_of_lt hl, Nat.mul_one, Nat.and_or_distrib_left, Nat.and_two_pow_sub_one_eq_mod]
  rw [Bool.eq_iff_iff, bne_iff_ne, Bool.or_eq_true, decide_eq_true_iff, decide_eq_true_iff]
  rw [Ne, Nat.or_eq_zero_iff]
  have a1 := and_pow_ne m (k + 1)
  by_cases q : m / 2 ^ (k + 1) % 2 = 1
  · rw [q] at a1
    have : m &&& 2 ^ (k + 1) ≠ 0 := bne_iff_ne.mp a1
    simp [q, this]
  · have : ¬ (m &&& 2 ^ (k + 1) ≠ 0) := by
      intro hh
      rw [bne_iff_ne.mpr hh] at a1
      exact q (beq_iff_eq.mp a1.symm)
    have : m &&& 2 ^ (k + 1) = 0 := Decidable.not_not.mp this
    simp [q, this]
theorem half_mod (m P : Nat) (h : m / P % 2 = 1) : m % (P * 2) = P + m % P := by
  have e1 : m % (P * 2) = m % P + P * (m / P % 2) := Nat.mod_mul
  rw [e1, h]
  omega
theorem half_mod0 (m P : Nat) (h : m / P % 2 ≠ 1) : m % (P * 2) = m % P := by
  have e1 : m % (P * 2) = m % P + P * (m / P % 2) := Nat.mod_mul
  rw [e1, show m / P % 2 = 0 by omega]
  omega
theorem rup_iff (m d : Nat) (hd : 0 < d) : rup m d = decide (2 ^ d < 2 * (m % 2 ^ d) ∨ (2 * (m % 2 ^ d) = 2 ^ d ∧ m / 2 ^ d % 2 = 1)) := by
  obtain ⟨k, rfl⟩ : ∃ k, d = k + 1 := ⟨d - 1, by omega⟩
  unfold rup
  rw [Nat.add_sub_cancel, and_pow_ne, and_low_ne]
  have h0 : 0 < 2 ^ k := Nat.pow_pos (by decide)
  have hl : m % 2 ^ k < 2 ^ k := Nat.mod_lt _ h0
  have e2 : 2 ^ (k + 1) = 2 ^ k * 2 := Nat.pow_succ ..
  rw [Bool.eq_iff_iff, Bool.and_eq_true, Bool.or_eq_true, beq_iff_eq, decide_eq_true_iff, decide_eq_true_iff, decide_eq_true_iff]
  generalize m / 2 ^ (k + 1) % 2 = o
  rw [e2]
  by_cases h : m / 2 ^ k % 2 = 1
  · rw [half_mod m _ h]
    omega
  · rw [half_mod0 m _ h]
    omega
theorem rnd_rup (m d : Nat) (hd : 0 < d) : (m / 2 ^ d + if rup m d then 1 else 0) = rnd m d := by
  unfold rnd
  rw [rup_iff m d hd]
  simp only [decide_eq_true_eq]
theorem rnd_le {m m' : Nat} (d : Nat) (h : m ≤ m') : rnd m d ≤ rnd m' d := by
  unfold rnd
  have h0 : 0 < 2 ^ d := Nat.pow_pos (by decide)
  have hq : m / 2 ^ d ≤ m' / 2 ^ d := Nat.div_le_div_right h
  have e1 := Nat.div_add_mod m (2 ^ d)
  have e2 := Nat.div_add_mod m' (2 ^ d)
  rcases Nat.lt_or_ge (m / 2 ^ d) (m' / 2 ^ d) with h1 | h1
  · split <;> split <;> omega
  · have hqe : m / 2 ^ d = m' / 2 ^ d := by omega
    rw [hqe] at e1
    have : m % 2 ^ d ≤ m' % 2 ^ d := by omega
    rw [hqe]
    split <;> split <;> omega
theorem rnd_shift (m d : Nat) : rnd (m * 2) (d + 1) = rnd m d := by
  unfold rnd
  have e1 : m * 2 / 2 ^ (d + 1) = m / 2 ^ d := by rw [Nat.pow_succ, Nat.mul_div_mul_right _ _ (by decide)]
  have e2 : m * 2 % 2 ^ (d + 1) = m % 2 ^ d * 2 := by rw [Nat.pow_succ, Nat.mul_mod_mul_right]
  rw [e1, e2, Nat.pow_succ]
  generalize m % 2 ^ d = r
  generalize 2 ^ d = P
  have : (P * 2 < 2 * (r * 2) ∨ (2 * (r * 2) = P * 2 ∧ m / P % 2 = 1)) ↔ (P < 2 * r ∨ (2 * r = P ∧ m / P % 2 = 1)) := by omega
  simp only [this]
theorem rnd_shifts (m d k : Nat) : rnd (m * 2 ^ k) (d + k) = rnd m d := by
  induction k with
  | zero => simp
  | succ k ih =>
    rw [Nat.pow_succ, ← Nat.mul_assoc, ← Nat.add_assoc, rnd_shift, ih]
theorem rnd_add (m d a : Nat) : rnd (2 * a * 2 ^ d + m) d = 2 * a + rnd m d := by
  unfold rnd
  have h0 : 0 < 2 ^ d := Nat.pow_pos (by decide)
  have e1 : (2 * a * 2 ^ d + m) / 2 ^ d = 2 * a + m / 2 ^ d := by rw [Nat.add_comm, Nat.add_mul_div_right _ _ h0, Nat.add_comm]
  have e2 : (2 * a * 2 ^ d + m) % 2 ^ d = m % 2 ^ d := by rw [Nat.add_comm, Nat.add_mul_mod_self_right]
  have e3 : (2 * a + m / 2 ^ d) % 2 = m / 2 ^ d % 2 := by omega
  rw [e1, e2, e3, Nat.add_assoc]
/-- A half, without its sign, of a float32's bits without the sign. -/
def g (y : Nat) : Nat :=
  if y / 8388608 = 255 then 31744 + (if y % 8388608 = 0 then 0 else 512 ||| y % 8388608 / 8192)
  else if 143 ≤ y / 8388608 then 31744
  else if y / 8388608 < 102 then 0
  else if y / 8388608 ≤ 112 then rnd (y % 8388608 + 8388608) (126 - y / 8388608)
  else (y / 8388608 - 112) * 1024 + rnd (y % 8388608) 13
theorem or_add {a b k : Nat} (h : b < 2 ^ k) (q : Nat) (ha : a = 2 ^ k * q) : a ||| b = a + b := by
  subst ha
  exact (Nat.two_pow_add_eq_or_of_lt h q).symm
theorem rnd_le_div (m d q : Nat) (h : m ≤ q * 2 ^ d) : rnd m d ≤ q := by
  have h0 : 0 < 2 ^ d := Nat.pow_pos (by decide)
  have e : rnd (q * 2 ^ d) d = q := by
    unfold rnd
    rw [Nat.mul_div_cancel _ h0, Nat.mul_mod_left, if_neg]
    · rfl
    · omega
  rw [← e]
  exact rnd_le d h
theorem g_lt (y : Nat) : g y < 32768 := by
  unfold g
  split
  · split
    · decide
    · have : 512 ||| y % 8388608 / 8192 < 2 ^ 10 := Nat.or_lt_two_pow (by decide) (by omega)
      omega
  · split
    · decide
    · split
      · decide
      · split
        · have := rnd_le_div (y % 8388608 + 8388608) (126 - y / 8388608) 2048 (by
            have : 2 ^ 14 ≤ 2 ^ (126 - y / 8388608) := Nat.pow_le_pow_right (by decide) (by omega)
            omega)
          omega
        · have := rnd_le_div (y % 8388608) 13 1024 (by omega)
          omega
theorem add15 (s b : Nat) (hb : b < 32768) : s * 32768 ||| b = s * 32768 + b := or_add (k := 15) hb s (Nat.mul_comm ..)
theorem add10 (s X b : Nat) (hb : b < 1024) : s * 32768 + X * 1024 ||| b = s * 32768 + X * 1024 + b := or_add (k := 10) hb (s * 32 + X) (by omega)
theorem x_lt {X : Nat} (h : X ≤ 30) : X * 1024 < 32768 := by omega
theorem c_lt (y : Nat) : y % 8388608 / 8192 < 1024 := by omega
theorem f16_g (n : Nat) (hn : n < 4294967296) : f16 n = n / 2147483648 * 32768 + g (n % 2147483648) := by
  have hs : n / 2147483648 < 2 := by omega
  have hx : n / 8388608 % 256 = n % 2147483648 / 8388608 := by omega
  have hc : n % 8388608 = n % 2147483648 % 8388608 := by omega
  have hg := g_lt (n % 2147483648)
  rw [← add15 _ _ hg]
  unfold f16
  simp only []
  rw [hx, hc]
  generalize n / 2147483648 = s at *
  generalize hy : n % 2147483648 = y at *
  have hyl : y < 2147483648 := by omega
  clear hx hc hy hn
  unfold g at *
  have or31 : ∀ b, b < 1024 → 31744 + b = 31744 ||| b := fun b hb => (or_add (k := 10) hb 31 (by decide)).symm
  split
  · rename_i h
    rw [or31 _ (by
      split
      · decide
      · exact Nat.or_lt_two_pow (n := 10) (by decide) (by omega))]
    split
    · rename_i h0
      rw [h0]
      simp
    · rw [Nat.or_assoc, Nat.or_assoc]
  · rename_i h
    rw [if_neg h] at hg
    split
    · rfl
    · rename_i h2
      rw [if_neg h2] at hg
      by_cases h3 : y / 8388608 < 102
      · rw [if_pos (by omega : y / 8388608 ≤ 112), if_pos h3, if_pos h3]
        simp
      · rw [if_neg h3] at hg
        rw [if_neg h3, if_neg h3]
        by_cases h4 : y / 8388608 ≤ 112
        · rw [if_pos h4, if_pos h4]
          have e : y % 8388608 ||| 8388608 = y % 8388608 + 8388608 := by
            rw [Nat.or_comm, or_add (k := 23) (by omega) 1 (by decide), Nat.add_comm]
          rw [e, rnd_rup _ _ (by omega)]
        · rw [if_neg h4] at hg
          rw [if_neg h4, if_neg h4]
          have hX : y / 8388608 - 112 ≤ 30 := by omega
          have e1 : s * 32768 ||| (y / 8388608 - 112) * 1024 = s * 32768 + (y / 8388608 - 112) * 1024 := add15 s _ (x_lt hX)
          have rr := rnd_rup (y % 8388608) 13 (by decide)
          rw [show (2 : Nat) ^ 13 = 8192 from rfl] at rr
          have e2 : s * 32768 + (y / 8388608 - 112) * 1024 ||| y % 8388608 / 8192 = s * 32768 + (y / 8388608 - 112) * 1024 + y % 8388608 / 8192 := add10 s _ _ (c_lt y)
          have e3 : s * 32768 ||| ((y / 8388608 - 112) * 1024 + rnd (y % 8388608) 13) = s * 32768 + ((y / 8388608 - 112) * 1024 + rnd (y % 8388608) 13) := add15 s _ hg
          rw [e3, e1, e2, Nat.add_assoc (_ + _), rr]
          clear rr e1 e2 e3
          generalize rnd (y % 8388608) 13 = r at *
          omega
theorem g_low {y : Nat} (h1 : 102 ≤ y / 8388608) (h2 : y / 8388608 ≤ 112) : g y = rnd ((y % 8388608 + 8388608) * 2 ^ (y / 8388608 - 102)) 24 := by
  unfold g
  rw [if_neg (by omega), if_neg (by omega), if_neg (by omega), if_pos h2, ← rnd_shifts _ (126 - y / 8388608) (y / 8388608 - 102)]
  congr 1
  omega
theorem g_mid {y : Nat} (h1 : 113 ≤ y / 8388608) (h2 : y / 8388608 ≤ 142) : g y = rnd y 13 - 114688 := by
  unfold g
  rw [if_neg (by omega), if_neg (by omega), if_neg (by omega), if_neg (by omega)]
  have e : y = 2 * (y / 8388608 * 512) * 2 ^ 13 + y % 8388608 := by
    rw [show (2 : Nat) ^ 13 = 8192 from rfl]
    omega
  have e2 := rnd_add (y % 8388608) 13 (y / 8388608 * 512)
  rw [← e] at e2
  rw [e2]
  generalize rnd (y % 8388608) 13 = r
  omega
theorem g_low_le {y : Nat} (h1 : 102 ≤ y / 8388608) (h2 : y / 8388608 ≤ 112) : g y ≤ 1024 := by
  unfold g
  rw [if_neg (by omega), if_neg (by omega), if_neg (by omega), if_pos h2]
  refine rnd_le_div _ _ _ ?_
  have : 2 ^ 14 ≤ 2 ^ (126 - y / 8388608) := Nat.pow_le_pow_right (by decide) (by omega)
  omega
theorem g_mid_le {y : Nat} (h1 : 113 ≤ y / 8388608) (h2 : y / 8388608 ≤ 142) : 1024 ≤ g y ∧ g y ≤ 31744 := by
  unfold g
  rw [if_neg (by omega), if_neg (by omega), if_neg (by omega), if_neg (by omega)]
  have := rnd_le_div (y % 8388608) 13 1024 (by omega)
  omega
theorem g_zero {y : Nat} (h : y / 8388608 < 102) : g y = 0 := by
  unfold g
  rw [if_neg (by omega), if_neg (by omega), if_pos h]
theorem g_inf {y : Nat} (h : 143 ≤ y / 8388608) (h2 : y ≤ 2139095040) : g y = 31744 := by
  unfold g
  by_cases h3 : y / 8388608 = 255
  · rw [if_pos h3, if_pos (by omega)]
  · rw [if_neg h3, if_pos h]
theorem g_mono {y z : Nat} (h : y ≤ z) (hz : z ≤ 2139095040) : g y ≤ g z := by
  have hx : y / 8388608 ≤ z / 8388608 := Nat.div_le_div_right h
  by_cases h1 : y / 8388608 < 102
  · rw [g_zero h1]
    exact Nat.zero_le _
  by_cases h2 : y / 8388608 ≤ 112
  · by_cases h3 : z / 8388608 ≤ 112
    · rw [g_low (by omega) h2, g_low (by omega) h3]
      refine rnd_le _ ?_
      by_cases he : y / 8388608 = z / 8388608
      · rw [he]
        exact Nat.mul_le_mul_right _ (by omega)
      · have e : z / 8388608 - 102 = (y / 8388608 - 102) + 1 + (z / 8388608 - y / 8388608 - 1) := by omega
        rw [e, Nat.pow_add, Nat.pow_succ]
        have h0 : 1 ≤ 2 ^ (z / 8388608 - y / 8388608 - 1) := Nat.one_le_two_pow
        generalize 2 ^ (z / 8388608 - y / 8388608 - 1) = P at *
        generalize 2 ^ (y / 8388608 - 102) = Q at *
        calc (y % 8388608 + 8388608) * Q ≤ (8388608 * 2) * Q := Nat.mul_le_mul_right _ (by omega)
          _ = 8388608 * (Q * 2 * 1) := by rw [Nat.mul_one, Nat.mul_comm Q 2, Nat.mul_assoc]
          _ ≤ (z % 8388608 + 8388608) * (Q * 2 * P) := Nat.mul_le_mul (by omega) (Nat.mul_le_mul_left _ h0)
    · have a := g_low_le (y := y) (by omega) h2
      by_cases h4 : z / 8388608 ≤ 142
      · have := g_mid_le (y := z) (by omega) h4
        omega
      · rw [g_inf (y := z) (by omega) hz]
        omega
  by_cases h5 : y / 8388608 ≤ 142
  · have a := g_mid_le (y := y) (by omega) h5
    by_cases h4 : z / 8388608 ≤ 142
    · rw [g_mid (by omega) h5, g_mid (by omega) h4]
      have := rnd_le 13 h
      omega
    · rw [g_inf (y := z) (by omega) hz]
      omega
  · rw [g_inf (y := y) (by omega) (by omega), g_inf (y := z) (by omega) hz]
    exact Nat.le_refl _
/-- A float32's bits without the sign, of a half's without the sign. -/
def tf (y : Nat) : Nat :=
  if y / 1024 = 31 then 2139095040 + (if y % 1024 = 0 then 0 else 4194304 ||| y % 1024 * 8192)
  else if y / 1024 = 0 then if y % 1024 = 0 then 0 else (103 + Nat.log2 y) * 8388608 + (y * 2 ^ (23 - Nat.log2 y) - 8388608)
  else (y / 1024 + 112) * 8388608 + y % 1024 * 8192
def t32 (h : Nat) : Nat := h / 32768 * 2147483648 + tf (h % 32768)
/-- What holds of all numbers from b to b + 2 ^ d - 1. -/
def allB (p : Nat → Bool) : Nat → Nat → Bool
  | 0, b => p b
  | d + 1, b => allB p d b && allB p d (b + 2 ^ d)
theorem allB_of {p : Nat → Bool} : ∀ (d b : Nat), allB p d b = true → ∀ i, b ≤ i → i < b + 2 ^ d → p i = true := by
  intro d
  induction d with
  | zero =>
    intro b h i h1 h2
    obtain rfl : i = b := by simp at h2; omega
    exact h
  | succ d ih =>
    intro b h i h1 h2
    unfold allB at h
    rw [Bool.and_eq_true] at h
    rw [Nat.pow_succ] at h2
    by_cases hi : i < b + 2 ^ d
    · exact ih b h.1 i h1 hi
    · exact ih _ h.2 i (by omega) (by omega)
def backB (y : Nat) : Bool := Nat.beq (g (tf y)) (if y / 1024 = 31 then (if y % 1024 = 0 then y else y ||| 512) else y)
theorem back_all : allB backB 15 0 = true := by decide +kernel
end Go.Proofs.Ytdepcnaiobfpkaa.HN
