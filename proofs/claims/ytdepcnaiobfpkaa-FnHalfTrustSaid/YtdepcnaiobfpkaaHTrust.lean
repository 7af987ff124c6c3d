/- FnHalfTrust: the law's function answers true. -/
import Derived.Test.YtdepcnaiobfpkaaHBase
import Derived.Test.YtdepcnaiobfpkaaHKnown
import Derived.Test.YtdepcnaiobfpkaaPAllx5
namespace Go.Proofs.Ytdepcnaiobfpkaa.PAll
open Go.RowKit Go.Proofs.YtdepcnaiobfpkaaW.PrintWords Go.Proofs.YtdepcnaiobfpkaaW.PrintLast Go.Proofs.YtdepcnaiobfpkaaW.PrintMore Go.Proofs.Ytdepcnaiobfpkaa.HN
theorem f16_lt (n : Nat) (hn : n < 4294967296) : f16 n < 65536 := by
  rw [f16_g n hn]
  have := g_lt (n % 2147483648)
  omega
/-- What is no half's float32 (a fraction's last thirteen bits; below 2^-24, from 2^16 on) does not come back; what is one does. -/
theorem tf_low (y : Nat) (hy : y < 32768) : tf y % 8192 = 0 ∧ (tf y = 0 ∨ 864026624 ≤ tf y) ∧ (tf y < 1199570944 ∨ 2139095040 ≤ tf y) := by
  unfold tf
  split
  · refine ⟨?_, ?_, ?_⟩
    · split
      · decide
      · have e : 4194304 ||| y % 1024 * 8192 = 8192 * (512 ||| y % 1024) := by
          apply Nat.eq_of_testBit_eq
          intro i
          rw [Nat.testBit_or, Nat.mul_comm (y % 1024), show (8192 : Nat) = 2 ^ 13 from rfl, Nat.testBit_two_pow_mul, Nat.testBit_two_pow_mul, Nat.testBit_or, show (4194304 : Nat) = 2 ^ 13 * 512 from rfl, Nat.testBit_two_pow_mul]
          cases decide (i ≥ 13) <;> simp
        omega
    · omega
    · omega
  · split
    · split
      · decide
      · rename_i h1 h2 h3
        have hy0 : y ≠ 0 := by omega
        have l1 := Nat.log2_self_le hy0
        have l2 := Nat.lt_log2_self (n := y)
        have l3 : y.log2 < 10 := (Nat.log2_lt hy0).mpr (by omega)
        generalize hl : y.log2 = l at *
        have p2 : 2 ^ (l + 1) * 2 ^ (23 - l) = 16777216 := by rw [← Nat.pow_add, show l + 1 + (23 - l) = 24 by omega]
        have p3 : 2 ^ l * 2 ^ (23 - l) = 8388608 := by rw [← Nat.pow_add, show l + (23 - l) = 23 by omega]
        have p4 : y * 2 ^ (23 - l) < 16777216 := by
          rw [← p2]
          exact Nat.mul_lt_mul_of_pos_right l2 (Nat.pow_pos (by decide))
        have p5 : 8388608 ≤ y * 2 ^ (23 - l) := by
          rw [← p3]
          exact Nat.mul_le_mul_right _ l1
        have p6 : y * 2 ^ (23 - l) = 8192 * (y * 2 ^ (10 - l)) := by
          rw [show 23 - l = 13 + (10 - l) by omega, Nat.pow_add, show (2 : Nat) ^ 13 = 8192 from rfl, Nat.mul_left_comm]
        generalize y * 2 ^ (10 - l) = r at *
        generalize y * 2 ^ (23 - l) = q at *
        omega
    · omega
theorem not_back (n : Nat) (hn : n < 4294967296) (h : n % 8192 ≠ 0 ∨ (0 < n % 2147483648 ∧ n % 2147483648 < 864026624) ∨ (1199570944 ≤ n % 2147483648 ∧ n % 2147483648 < 2139095040)) : t32 (f16 n) ≠ n := by
  intro e
  have hf := f16_lt n hn
  have hl := tf_low (f16 n % 32768) (by omega)
  have hb := (t32_lt (f16 n) hf).2
  have e2 : n % 2147483648 = tf (f16 n % 32768) := by
    rw [← e]
    have := f16_lt (t32 (f16 n)) (t32_lt _ hf).1
    have e' : f16 (t32 (f16 n)) = f16 n := by rw [e]
    rw [e']
    unfold t32
    omega
  omega
theorem rnd_exact (q d : Nat) : rnd (q * 2 ^ d) d = q := by
  have h0 : 0 < 2 ^ d := Nat.pow_pos (by decide)
  unfold rnd
  rw [Nat.mul_div_cancel _ h0, Nat.mul_mod_left, if_neg]
  · rfl
  · omega
theorem exact_back (n : Nat) (hn : n < 4294967296) (hp : prec n = 0) (hk : ¬ (n / 8388608 % 256 = 255 ∧ n % 8388608 ≠ 0)) : t32 (f16 n) = n := by
  have hf := f16_g n hn
  have hx : n / 8388608 % 256 = n % 2147483648 / 8388608 := by omega
  have hc : n % 8388608 = n % 2147483648 % 8388608 := by omega
  have h13 : n % 8192 = n % 2147483648 % 8192 := by omega
  have hg := g_lt (n % 2147483648)
  have key : tf (g (n % 2147483648)) = n % 2147483648 := by
    rw [hx, hc] at hk
    unfold prec at hp
    rw [hx, h13] at hp
    have z : n = 0 ∨ n = 2147483648 → n % 2147483648 = 0 := by omega
    have hy : n % 2147483648 < 2147483648 := by omega
    clear hf hx hc h13 hg
    generalize n % 2147483648 = y at *
    split at hp
    · rename_i h
      rw [z h]
      decide
    split at hp
    · rename_i h
      have : y = 2139095040 := by omega
      rw [this]
      decide
    split at hp
    · omega
    split at hp
    · omega
    split at hp
    · omega
    split at hp
    · omega
    rename_i h1 h2 h3 h4 h5 h6
    unfold g
    rw [if_neg (by omega), if_neg (by omega), if_neg (by omega), if_neg (by omega)]
    have e : y % 8388608 = y % 8388608 / 8192 * 2 ^ 13 := by
      rw [show (2 : Nat) ^ 13 = 8192 from rfl]
      omega
    have r := rnd_exact (y % 8388608 / 8192) 13
    rw [← e] at r
    rw [r]
    unfold tf
    rw [if_neg (by omega), if_neg (by omega)]
    omega
  rw [hf]
  unfold t32
  have e1 : (n / 2147483648 * 32768 + g (n % 2147483648)) % 32768 = g (n % 2147483648) := by omega
  have e2 : (n / 2147483648 * 32768 + g (n % 2147483648)) / 32768 = n / 2147483648 := by omega
  rw [e1, e2, key]
  omega
theorem unknown_small (n : Nat) (hn : n < 4294967296) (hp : prec n = 1) : f16 n % 32768 ≤ 1024 := by
  have hf := f16_g n hn
  have hx : n / 8388608 % 256 = n % 2147483648 / 8388608 := by omega
  have hg := g_lt (n % 2147483648)
  unfold prec at hp
  rw [hx] at hp
  have : g (n % 2147483648) ≤ 1024 := by
    repeat' split at hp
    all_goals (first | omega | skip)
    exact g_low_le (by omega) (by omega)
  omega
theorem trust_pure : laws_FnHalfTrust.Pure := by
  intro a w
  simp only [Lit.wf, Bool.and_eq_true, decide_eq_true_eq] at w
  obtain ⟨w1, w2⟩ := w
  have w2 : a < 4294967296 := by
    have : IntKind.u32.max = 4294967295 := by decide
    omega
  have w1 : 0 ≤ a := by
    have : IntKind.u32.min = 0 := by decide
    omega
  obtain ⟨n, rfl⟩ := Int.eq_ofNat_of_zero_le w1
  have hn : n < 4294967296 := by omega
  have hf := f16_lt n hn
  refine ⟨12, ?_⟩
  unfold laws_FnHalfTrust.f
  rw [bnd (fromH n hn), bnd (toH _ hf 0), bnd (precS n hn), bnd (kindS n hn), l16_32767 _ hf]
  have nb := not_back n hn
  have ex := exact_back n hn
  have un := unknown_small n hn
  rcases prec_le n with p | p | p | p | p
  · rw [p]
    by_cases h : n / 8388608 % 256 = 255 ∧ n % 8388608 ≠ 0
    · simp [h]
    · have e := ex p h
      rw [e]
      simp
  · rw [p]
    have := un p
    simp
    omega
  · rw [p]
    have q : t32 (f16 n) ≠ n := nb (by
      left
      unfold prec at p
      repeat' split at p
      all_goals omega)
    simp
    omega
  · rw [p]
    have q : t32 (f16 n) ≠ n := nb (by
      right; left
      unfold prec at p
      repeat' split at p
      all_goals omega)
    simp
    omega
  · rw [p]
    have q : t32 (f16 n) ≠ n := nb (by
      right; right
      unfold prec at p
      repeat' split at p
      all_goals omega)
    simp
    omega
theorem trust_walk (a : Int) (h : 0 ≤ a ∧ a ≤ 4294967295) (w : World) :
    Calls Try.prog 13 #[.int .u32 a] w fun e w' => e = .returned (.bool true) ∧ Below w.heap.size w w' :=
  laws_FnHalfTrust.walk trust_pure a w (by simp only [Lit.wf, Bool.and_eq_true, decide_eq_true_eq]; exact h)
end Go.Proofs.Ytdepcnaiobfpkaa.PAll
