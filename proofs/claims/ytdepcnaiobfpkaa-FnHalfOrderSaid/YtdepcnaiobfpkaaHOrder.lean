/- FnHalfOrder: the law's function answers true. -/
import Derived.Test.YtdepcnaiobfpkaaHBase
import Derived.Test.YtdepcnaiobfpkaaPAllx4
namespace Go.Proofs.Ytdepcnaiobfpkaa.PAll
open Go.RowKit Go.Proofs.YtdepcnaiobfpkaaW.PrintWords Go.Proofs.YtdepcnaiobfpkaaW.PrintLast Go.Proofs.YtdepcnaiobfpkaaW.PrintMore Go.Proofs.Ytdepcnaiobfpkaa.HN
/-- Where a number of s and y stands. -/
def rankI (s y : Nat) : Int := if s = 1 then -(y : Int) else y
theorem rank_law (a k : Nat) (ha : a < 18446744073709551616) (hk : k ≤ 31) : laws_halfRank.f (a : Int) (k : Int) = some (rankI (a / 2 ^ k) (a % 2 ^ k)) := by
  unfold laws_halfRank.f
  have hp : 2 ^ k ≤ 2 ^ 31 := Nat.pow_le_pow_right (by decide) hk
  have h0 : 0 < 2 ^ k := Nat.pow_pos (by decide)
  have e1 : shr .u64 (a : Int) (k : Int) = ((a / 2 ^ k : Nat) : Int) := by
    unfold shr
    rw [Int.toNat_natCast, show min k IntKind.u64.bits = k from Nat.min_eq_left (by show k ≤ 64; omega)]
    simp
  have e2 : shl .u64 1 (k : Int) = ((2 ^ k : Nat) : Int) := by
    unfold shl
    rw [Int.toNat_natCast, show min k IntKind.u64.bits = k from Nat.min_eq_left (by show k ≤ 64; omega), IntKind.wrap_u64]
    have e : (1 : Int) * 2 ^ k = ((2 ^ k : Nat) : Int) := by simp
    rw [e]
    generalize (2 : Nat) ^ k = P at *
    omega
  have e3 : IntKind.u64.wrap (((2 ^ k : Nat) : Int) - 1) = ((2 ^ k - 1 : Nat) : Int) := by
    rw [IntKind.wrap_u64]
    generalize (2 : Nat) ^ k = P at *
    omega
  have e4 : Go.bits .and .u64 (a : Int) ((2 ^ k - 1 : Nat) : Int) = ((a % 2 ^ k : Nat) : Int) := by
    rw [u64_and_nat a _ ha (by omega), Nat.and_two_pow_sub_one_eq_mod]
  have hm : a % 2 ^ k < 2 ^ k := Nat.mod_lt _ h0
  rw [if_pos (by omega), e1, e2, e3, e4]
  generalize a % 2 ^ k = m at *
  generalize a / 2 ^ k = q at *
  rw [w64_small (m : Int) (by omega), w64_small (-(m : Int)) (by omega)]
  unfold rankI
  by_cases h : q = 1
  · rw [if_pos (by omega), if_pos h]
  · rw [if_neg (by omega), if_neg h]
theorem wrapN (a : Nat) (ha : a < 18446744073709551616) : IntKind.u64.wrap (a : Int) = (a : Int) := by
  rw [IntKind.wrap_u64]
  omega
theorem f16_le (n : Nat) (hn : n < 4294967296) : f16 n < 65536 ∧ f16 n / 32768 = n / 2147483648 ∧ f16 n % 32768 = g (n % 2147483648) := by
  rw [f16_g n hn]
  have := g_lt (n % 2147483648)
  omega
theorem order_j0 (k : Nat) (x0 x1 : Int) : laws_FnHalfOrder.j0 (k + 1) x0 x1 false = ((impl_HalfFrom.f x0).bind fun t157 => ((impl_HalfFrom.f x1).bind fun t158 => ((laws_halfRank.f (IntKind.u64.wrap (x0)) 31).bind fun t159 => ((laws_halfRank.f (IntKind.u64.wrap (x1)) 31).bind fun t160 => (if t159 > t160 then (laws_FnHalfOrder.j1 k x0 t158 t157) else (laws_FnHalfOrder.j1 k x0 t157 t158)))))) := by
  rw [laws_FnHalfOrder.j0, if_neg (by decide)]
theorem order_j0t (k : Nat) (x0 x1 : Int) : laws_FnHalfOrder.j0 (k + 1) x0 x1 true = some true := by
  rw [laws_FnHalfOrder.j0, if_pos rfl]
theorem order_j1 (k : Nat) (x0 x5 x6 : Int) : laws_FnHalfOrder.j1 (k + 1) x0 x5 x6 = ((laws_halfRank.f (IntKind.u64.wrap (x5)) 15).bind fun t161 => ((laws_halfRank.f (IntKind.u64.wrap (x6)) 15).bind fun t162 => (if t161 ≤ t162 then ((impl_HalfFrom.f (Go.bits .xor .u32 x0 2147483648)).bind fun t163 => ((impl_HalfFrom.f x0).bind fun t164 => (some (t163 == (Go.bits .xor .u16 t164 32768))))) else (some false)))) := by
  rw [laws_FnHalfOrder.j1]
theorem xor_top (k s y : Nat) (hs : s < 2) (hy : y < 2 ^ k) : (s * 2 ^ k + y) ^^^ 2 ^ k = (1 - s) * 2 ^ k + y := by
  have e (t : Nat) : t * 2 ^ k + y = 2 ^ k * t ||| y := by rw [Nat.mul_comm, Nat.two_pow_add_eq_or_of_lt hy]
  have hb : y.testBit k = false := Nat.testBit_lt_two_pow hy
  rw [e, e]
  apply Nat.eq_of_testBit_eq
  intro i
  rw [Nat.testBit_xor, Nat.testBit_or, Nat.testBit_or, Nat.testBit_two_pow, Nat.testBit_two_pow_mul, Nat.testBit_two_pow_mul]
  by_cases h : k = i
  · subst h
    rw [hb]
    rcases (by omega : s = 0 ∨ s = 1) with rfl | rfl <;> simp
  · by_cases h2 : k ≤ i
    · have hz (t : Nat) (ht : t < 2) : t.testBit (i - k) = false := Nat.testBit_lt_two_pow (Nat.lt_of_lt_of_le ht (by
        have : 2 ^ 1 ≤ 2 ^ (i - k) := Nat.pow_le_pow_right (by decide) (by omega)
        simpa using this))
      rw [hz s hs, hz (1 - s) (by omega)]
      simp [h]
    · simp [h, h2]
theorem turned (n : Nat) (hn : n < 4294967296) : ∃ m : Nat, Go.bits .xor .u32 (n : Int) 2147483648 = (m : Int) ∧ m < 4294967296 ∧ Go.bits .xor .u16 ((f16 n : Nat) : Int) 32768 = ((f16 m : Nat) : Int) := by
  obtain ⟨f1, f2, f3⟩ := f16_le n hn
  have e1 : n ^^^ 2147483648 = (1 - n / 2147483648) * 2147483648 + n % 2147483648 := by
    have x := xor_top 31 (n / 2147483648) (n % 2147483648) (by omega) (by omega)
    rw [show (2 : Nat) ^ 31 = 2147483648 from rfl, show n / 2147483648 * 2147483648 + n % 2147483648 = n by omega] at x
    exact x
  have e2 : f16 n ^^^ 32768 = (1 - n / 2147483648) * 32768 + g (n % 2147483648) := by
    have x := xor_top 15 (f16 n / 32768) (f16 n % 32768) (by omega) (by omega)
    rw [show (2 : Nat) ^ 15 = 32768 from rfl, show f16 n / 32768 * 32768 + f16 n % 32768 = f16 n by omega] at x
    rw [x, f2, f3]
  refine ⟨n ^^^ 2147483648, u32_xor_nat n 2147483648 hn (by decide), by omega, ?_⟩
  have b : n ^^^ 2147483648 < 4294967296 := by omega
  have u := u16_xor_nat (f16 n) 32768 f1 (by decide)
  rw [show ((32768 : Nat) : Int) = 32768 from rfl] at u
  rw [u, e2, f16_g _ b, e1]
  have h1 : ((1 - n / 2147483648) * 2147483648 + n % 2147483648) / 2147483648 = 1 - n / 2147483648 := by omega
  have h2 : ((1 - n / 2147483648) * 2147483648 + n % 2147483648) % 2147483648 = n % 2147483648 := by omega
  rw [h1, h2]
theorem num_le (n : Nat) (h : ¬ (n / 8388608 % 256 = 255 ∧ n % 8388608 ≠ 0)) : n % 2147483648 ≤ 2139095040 := by omega
theorem rank_le (s t y z : Nat) (hy : y ≤ 2139095040) (hz : z ≤ 2139095040) (h : rankI s y ≤ rankI t z) : rankI s (g y) ≤ rankI t (g z) := by
  have g0 : g 0 = 0 := by decide
  unfold rankI at *
  by_cases hs : s = 1
  · rw [if_pos hs] at h ⊢
    by_cases ht : t = 1
    · rw [if_pos ht] at h ⊢
      have := g_mono (y := z) (z := y) (by omega) hy
      omega
    · rw [if_neg ht]
      omega
  · rw [if_neg hs] at h ⊢
    by_cases ht : t = 1
    · rw [if_pos ht] at h ⊢
      have e1 : y = 0 := by omega
      have e2 : z = 0 := by omega
      rw [e1, e2, g0]
      decide
    · rw [if_neg ht] at h ⊢
      have := g_mono (y := y) (z := z) (by omega) hz
      omega
theorem order_last (k n m p : Nat) (hn : n < 4294967296) (hm : m < 4294967296) (hp : p < 4294967296) (h : rankI (f16 m / 2 ^ 15) (f16 m % 2 ^ 15) ≤ rankI (f16 p / 2 ^ 15) (f16 p % 2 ^ 15)) :
    laws_FnHalfOrder.j1 (k + 1) (n : Int) ((f16 m : Nat) : Int) ((f16 p : Nat) : Int) = some true := by
  have fm := (f16_le m hm).1
  have fp := (f16_le p hp).1
  obtain ⟨q, q1, q2, q3⟩ := turned n hn
  rw [order_j1, wrapN _ (by omega), wrapN _ (by omega), show (15 : Int) = ((15 : Nat) : Int) from rfl, bnd (rank_law _ 15 (by omega) (by decide)), bnd (rank_law _ 15 (by omega) (by decide)), if_pos h, q1, bnd (fromH q q2), bnd (fromH n hn), q3]
  simp
theorem order_num (n m : Nat) (hn : n < 4294967296) (hm : m < 4294967296) (h1 : ¬ (n / 8388608 % 256 = 255 ∧ n % 8388608 ≠ 0)) (h2 : ¬ (m / 8388608 % 256 = 255 ∧ m % 8388608 ≠ 0)) :
    laws_FnHalfOrder.j0 (1 + 1) (n : Int) (m : Int) false = some true := by
  obtain ⟨n1, n2, n3⟩ := f16_le n hn
  obtain ⟨m1, m2, m3⟩ := f16_le m hm
  have a1 := num_le n h1
  have a2 := num_le m h2
  rw [order_j0, bnd (fromH n hn), bnd (fromH m hm), wrapN _ (by omega), wrapN _ (by omega), show (31 : Int) = ((31 : Nat) : Int) from rfl, bnd (rank_law _ 31 (by omega) (by decide)), bnd (rank_law _ 31 (by omega) (by decide))]
  rw [show (2 : Nat) ^ 31 = 2147483648 from rfl]
  by_cases h : rankI (n / 2147483648) (n % 2147483648) > rankI (m / 2147483648) (m % 2147483648)
  · rw [if_pos h]
    refine order_last 0 n m n hn hm hn ?_
    rw [show (2 : Nat) ^ 15 = 32768 from rfl, n2, n3, m2, m3]
    exact rank_le _ _ _ _ a2 a1 (by omega)
  · rw [if_neg h]
    refine order_last 0 n n m hn hn hm ?_
    rw [show (2 : Nat) ^ 15 = 32768 from rfl, n2, n3, m2, m3]
    exact rank_le _ _ _ _ a1 a2 (by omega)
theorem order_pure : laws_FnHalfOrder.Pure := by
  intro a b w v
  simp only [Lit.wf, Bool.and_eq_true, decide_eq_true_eq] at w v
  obtain ⟨w1, w2⟩ := w
  obtain ⟨v1, v2⟩ := v
  have t1 : IntKind.u32.max = 4294967295 := by decide
  have t2 : IntKind.u32.min = 0 := by decide
  have w3 : 0 ≤ a := by omega
  have v3 : 0 ≤ b := by omega
  obtain ⟨n, rfl⟩ := Int.eq_ofNat_of_zero_le w3
  obtain ⟨m, rfl⟩ := Int.eq_ofNat_of_zero_le v3
  have hn : n < 4294967296 := by omega
  have hm : m < 4294967296 := by omega
  refine ⟨1 + 1, ?_⟩
  unfold laws_FnHalfOrder.f
  rw [bnd (kindS n hn)]
  by_cases h1 : n / 8388608 % 256 = 255 ∧ n % 8388608 ≠ 0
  · rw [if_pos h1.1, if_neg h1.2, if_pos rfl, order_j0t]
  · rw [if_neg (by
      split
      · split <;> omega
      · omega), bnd (kindS m hm)]
    by_cases h2 : m / 8388608 % 256 = 255 ∧ m % 8388608 ≠ 0
    · rw [if_pos h2.1, if_neg h2.2]
      exact order_j0t _ _ _
    · have e : ((if m / 8388608 % 256 = 255 then if m % 8388608 = 0 then 1 else 2 else 0 : Int) == 2) = false := by
        rw [beq_eq_false_iff_ne]
        split
        · split <;> omega
        · omega
      rw [e]
      exact order_num n m hn hm h1 h2
theorem order_walk (a b : Int) (h : 0 ≤ a ∧ a ≤ 4294967295) (h2 : 0 ≤ b ∧ b ≤ 4294967295) (w : World) :
    Calls Try.prog 8 #[.int .u32 a, .int .u32 b] w fun e w' => e = .returned (.bool true) ∧ Below w.heap.size w w' :=
  laws_FnHalfOrder.walk order_pure a b w (by simp only [Lit.wf, Bool.and_eq_true, decide_eq_true_eq]; exact h) (by simp only [Lit.wf, Bool.and_eq_true, decide_eq_true_eq]; exact h2)
end Go.Proofs.Ytdepcnaiobfpkaa.PAll
