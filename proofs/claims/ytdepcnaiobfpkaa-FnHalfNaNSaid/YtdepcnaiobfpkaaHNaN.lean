/- FnHalfNaN: the law's function answers true. -/
import Derived.Test.YtdepcnaiobfpkaaNAllx1
namespace Go.Proofs.Ytdepcnaiobfpkaa.NAll
open Go.RowKit Go.Proofs.YtdepcnaiobfpkaaW.PrintWords Go.Proofs.YtdepcnaiobfpkaaW.PrintLast Go.Proofs.YtdepcnaiobfpkaaW.PrintMore
/-- A step whose answer is known. -/
theorem bnd {α β : Type} {o : Option α} {x : α} (h : o = some x) (f : α → Option β) : o.bind f = f x := by
  subst h
  rfl
theorem low32 (a k : Nat) (ha : a < 4294967296) (hk : k ≤ 31) : Go.bits .and .u32 (a : Int) ((2 ^ k - 1 : Nat) : Int) = ((a % 2 ^ k : Nat) : Int) := by
  have h : 2 ^ k ≤ 2 ^ 31 := Nat.pow_le_pow_right (by decide) hk
  rw [u32_and_nat a _ ha (by omega), Nat.and_two_pow_sub_one_eq_mod]
theorem kindS (a : Nat) (ha : a < 4294967296) : spec_SingleKind.f (a : Int) = some (if a / 8388608 % 256 = 255 then (if a % 8388608 = 0 then 1 else 2) else 0) := by
  have e : ((a : Int) / 8388608) = ((a / 8388608 : Nat) : Int) := by omega
  have e1 : Go.bits .and .u32 ((a : Int) / 8388608) 255 = ((a / 8388608 % 256 : Nat) : Int) := by
    rw [e]
    exact low32 (a / 8388608) 8 (by omega) (by decide)
  have e2 : Go.bits .and .u32 (a : Int) 8388607 = ((a % 8388608 : Nat) : Int) := low32 a 23 ha (by decide)
  unfold spec_SingleKind.f
  rw [e1, e2]
  repeat' split
  all_goals (first | rfl | omega)
theorem fromH (a : Nat) (ha : a < 4294967296) : impl_HalfFrom.f (a : Int) = some ((f16 a : Nat) : Int) := by
  unfold impl_HalfFrom.f float16_f32bitsToF16bits.f
  rw [if_pos (by omega), if_pos (by omega), Int.toNat_natCast]
theorem nanS (a : Nat) (ha : a < 4294967296) : impl_HalfFromNaN.f (a : Int) = some (((nanH a : Nat) : Int), nanOk a) := by
  unfold impl_HalfFromNaN.f
  rw [if_pos (by omega), Int.toNat_natCast]
theorem or16 (a b : Nat) (ha : a < 65536) (hb : b < 65536) : Go.bits .or .u16 (a : Int) (b : Int) = ((a ||| b : Nat) : Int) := u16_or_nat a b ha hb
theorem wrapN (a : Nat) (ha : a < 65536) : IntKind.u16.wrap (a : Int) = (a : Int) := by
  rw [IntKind.wrap_u16]
  omega
theorem low10 (s k : Nat) (hk : k < 1024) : (s * 32768 ||| 31744 ||| k) % 1024 = k := by
  rw [show (1024 : Nat) = 2 ^ 10 from rfl, Nat.or_mod_two_pow, Nat.or_mod_two_pow, show s * 32768 % 2 ^ 10 = 0 by omega, show 31744 % 2 ^ 10 = 0 from rfl, Nat.mod_eq_of_lt (by omega : k < 2 ^ 10)]
  simp
theorem nan_pure : laws_FnHalfNaN.Pure := by
  intro a w
  simp only [Lit.wf, Bool.and_eq_true, decide_eq_true_eq] at w
  obtain ⟨w1, w2⟩ := w
  have w2 : a < 4294967296 := by
    have : IntKind.u32.max = 4294967295 := by decide
    omega
  have w1 : 0 ≤ a := by
    have : IntKind.u32.min = 0 := by decide
    omega
  obtain ⟨n, rfl⟩ := Int.eq_ofNat_of_zero_le w1
  have hn : n < 4294967296 := by omega
  unfold laws_FnHalfNaN.f
  rw [bnd (nanS n hn), bnd (kindS n hn)]
  by_cases h : nanOk n = true
  · have h' := h
    unfold nanOk at h'
    rw [Bool.and_eq_true, beq_iff_eq, bne_iff_ne] at h'
    obtain ⟨h1, h2⟩ := h'
    rw [if_pos h1, if_neg h2, if_pos rfl, bnd (fromH n hn)]
    have s1 : n / 2147483648 * 32768 < 65536 := by omega
    have s0 : Go.bits .and .u32 ((n : Int) / 65536) 32768 = ((n / 2147483648 * 32768 : Nat) : Int) := by
      have e : ((n : Int) / 65536) = ((n / 65536 : Nat) : Int) := by omega
      have b := u16_and_nat (n / 65536) 32768 (by omega) (by decide)
      have b2 := u32_and_nat (n / 65536) 32768 (by omega) (by decide)
      rw [show ((32768 : Nat) : Int) = 32768 from rfl] at b2
      rw [e, b2]
      congr 1
      apply Nat.eq_of_testBit_eq
      intro i
      rw [Nat.testBit_and, show (32768 : Nat) = 2 ^ 15 from rfl, Nat.testBit_two_pow, Nat.mul_comm, Nat.testBit_two_pow_mul, show n / 2147483648 = n / 65536 / 2 ^ 15 by omega, Nat.testBit_div_two_pow]
      by_cases h : 15 = i
      · subst h
        simp
      · by_cases h2 : 15 ≤ i
        · rw [Nat.sub_add_cancel h2, Nat.testBit_lt_two_pow (Nat.lt_of_lt_of_le (show n / 65536 < 2 ^ 16 by omega) (Nat.pow_le_pow_right (by decide) (by omega)))]
          simp
        · simp [h, h2]
    have k0 : Go.bits .and .u32 ((n : Int) / 8192) 1023 = ((n % 8388608 / 8192 : Nat) : Int) := by
      have e : ((n : Int) / 8192) = ((n / 8192 : Nat) : Int) := by omega
      rw [e]
      have b := low32 (n / 8192) 10 (by omega) (by decide)
      rw [show ((2 ^ 10 - 1 : Nat) : Int) = 1023 from rfl, show (2 : Nat) ^ 10 = 1024 from rfl] at b
      rw [b]
      omega
    have k1 : n % 8388608 / 8192 < 1024 := by omega
    have o1 : n / 2147483648 * 32768 ||| 32256 < 65536 := or_lt16 s1 (by decide)
    have o2 : n / 2147483648 * 32768 ||| 31744 < 65536 := or_lt16 s1 (by decide)
    have e1 := or16 (n / 2147483648 * 32768) 32256 s1 (by decide)
    have e2 := or16 (n / 2147483648 * 32768) 31744 s1 (by decide)
    rw [show ((32256 : Nat) : Int) = 32256 from rfl] at e1
    rw [show ((31744 : Nat) : Int) = 31744 from rfl] at e2
    have f1 : f16 n = n / 2147483648 * 32768 ||| 32256 ||| n % 8388608 / 8192 := by
      unfold f16
      simp only []
      rw [if_pos h1, if_neg h2, Nat.or_assoc (n / 2147483648 * 32768) 31744 512, show (31744 ||| 512 : Nat) = 32256 from rfl]
    have m1 : mx ((n % 8388608 / 8192 : Nat) : Int) 1 = ((if n % 8388608 / 8192 = 0 then 1 else n % 8388608 / 8192 : Nat) : Int) := by
      unfold mx
      split <;> split <;> omega
    rw [s0, k0, wrapN _ s1, wrapN _ (by omega), e1, e2, or16 _ _ o1 (by omega), f1, if_pos rfl, h, if_pos rfl, m1, or16 _ _ o2 (by split <;> omega)]
    have f2 : nanH n = n / 2147483648 * 32768 ||| 31744 ||| (if n % 8388608 / 8192 = 0 then 1 else n % 8388608 / 8192) := by
      unfold nanH
      rw [if_pos h]
      have l := low10 (n / 2147483648) (n % 8388608 / 8192) k1
      by_cases h5 : n % 8388608 / 8192 = 0
      · rw [if_pos (by unfold nanF; rw [l, h5]), if_pos h5]
        unfold nanF
        rw [h5, Nat.or_zero]
      · rw [if_neg (by unfold nanF; rw [l]; exact h5), if_neg h5]
        rfl
    rw [f2]
    simp
  · have h' : nanOk n = false := by simpa using h
    have hh : nanH n = 31745 := by
      unfold nanH
      rw [if_neg h]
    rw [if_neg (by
      unfold nanOk at h
      split
      · split
        · decide
        · rename_i a1 a2
          exact absurd (by rw [a1, bne_iff_ne.mpr a2]; rfl) h
      · decide), h']
    show (if false = true then some false else some (((nanH n : Nat) : Int) == 31745)) = some true
    rw [if_neg (by decide), hh]
    rfl
theorem nan_walk (a : Int) (h : 0 ≤ a ∧ a ≤ 4294967295) (w : World) :
    Calls Try.prog 10 #[.int .u32 a] w fun e w' => e = .returned (.bool true) ∧ Below w.heap.size w w' :=
  laws_FnHalfNaN.walk nan_pure a w (by simp only [Lit.wf, Bool.and_eq_true, decide_eq_true_eq]; exact h)
end Go.Proofs.Ytdepcnaiobfpkaa.NAll
