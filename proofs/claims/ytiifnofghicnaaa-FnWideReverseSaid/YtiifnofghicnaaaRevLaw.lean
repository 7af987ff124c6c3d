/- Reverse and ReverseBytes of numbers of 128 bits, bit by bit. -/
import Derived.Test.YtiifnofghicnaaaWordLaw
import Derived.Test.YtiifnofghicnaaaQAllx30
namespace Go.Proofs.Ytiifnofghicnaaa.PAll
open Go.RowKit Go.Proofs.YtiifnofghicnaaaW.PrintWords Go.Proofs.YtiifnofghicnaaaW.PrintLast Go.Proofs.YtiifnofghicnaaaW.PrintMore
/-- One stage: every bit changes its place with the one s away. -/
def stage (s : Nat) (m x : Nat) : Nat := ((x / 2 ^ s) &&& m) ||| ((x &&& m) * 2 ^ s % 18446744073709551616)
theorem stage_lt {s m x : Nat} (hm : m < 18446744073709551616) : stage s m x < 18446744073709551616 := or_lt (and_lt hm) (shl_lt _ _)
def place (s : Nat) (i : Nat) : Nat := if i / s % 2 = 0 then i + s else i - s
theorem stage_bit (s m x i : Nat) (hi : i < 64) (hm : ∀ j, j < 64 → m.testBit j = decide (j / s % 2 = 0)) (hp : i / s % 2 ≠ 0 → s ≤ i ∧ (i - s) / s % 2 = 0) (hq : i / s % 2 = 0 → s ≤ i → (i - s) / s % 2 ≠ 0) :
    (stage s m x).testBit i = x.testBit (place s i) := by
  unfold stage place at *
  rw [Nat.testBit_or, Nat.testBit_and, bit_shr, bit_shl _ _ _ hi, Nat.testBit_and, hm i hi]
  by_cases h : i / s % 2 = 0
  · rw [if_pos h, decide_eq_true h, Bool.and_true]
    by_cases h2 : s ≤ i
    · rw [hm (i - s) (by omega), decide_eq_false (hq h h2)]
      simp
    · rw [decide_eq_false h2]
      simp
  · obtain ⟨h1, h2⟩ := hp h
    rw [if_neg h, decide_eq_false h, decide_eq_true h1, hm (i - s) (by omega), decide_eq_true h2]
    simp
def m1 : Nat := 6148914691236517205
def m2 : Nat := 3689348814741910323
def m4 : Nat := 1085102592571150095
def m8 : Nat := 71777214294589695
def m16 : Nat := 281470681808895
def m32 : Nat := 4294967295
theorem mask_ok : ∀ p ∈ [(1, m1), (2, m2), (4, m4), (8, m8), (16, m16), (32, m32)], ∀ j, j < 64 → p.2.testBit j = decide (j / p.1 % 2 = 0) := by decide +kernel
theorem place_ok : ∀ s ∈ [1, 2, 4, 8, 16, 32], ∀ i, i < 64 → place s i < 64 ∧ (i / s % 2 ≠ 0 → s ≤ i ∧ (i - s) / s % 2 = 0) ∧ (i / s % 2 = 0 → s ≤ i → (i - s) / s % 2 ≠ 0) := by decide +kernel
theorem stage_at (s m : Nat) (h : (s, m) ∈ [(1, m1), (2, m2), (4, m4), (8, m8), (16, m16), (32, m32)]) (hs : s ∈ [1, 2, 4, 8, 16, 32]) (x i : Nat) (hi : i < 64) : (stage s m x).testBit i = x.testBit (place s i) := by
  obtain ⟨_, h2, h3⟩ := place_ok s hs i hi
  exact stage_bit s m x i hi (mask_ok _ h) h2 h3
def revBytes (x : Nat) : Nat := stage 32 m32 (stage 16 m16 (stage 8 m8 x))
def revBits (x : Nat) : Nat := revBytes (stage 4 m4 (stage 2 m2 (stage 1 m1 x)))
theorem revBytes_lt (x : Nat) : revBytes x < 18446744073709551616 := stage_lt (by decide)
theorem revBits_lt (x : Nat) : revBits x < 18446744073709551616 := revBytes_lt _
theorem place_bytes : ∀ i, i < 64 → place 8 (place 16 (place 32 i)) = 8 * (7 - i / 8) + i % 8 ∧ place 32 i < 64 ∧ place 16 (place 32 i) < 64 := by decide +kernel
theorem place_bits : ∀ i, i < 64 → place 1 (place 2 (place 4 (8 * (7 - i / 8) + i % 8))) = 63 - i ∧ 8 * (7 - i / 8) + i % 8 < 64 ∧ place 4 (8 * (7 - i / 8) + i % 8) < 64 ∧ place 2 (place 4 (8 * (7 - i / 8) + i % 8)) < 64 := by decide +kernel
theorem revBytes_bit (x i : Nat) (hi : i < 64) : (revBytes x).testBit i = x.testBit (8 * (7 - i / 8) + i % 8) := by
  obtain ⟨h1, h2, h3⟩ := place_bytes i hi
  unfold revBytes
  rw [stage_at 32 m32 (by simp) (by simp) _ i hi, stage_at 16 m16 (by simp) (by simp) _ _ h2, stage_at 8 m8 (by simp) (by simp) _ _ h3, h1]
theorem revBits_bit (x i : Nat) (hi : i < 64) : (revBits x).testBit i = x.testBit (63 - i) := by
  obtain ⟨h1, h2, h3, h4⟩ := place_bits i hi
  unfold revBits
  rw [revBytes_bit _ i hi, stage_at 4 m4 (by simp) (by simp) _ _ h2, stage_at 2 m2 (by simp) (by simp) _ _ h3, stage_at 1 m1 (by simp) (by simp) _ _ h4, h1]
theorem div_nat (x s : Nat) : (x : Int) / ((2 ^ s : Nat) : Int) = ((x / 2 ^ s : Nat) : Int) := by simp
theorem mul_wrap (x d : Nat) : IntKind.u64.wrap ((x : Int) * (d : Int)) = ((x * d % 18446744073709551616 : Nat) : Int) := by
  rw [IntKind.wrap_u64]
  have e : (x : Int) * (d : Int) = ((x * d : Nat) : Int) := by simp
  rw [e]
  omega
theorem stage_int (s m d : Nat) (hd : 2 ^ s = d) (x : Nat) (hx : x < 18446744073709551616) (hm : m < 18446744073709551616) :
    Go.bits .or .u64 (Go.bits .and .u64 ((x : Int) / (d : Int)) (m : Int)) (IntKind.u64.wrap ((Go.bits .and .u64 (x : Int) (m : Int)) * (d : Int))) = ((stage s m x : Nat) : Int) := by
  subst hd
  rw [div_nat, and_nat _ _ (shr_lt s hx) hm, and_nat _ _ hx hm, mul_wrap, or_nat _ _ (and_lt hm) (shl_lt _ _)]
  rfl
theorem mul_mod32 (x : Nat) : x % 4294967296 * 4294967296 % 18446744073709551616 = x * 4294967296 % 18446744073709551616 := by omega
/-- The last stage has no mask. -/
theorem last_int (x : Nat) (hx : x < 18446744073709551616) : Go.bits .or .u64 ((x : Int) / 4294967296) (IntKind.u64.wrap ((x : Int) * 4294967296)) = ((stage 32 m32 x : Nat) : Int) := by
  have e1 : (x : Int) / 4294967296 = ((x / 4294967296 : Nat) : Int) := by omega
  have e2 : IntKind.u64.wrap ((x : Int) * 4294967296) = ((x * 4294967296 % 18446744073709551616 : Nat) : Int) := mul_wrap x 4294967296
  rw [e1, e2, or_nat _ _ (Nat.lt_of_le_of_lt (Nat.div_le_self _ _) hx) (Nat.mod_lt _ (by decide))]
  congr 1
  unfold stage
  have p32 : (2 : Nat) ^ 32 = 4294967296 := by decide
  have q32 : (2 : Nat) ^ 32 - 1 = m32 := by decide
  have a1 : ∀ z : Nat, z &&& m32 = z % 4294967296 := fun z => by rw [← q32, Nat.and_two_pow_sub_one_eq_mod, p32]
  rw [a1, a1, p32, Nat.mod_eq_of_lt (Nat.div_lt_of_lt_mul hx), mul_mod32]
theorem revBytes_law (x : Nat) (hx : x < 18446744073709551616) : bits_ReverseBytes64.f (x : Int) = some ((revBytes x : Nat) : Int) := by
  unfold bits_ReverseBytes64.f
  have s8 := stage_int 8 m8 256 rfl x hx (by decide)
  have s16 := stage_int 16 m16 65536 rfl (stage 8 m8 x) (stage_lt (by decide)) (by decide)
  have s32 := last_int (stage 16 m16 (stage 8 m8 x)) (stage_lt (by decide))
  rw [show ((m8 : Nat) : Int) = 71777214294589695 from rfl, show ((256 : Nat) : Int) = 256 from rfl] at s8
  rw [show ((m16 : Nat) : Int) = 281470681808895 from rfl, show ((65536 : Nat) : Int) = 65536 from rfl] at s16
  rw [s8, s16, s32]
  rfl
theorem revBits_law (x : Nat) (hx : x < 18446744073709551616) : bits_Reverse64.f (x : Int) = some ((revBits x : Nat) : Int) := by
  unfold bits_Reverse64.f
  have s1 := stage_int 1 m1 2 rfl x hx (by decide)
  have s2 := stage_int 2 m2 4 rfl (stage 1 m1 x) (stage_lt (by decide)) (by decide)
  have s4 := stage_int 4 m4 16 rfl (stage 2 m2 (stage 1 m1 x)) (stage_lt (by decide)) (by decide)
  rw [show ((m1 : Nat) : Int) = 6148914691236517205 from rfl, show ((2 : Nat) : Int) = 2 from rfl] at s1
  rw [show ((m2 : Nat) : Int) = 3689348814741910323 from rfl, show ((4 : Nat) : Int) = 4 from rfl] at s2
  rw [show ((m4 : Nat) : Int) = 1085102592571150095 from rfl, show ((16 : Nat) : Int) = 16 from rfl] at s4
  rw [s1, s2, s4, bnd (revBytes_law _ (stage_lt (by decide)))]
  rfl
theorem rev_rev (x : Nat) (hx : x < 18446744073709551616) : revBits (revBits x) = x := by
  apply Nat.eq_of_testBit_eq
  intro i
  by_cases h : i < 64
  · rw [revBits_bit _ i h, revBits_bit x _ (by omega)]
    congr 1
    omega
  · rw [bit_high _ i (revBits_lt _) (by omega), bit_high x i hx (by omega)]
theorem revB_revB (x : Nat) (hx : x < 18446744073709551616) : revBytes (revBytes x) = x := by
  apply Nat.eq_of_testBit_eq
  intro i
  by_cases h : i < 64
  · rw [revBytes_bit _ i h, revBytes_bit x _ (by omega)]
    congr 1
    omega
  · rw [bit_high _ i (revBytes_lt _) (by omega), bit_high x i hx (by omega)]
theorem impl_reverse (x y : Nat) (hx : x < 18446744073709551616) (hy : y < 18446744073709551616) : impl_WideReverse.f (x : Int) (y : Int) = some (((revBits y : Nat) : Int), ((revBits x : Nat) : Int)) := by
  unfold impl_WideReverse.f
  have e : uint128_Uint128_Reverse.f (x : Int) (y : Int) = some (((revBits y : Nat) : Int), ((revBits x : Nat) : Int)) := by
    unfold uint128_Uint128_Reverse.f
    rw [bnd (revBits_law y hy), bnd (revBits_law x hx)]
  rw [bnd (show impl_Wide_u.f (x : Int) (y : Int) = some ((x : Int), (y : Int)) from rfl), bnd e]
  rfl
theorem impl_reverseBytes (x y : Nat) (hx : x < 18446744073709551616) (hy : y < 18446744073709551616) : impl_WideReverseBytes.f (x : Int) (y : Int) = some (((revBytes y : Nat) : Int), ((revBytes x : Nat) : Int)) := by
  unfold impl_WideReverseBytes.f
  have e : uint128_Uint128_ReverseBytes.f (x : Int) (y : Int) = some (((revBytes y : Nat) : Int), ((revBytes x : Nat) : Int)) := by
    unfold uint128_Uint128_ReverseBytes.f
    rw [bnd (revBytes_law y hy), bnd (revBytes_law x hx)]
  rw [bnd (show impl_Wide_u.f (x : Int) (y : Int) = some ((x : Int), (y : Int)) from rfl), bnd e]
  rfl
theorem reverse_bits (x y : Nat) (hx : x < 18446744073709551616) (_hy : y < 18446744073709551616) : laws_wideIs.f 100 ((revBits y : Nat) : Int) ((revBits x : Nat) : Int) (Dig.dg (Dig.ofb (fun i => (N128 (x : Int) (y : Int)).testBit (127 - i)) 128)) = some true := by
  refine is_bits _ _ _ (revBits_lt _) (revBits_lt _) (fun i hi => ?_) (fun i hi => ?_)
  · rw [revBits_bit y i hi, bit_whole _ _ _ hx, if_neg (by omega)]
    congr 1
    omega
  · rw [revBits_bit x i hi, bit_whole _ _ _ hx, if_pos (by omega)]
    congr 1
    omega
theorem reverseBytes_bits (x y : Nat) (hx : x < 18446744073709551616) (_hy : y < 18446744073709551616) : laws_wideIs.f 100 ((revBytes y : Nat) : Int) ((revBytes x : Nat) : Int) (Dig.dg (Dig.ofb (fun i => (N128 (x : Int) (y : Int)).testBit (8 * (15 - i / 8) + i % 8)) 128)) = some true := by
  refine is_bits _ _ _ (revBytes_lt _) (revBytes_lt _) (fun i hi => ?_) (fun i hi => ?_)
  · rw [revBytes_bit y i hi, bit_whole _ _ _ hx, if_neg (by omega)]
    congr 1
    omega
  · rw [revBytes_bit x i hi, bit_whole _ _ _ hx, if_pos (by omega)]
    congr 1
    omega
end Go.Proofs.Ytiifnofghicnaaa.PAll
