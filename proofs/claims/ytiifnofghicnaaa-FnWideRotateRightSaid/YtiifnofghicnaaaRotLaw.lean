/- Rotations of numbers of 128 bits, bit by bit. -/
import Derived.Test.YtiifnofghicnaaaShiftLaw
import Derived.Test.YtiifnofghicnaaaQAllx18
namespace Go.Proofs.Ytiifnofghicnaaa.PAll
open Go.RowKit Go.Proofs.YtiifnofghicnaaaW.PrintWords Go.Proofs.YtiifnofghicnaaaW.PrintLast Go.Proofs.YtiifnofghicnaaaW.PrintMore
theorem and127 (k : Int) (n : Nat) (h : k % 128 = n) : Go.bits .and .u64 (IntKind.u64.wrap k) 127 = (n : Int) := by
  rw [IntKind.wrap_u64]
  obtain ⟨t, ht⟩ : ∃ t : Nat, k % 18446744073709551616 = t := ⟨(k % 18446744073709551616).toNat, by omega⟩
  have e := and_nat t 127 (by omega) (by decide)
  rw [show ((127 : Nat) : Int) = 127 from rfl, show (127 : Nat) = 2 ^ 7 - 1 from rfl, Nat.and_two_pow_sub_one_eq_mod] at e
  rw [ht, e]
  omega
theorem rotl_bits (x y n : Nat) (k : Int) (hx : x < 18446744073709551616) (hy : y < 18446744073709551616) (hk : k % 128 = n) (_hn : n < 128) :
    ∃ u v : Nat, uint128_Uint128_RotateLeft.f x y k = some ((u : Int), (v : Int)) ∧ u < 18446744073709551616 ∧ v < 18446744073709551616 ∧
      (∀ i, i < 64 → u.testBit i = (N128 (x : Int) (y : Int)).testBit ((i + 128 - n) % 128)) ∧ (∀ i, i < 64 → v.testBit i = (N128 (x : Int) (y : Int)).testBit ((i + 64 + 128 - n) % 128)) := by
  obtain ⟨u1, v1, h1, hu1, hv1, bu1, bv1⟩ := lsh_bits x y n hx hy (by omega)
  obtain ⟨u2, v2, h2, hu2, hv2, bu2, bv2⟩ := rsh_bits x y (128 - n) hx hy (by omega)
  have e := int_sub 128 n (by omega) (by omega)
  rw [show ((128 : Nat) : Int) = 128 from rfl] at e
  have hN : ∀ j, 128 ≤ j → (N128 (x : Int) (y : Int)).testBit j = false := fun j hj => by
    rw [bit_whole _ _ _ hx, if_neg (by omega), bit_high y _ hy (by omega)]
  have main : ∀ i, i < 128 → ((decide (n ≤ i) && (N128 (x : Int) (y : Int)).testBit (i - n)) || (N128 (x : Int) (y : Int)).testBit (i + (128 - n))) = (N128 (x : Int) (y : Int)).testBit ((i + 128 - n) % 128) := by
    intro i hi
    by_cases h : n ≤ i
    · rw [decide_eq_true h, hN (i + (128 - n)) (by omega), Bool.true_and, Bool.or_false]
      congr 1
      omega
    · rw [decide_eq_false h, Bool.false_and, Bool.false_or]
      congr 1
      omega
  refine ⟨u1 ||| u2, v1 ||| v2, ?_, or_lt hu1 hu2, or_lt hv1 hv2, ?_, ?_⟩
  · unfold uint128_Uint128_RotateLeft.f
    rw [and127 k n hk, e, bnd h1, bnd h2]
    unfold uint128_Uint128_Or.f
    rw [or_nat _ _ hu1 hu2, or_nat _ _ hv1 hv2]
    rfl
  · intro i hi
    rw [Nat.testBit_or, bu1 i hi, bu2 i hi]
    exact main i (by omega)
  · intro i hi
    rw [Nat.testBit_or, bv1 i hi, bv2 i hi]
    exact main (i + 64) (by omega)
end Go.Proofs.Ytiifnofghicnaaa.PAll
