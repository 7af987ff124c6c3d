/- Whole numbers in base 65536, the lowest digit first: plain facts on the lists that the reference computes with. No program in sight. -/
import Derived.RowKit
namespace Go.Proofs.Ytjmgiodkfgdgnaa.Dig
open Go Go.RowKit

def digs (j m : Nat) : List Int := (List.range j).map fun k => ((m / 65536 ^ k % 65536 : Nat) : Int)

theorem digs_len (j m : Nat) : (digs j m).length = j := by simp [digs]
theorem digs_get (j m i : Nat) (h : i < j) : (digs j m)[i]? = some ((m / 65536 ^ i % 65536 : Nat) : Int) := by
  simp [digs, h]
theorem digs_getD (j m i : Nat) : (digs j m).getD i 0 = if i < j then ((m / 65536 ^ i % 65536 : Nat) : Int) else 0 := by
  rw [List.getD_eq_getElem?_getD]
  split
  · rw [digs_get _ _ _ (by assumption)]; rfl
  · rw [List.getElem?_eq_none (by rw [digs_len]; omega)]; rfl
theorem digs_zero (m : Nat) : digs 0 m = [] := rfl
theorem digs_succ (j m : Nat) : digs (j + 1) m = digs j m ++ [((m / 65536 ^ j % 65536 : Nat) : Int)] := by
  simp [digs, List.range_succ]
theorem digs_ext {l : List Int} {j m : Nat} (hl : l.length = j) (h : ∀ i, i < j → l[i]? = some ((m / 65536 ^ i % 65536 : Nat) : Int)) : l = digs j m := by
  apply List.ext_getElem?
  intro i
  by_cases hi : i < j
  · rw [h i hi, digs_get _ _ _ hi]
  · rw [List.getElem?_eq_none (by omega), List.getElem?_eq_none (by rw [digs_len]; omega)]
theorem digs_take (i j m : Nat) (h : i ≤ j) : (digs j m).take i = digs i m := by
  apply digs_ext (by rw [List.length_take, digs_len]; omega)
  intro k hk
  rw [List.getElem?_take, if_pos hk, digs_get _ _ _ (by omega)]

theorem p16 (k : Nat) : 65536 ^ k = 2 ^ (16 * k) := by rw [Nat.pow_mul]

/-- How many digits a number has. -/
def nd (m : Nat) : Nat := if m = 0 then 0 else Nat.log2 m / 16 + 1
theorem nd_zero : nd 0 = 0 := rfl
theorem lt_nd (m : Nat) : m < 65536 ^ nd m := by
  unfold nd
  split
  · subst m; decide
  · have h := @Nat.lt_log2_self m
    refine Nat.lt_of_lt_of_le h ?_
    rw [p16]
    exact Nat.pow_le_pow_right (by decide) (by omega)
theorem nd_le {m j : Nat} (h : m < 65536 ^ j) : nd m ≤ j := by
  unfold nd
  split
  · omega
  · rename_i h0
    have h1 := Nat.log2_self_le h0
    rw [p16] at h
    have h2 : 2 ^ m.log2 < 2 ^ (16 * j) := Nat.lt_of_le_of_lt h1 h
    have h3 := (Nat.pow_lt_pow_iff_right (a := 2) (by decide)).1 h2
    omega
theorem nd_pos {m : Nat} (h : m ≠ 0) : 0 < nd m := by
  unfold nd
  rw [if_neg h]
  omega
/-- Beyond its digits a number has noughts. -/
theorem dig_beyond {m i : Nat} (h : nd m ≤ i) : m / 65536 ^ i = 0 := by
  apply Nat.div_eq_of_lt
  exact Nat.lt_of_lt_of_le (lt_nd m) (Nat.pow_le_pow_right (by decide) h)
theorem nd_mono {m n : Nat} (h : m ≤ n) : nd m ≤ nd n := nd_le (Nat.lt_of_le_of_lt h (lt_nd n))
/-- A number's digits, no nought at the end. -/
def dg (m : Nat) : List Int := digs (nd m) m
theorem dg_len (m : Nat) : (dg m).length = nd m := digs_len _ _
theorem dg_zero : dg 0 = [] := rfl
theorem dg_getD (m i : Nat) : (dg m).getD i 0 = ((m / 65536 ^ i % 65536 : Nat) : Int) := by
  unfold dg
  rw [digs_getD]
  split
  · rfl
  · rw [dig_beyond (by omega)]; rfl
/-- The bits b 0, b 1, .. as a number. -/
def ofb (b : Nat → Bool) : Nat → Nat
  | 0 => 0
  | k + 1 => ofb b k + if b k then 2 ^ k else 0
theorem ofb_lt (b : Nat → Bool) (k : Nat) : ofb b k < 2 ^ k := by
  induction k with
  | zero => simp [ofb]
  | succ k ih =>
    simp only [ofb, Nat.pow_succ]
    split <;> omega
theorem ofb_bit (b : Nat → Bool) (k i : Nat) : (ofb b k).testBit i = (decide (i < k) && b i) := by
  induction k with
  | zero => simp [ofb]
  | succ k ih =>
    have hlt := ofb_lt b k
    simp only [ofb]
    by_cases hb : b k = true
    · rw [if_pos hb, Nat.add_comm]
      by_cases hi : i = k
      · subst hi
        rw [Nat.testBit_two_pow_add_eq, Nat.testBit_lt_two_pow hlt]
        simp [hb]
      · by_cases hik : i < k
        · rw [Nat.testBit_two_pow_add_gt hik, ih]
          simp [hik, Nat.lt_succ_of_lt hik]
        · have h1 : 2 ^ k + ofb b k < 2 ^ i := by
            have : 2 ^ (k + 1) ≤ 2 ^ i := Nat.pow_le_pow_right (by decide) (by omega)
            rw [Nat.pow_succ] at this
            omega
          rw [Nat.testBit_lt_two_pow h1]
          have : ¬ i < k + 1 := by omega
          simp [this]
    · rw [if_neg hb, Nat.add_zero, ih]
      by_cases hi : i = k
      · subst hi; simp [hb]
      · congr 1
        simp
        omega
theorem ofb_congr {b c : Nat → Bool} {k : Nat} (h : ∀ i, i < k → b i = c i) : ofb b k = ofb c k := by
  induction k with
  | zero => rfl
  | succ k ih => simp only [ofb]; rw [ih (fun i hi => h i (by omega)), h k (by omega)]
/-- A number below 2^k out of its bits. -/
theorem ofb_testBit (n k : Nat) : ofb n.testBit k = n % 2 ^ k := by
  apply Nat.eq_of_testBit_eq
  intro i
  rw [ofb_bit, Nat.testBit_mod_two_pow]
theorem ofb_is {n k : Nat} {b : Nat → Bool} (hn : n < 2 ^ k) (h : ∀ i, i < k → b i = n.testBit i) : ofb b k = n := by
  rw [ofb_congr h, ofb_testBit, Nat.mod_eq_of_lt hn]

/-- One more bit is set, in the digit where it lies. -/
theorem digs_set (j m k : Nat) (hm : m < 2 ^ k) (_hk : k / 16 < j) :
    (digs j m).set (k / 16) ((m / 65536 ^ (k / 16) % 65536 + 2 ^ (k % 16) : Nat) : Int) = digs j (m + 2 ^ k) := by
  have hk' : 2 ^ k = 65536 ^ (k / 16) * 2 ^ (k % 16) := by
    rw [p16, ← Nat.pow_add]; congr 1; omega
  have hp : ∀ i, 0 < 65536 ^ i := fun i => Nat.pow_pos (by decide)
  have hlt : m / 65536 ^ (k / 16) < 2 ^ (k % 16) := Nat.div_lt_of_lt_mul (by rw [← hk']; exact hm)
  have h16 : 2 ^ (k % 16) ≤ 2 ^ 15 := Nat.pow_le_pow_right (by decide) (by omega)
  apply digs_ext (by rw [List.length_set, digs_len])
  intro i hi
  rw [List.getElem?_set]
  by_cases h : k / 16 = i
  · subst h
    rw [if_pos rfl, digs_len, if_pos hi]
    rw [hk', Nat.add_mul_div_left _ _ (hp _)]
    generalize m / 65536 ^ (k / 16) = x at *
    generalize 2 ^ (k % 16) = y at *
    congr 2
    rw [Nat.mod_eq_of_lt (show x < 65536 by omega), Nat.mod_eq_of_lt (show x + y < 65536 by omega)]
  · rw [if_neg h, digs_get _ _ _ hi]
    congr 2
    rcases Nat.lt_or_ge i (k / 16) with h1 | h1
    · have : 2 ^ k = 65536 ^ i * (65536 * (2 ^ (k - 16 * (i + 1)))) := by
        rw [show (65536 : Nat) = 2 ^ 16 from rfl, ← Nat.pow_mul, ← Nat.pow_add, ← Nat.pow_add]; congr 1; omega
      rw [this, Nat.add_mul_div_left _ _ (hp _), Nat.add_mul_mod_self_left]
    · have h2 : m + 2 ^ k < 65536 ^ i := by
        rw [p16]
        have : 2 ^ (k + 1) ≤ 2 ^ (16 * i) := Nat.pow_le_pow_right (by decide) (by omega)
        rw [Nat.pow_succ] at this
        omega
      rw [Nat.div_eq_of_lt h2, Nat.div_eq_of_lt (by omega)]
theorem or_add {d e : Nat} (h : d < 2 ^ e) : d ||| 2 ^ e = d + 2 ^ e := by
  have := Nat.two_pow_add_eq_or_of_lt h 1
  rw [Nat.mul_one] at this
  rw [Nat.or_comm, ← this, Nat.add_comm]

/-- The bit at a place, out of the digit where it lies. -/
theorem bit_dig (m at_ : Nat) : ((m / 65536 ^ (at_ / 16) % 65536) / 2 ^ (at_ % 16)) % 2 = if m.testBit at_ then 1 else 0 := by
  rw [p16]
  have h1 : (m / 2 ^ (16 * (at_ / 16)) % 65536).testBit (at_ % 16) = m.testBit at_ := by
    rw [show (65536 : Nat) = 2 ^ 16 from rfl, Nat.testBit_mod_two_pow, Nat.testBit_div_two_pow]
    rw [decide_eq_true (show at_ % 16 < 16 by omega), show at_ % 16 + 16 * (at_ / 16) = at_ by omega]
    rfl
  rw [← h1, Nat.testBit_eq_decide_div_mod_eq]
  simp only [decide_eq_true_eq]
  split <;> omega
end Go.Proofs.Ytjmgiodkfgdgnaa.Dig

namespace Go.Proofs.Ytjmgiodkfgdgnaa.PAll
/-- Both halves are numbers of 64 bits. -/
def U64 (x : Int) : Prop := 0 ≤ x ∧ x < 18446744073709551616
instance (x : Int) : Decidable (U64 x) := inferInstanceAs (Decidable (_ ∧ _))
def N128 (lo hi : Int) : Nat := lo.toNat + hi.toNat * 18446744073709551616
def halves (n : Nat) : Int × Int := (((n % 18446744073709551616 : Nat) : Int), ((n / 18446744073709551616 % 18446744073709551616 : Nat) : Int))
end Go.Proofs.Ytjmgiodkfgdgnaa.PAll
