/- Decimal digits: the codes of a number's lowest k ones, the highest first. -/
import Derived.Test.YtiifnofghicnaaaDoorProg
import Derived.Lib.SlBytesRow
import Derived.Lib.SlBytesConst
namespace Go.Proofs.YtiifnofghicnaaaDoor.PAll
/-- The codes of the k lowest digits. -/
def pad (k x : Nat) : List Int := (List.range k).map fun j => ((48 + x / 10 ^ (k - 1 - j) % 10 : Nat) : Int)
/-- A number has just t digits. -/
def DigN (t x : Nat) : Prop := x / 10 ^ t = 0 ∧ ∀ i, i < t → x / 10 ^ i ≠ 0
theorem pad_len (k x : Nat) : (pad k x).length = k := by simp [pad]
theorem pad_get (k x j : Nat) (h : j < k) : (pad k x)[j]? = some ((48 + x / 10 ^ (k - 1 - j) % 10 : Nat) : Int) := by
  simp [pad, List.getElem?_map, List.getElem?_range h]
theorem pad_none (k x j : Nat) (h : ¬ j < k) : (pad k x)[j]? = none := by
  rw [List.getElem?_eq_none_iff, pad_len]
  omega
theorem pad_drop (t x n : Nat) (h : t ≤ n) : (pad n x).drop (n - t) = pad t x := by
  apply List.ext_getElem?
  intro j
  rw [List.getElem?_drop]
  by_cases hj : j < t
  · rw [pad_get _ _ _ (by omega), pad_get _ _ _ hj, show n - 1 - (n - t + j) = t - 1 - j by omega]
  · rw [pad_none _ _ _ (by omega), pad_none _ _ _ hj]
theorem pad_succ (t x : Nat) : pad (t + 1) x = ((48 + x / 10 ^ t % 10 : Nat) : Int) :: pad t x := by
  apply List.ext_getElem?
  intro j
  cases j with
  | zero => rw [pad_get _ _ _ (by omega)]; rfl
  | succ j =>
    rw [List.getElem?_cons_succ]
    by_cases hj : j < t
    · rw [pad_get _ _ _ (by omega), pad_get _ _ _ hj, show t + 1 - 1 - (j + 1) = t - 1 - j by omega]
    · rw [pad_none _ _ _ (by omega), pad_none _ _ _ hj]
theorem pad_zero : pad 40 0 = List.replicate 40 48 := by decide +kernel
theorem low_div (y e j d : Nat) (hy : y < 10 ^ e) (hd : d < 10) (hj : j ≠ e) : (y + d * 10 ^ e) / 10 ^ j % 10 = y / 10 ^ j % 10 := by
  rcases Nat.lt_or_gt_of_ne hj with h | h
  · obtain ⟨c, rfl⟩ : ∃ c, e = j + 1 + c := ⟨e - (j + 1), by omega⟩
    have e1 : d * 10 ^ (j + 1 + c) = 10 ^ j * (10 * (d * 10 ^ c)) := by rw [Nat.pow_add, Nat.pow_succ]; ac_rfl
    rw [e1, Nat.add_mul_div_left _ _ (Nat.pos_of_ne_zero (by simp)), Nat.add_mul_mod_self_left]
  · obtain ⟨c, rfl⟩ : ∃ c, j = e + 1 + c := ⟨j - (e + 1), by omega⟩
    have hp : 10 ^ (e + 1) ≤ 10 ^ (e + 1 + c) := Nat.pow_le_pow_right (by decide) (by omega)
    have hs : 10 ^ (e + 1) = 10 * 10 ^ e := by rw [Nat.pow_succ, Nat.mul_comm]
    have hm : d * 10 ^ e ≤ 9 * 10 ^ e := Nat.mul_le_mul_right _ (by omega)
    rw [Nat.div_eq_of_lt (by omega), Nat.div_eq_of_lt (by omega)]
theorem low_at (y e d : Nat) (hy : y < 10 ^ e) (hd : d < 10) : (y + d * 10 ^ e) / 10 ^ e % 10 = d := by
  rw [Nat.add_mul_div_right _ _ (Nat.pos_of_ne_zero (by simp)), Nat.div_eq_of_lt hy, Nat.zero_add, Nat.mod_eq_of_lt hd]
theorem pad_set (y e d : Nat) (he : e < 40) (hy : y < 10 ^ e) (hd : d < 10) :
    ((pad 40 y).map (Value.int .u8)).toArray.setIfInBounds (39 - e) (.int .u8 ((48 + d : Nat) : Int)) = ((pad 40 (y + d * 10 ^ e)).map (Value.int .u8)).toArray := by
  rw [List.setIfInBounds_toArray, ← List.map_set]
  congr 2
  apply List.ext_getElem?
  intro j
  by_cases hj : j < 40
  · rw [List.getElem?_set, pad_get _ _ _ hj, pad_len]
    by_cases h : 39 - e = j
    · rw [if_pos h, if_pos (by omega), pad_get _ _ _ hj, show 40 - 1 - j = e by omega, low_at y e d hy hd]
    · rw [if_neg h, pad_get _ _ _ hj, low_div y e _ d hy hd (by omega)]
  · rw [List.getElem?_eq_none_iff.2 (by rw [List.length_set, pad_len]; omega), pad_none _ _ _ hj]
theorem mod_step (x e : Nat) : x % 10 ^ (e + 1) = x % 10 ^ e + x / 10 ^ e % 10 * 10 ^ e := by
  rw [Nat.mod_pow_succ, Nat.mul_comm]
theorem str_cons (c : Int) (l : List Int) : Go.strOfNums [c] ++ Go.strOfNums l = Go.strOfNums (c :: l) := by
  apply ByteArray.ext
  rw [ByteArray.data_append]
  simp [Go.strOfNums]
theorem digN_lt {t x j : Nat} (h : DigN t x) (hj : x / 10 ^ j ≠ 0) : j < t := by
  refine Nat.lt_of_not_le fun hle => hj ?_
  have hp : 10 ^ t ≤ 10 ^ j := Nat.pow_le_pow_right (by decide) hle
  have := (Nat.div_eq_zero_iff_lt (Nat.pos_of_ne_zero (by simp))).1 h.1
  exact Nat.div_eq_of_lt (by omega)
theorem digN_zero : DigN 0 0 := ⟨by decide, fun i h => absurd h (by omega)⟩
theorem digN_ex (x : Nat) : ∀ n, x < 10 ^ n → ∃ t, t ≤ n ∧ DigN t x
  | 0, h => ⟨0, Nat.le_refl _, by simpa using h, fun i h => absurd h (by omega)⟩
  | n + 1, h => by
    by_cases hn : x / 10 ^ n = 0
    · obtain ⟨t, ht, hd⟩ := digN_ex x n ((Nat.div_eq_zero_iff_lt (Nat.pos_of_ne_zero (by simp))).1 hn)
      exact ⟨t, by omega, hd⟩
    · refine ⟨n + 1, Nat.le_refl _, Nat.div_eq_of_lt h, fun i hi h0 => hn ?_⟩
      have h1 := (Nat.div_eq_zero_iff_lt (Nat.pos_of_ne_zero (by simp))).1 h0
      have hp : 10 ^ i ≤ 10 ^ n := Nat.pow_le_pow_right (by decide) (by omega)
      exact Nat.div_eq_of_lt (by omega)
end Go.Proofs.YtiifnofghicnaaaDoor.PAll
