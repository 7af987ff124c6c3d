/- spec.Divided: the quotient and the rest of whole numbers. -/
import Derived.Test.YtiifnofghicnaaaDoorLenLaw
import Derived.Test.YtiifnofghicnaaaDoorPlusLaw
import Derived.Test.YtiifnofghicnaaaDoorMinusLaw
import Derived.Test.YtiifnofghicnaaaDoorCmpLaw
import Derived.Test.YtiifnofghicnaaaDoorQAllx2
namespace Go.Proofs.YtiifnofghicnaaaDoor.PAll
open Go.RowKit Go.Proofs.YtiifnofghicnaaaDoorW.PrintWords Go.Proofs.YtiifnofghicnaaaDoorW.PrintLast Go.Proofs.YtiifnofghicnaaaDoorW.PrintMore
theorem divided_l0 (k : Nat) (x0 x1 x4 x5 : List Int) (x7 : Int) : spec_Divided.l0 (k + 1) x0 x1 x4 x5 x7 = if x7 ≥ 0 then ((spec_Plus.f k x5 x5).bind fun t186 => ((spec_Big_Bit.f x0 x7).bind fun t189 => (if t189 = true then ((spec_Plus.f k t186 (([1] : List Int))).bind fun t193 => (spec_Divided.j1 k x0 x1 x4 t193 x7)) else (spec_Divided.j1 k x0 x1 x4 t186 x7)))) else (some (x4, x5)) := by
  rw [spec_Divided.l0]
theorem divided_j1 (k : Nat) (x0 x1 x4 x5 : List Int) (x7 : Int) : spec_Divided.j1 (k + 1) x0 x1 x4 x5 x7 = (spec_Plus.f k x4 x4).bind fun t196 => ((spec_Compare.f k x5 x1).bind fun t199 => (if t199 ≥ 0 then ((spec_Minus.f k x5 x1).bind fun t200 => ((spec_Plus.f k t196 (([1] : List Int))).bind fun t206 => (spec_Divided.l0 k x0 x1 t206 t200 (wrap64 (x7 - 1))))) else (spec_Divided.l0 k x0 x1 t196 x5 (wrap64 (x7 - 1))))) := by
  rw [spec_Divided.j1]
theorem nd10 {m : Nat} (h : m < 1461501637330902918203684832716283019655932542976) : Dig.nd m ≤ 10 := Dig.nd_le (by simpa using h)
theorem dg_one : Dig.dg 1 = [1] := by decide +kernel
theorem small_plus (x y k : Nat) (hx : x < 1461501637330902918203684832716283019655932542976) (hy : y < 1461501637330902918203684832716283019655932542976) (hk : 60 < k) : spec_Plus.f k (Dig.dg x) (Dig.dg y) = some (Dig.dg (x + y)) := by
  have h1 := nd10 hx
  have h2 := nd10 hy
  exact plus_law x y k (by omega) (by omega) (by omega)
theorem small_one (x k : Nat) (hx : x < 1461501637330902918203684832716283019655932542976) (hk : 60 < k) : spec_Plus.f k (Dig.dg x) [1] = some (Dig.dg (x + 1)) := by
  rw [← dg_one]
  exact small_plus x 1 k hx (by decide) hk
theorem small_minus (x y k : Nat) (h : y ≤ x) (hx : x < 1461501637330902918203684832716283019655932542976) (hk : 60 < k) : spec_Minus.f k (Dig.dg x) (Dig.dg y) = some (Dig.dg (x - y)) := by
  have h1 := nd10 hx
  exact minus_law x y k h (by omega) (by omega)
theorem small_cmp (x y k : Nat) (hx : x < 1461501637330902918203684832716283019655932542976) (hy : y < 1461501637330902918203684832716283019655932542976) (hk : 60 < k) (hk2 : k < 100000) : spec_Compare.f k (Dig.dg x) (Dig.dg y) = some (cmpN x y) := by
  have h1 := nd10 hx
  have h2 := nd10 hy
  exact compare_law x y k (by omega) (by omega) (by omega)
theorem cmpN_ge (x y : Nat) : cmpN x y ≥ 0 ↔ y ≤ x := by
  unfold cmpN
  split
  · omega
  · split <;> omega
/-- One more bit of the dividend. -/
theorem next_bit (A b β : Nat) (hb : 0 < b) (hβ : β ≤ 1) : (2 * A + β) / b = (if b ≤ 2 * (A % b) + β then 2 * (A / b) + 1 else 2 * (A / b)) ∧ (2 * A + β) % b = (if b ≤ 2 * (A % b) + β then 2 * (A % b) + β - b else 2 * (A % b) + β) := by
  have d := Nat.div_add_mod A b
  have m := Nat.mod_lt A hb
  generalize A / b = q at *
  generalize A % b = r at *
  rw [Nat.div_mod_unique hb]
  split
  · refine ⟨?_, by omega⟩
    have : b * (2 * q + 1) = 2 * (b * q) + b := by
      rw [Nat.mul_add, Nat.mul_one, Nat.mul_left_comm]
    rw [this]
    generalize b * q = P at *
    omega
  · refine ⟨?_, by omega⟩
    have : b * (2 * q) = 2 * (b * q) := Nat.mul_left_comm ..
    rw [this]
    generalize b * q = P at *
    omega
theorem bit_div (a n : Nat) : a / 2 ^ n = 2 * (a / 2 ^ (n + 1)) + (a.testBit n).toNat := by
  rw [Nat.toNat_testBit, Nat.pow_succ, ← Nat.div_div_eq_div_mul]
  omega
theorem divided_loop (a b : Nat) (hb : 0 < b) (hb2 : b < 340282366920938463463374607431768211456) (ha : a < 340282366920938463463374607431768211456) : ∀ (n k : Nat), 60 < k → k + 2 * n < 90000 → n ≤ 1000 →
    spec_Divided.l0 (k + 2 * n + 1) (Dig.dg a) (Dig.dg b) (Dig.dg (a / 2 ^ n / b)) (Dig.dg (a / 2 ^ n % b)) ((n : Int) - 1) = some (Dig.dg (a / b), Dig.dg (a % b))
  | 0, k, _, _, _ => by
    rw [divided_l0, if_neg (by omega)]
    simp
  | n + 1, k, hk, hk2, hn => by
    have ih := divided_loop a b hb hb2 ha n k hk (by omega) (by omega)
    have e1 : (((n + 1 : Nat) : Int) - 1) = (n : Int) := by omega
    have e2 : wrap64 ((n : Int) - 1) = (n : Int) - 1 := by unfold wrap64; omega
    have nb := next_bit (a / 2 ^ (n + 1)) b (a.testBit n).toNat hb (Bool.toNat_le _)
    rw [← bit_div] at nb
    obtain ⟨n1, n2⟩ := nb
    rw [n1, n2] at ih
    have rl := Nat.mod_lt (a / 2 ^ (n + 1)) hb
    have ql : a / 2 ^ (n + 1) / b ≤ a := Nat.le_trans (Nat.div_le_self _ _) (Nat.div_le_self _ _)
    clear n1 n2
    generalize a / 2 ^ (n + 1) / b = q at *
    generalize a / 2 ^ (n + 1) % b = r at *
    rw [show k + 2 * (n + 1) + 1 = (k + 2 * n + 2) + 1 by omega, divided_l0, e1, if_pos (by omega), bnd (small_plus r r _ (by omega) (by omega) (by omega)), bnd (bit_law a n (by omega))]
    have j (r2 : Nat) (hr2 : r2 < 680564733841876926926749214863536422912) (h : (if b ≤ r2 then spec_Divided.l0 (k + 2 * n + 1) (Dig.dg a) (Dig.dg b) (Dig.dg (2 * q + 1)) (Dig.dg (r2 - b)) ((n : Int) - 1) else spec_Divided.l0 (k + 2 * n + 1) (Dig.dg a) (Dig.dg b) (Dig.dg (2 * q)) (Dig.dg r2) ((n : Int) - 1)) = some (Dig.dg (a / b), Dig.dg (a % b))) :
        spec_Divided.j1 (k + 2 * n + 2) (Dig.dg a) (Dig.dg b) (Dig.dg q) (Dig.dg r2) (n : Int) = some (Dig.dg (a / b), Dig.dg (a % b)) := by
      rw [show k + 2 * n + 2 = (k + 2 * n + 1) + 1 from rfl, divided_j1, bnd (small_plus q q _ (by omega) (by omega) (by omega)), bnd (small_cmp r2 b _ (by omega) (by omega) (by omega) (by omega)), e2]
      by_cases c : b ≤ r2
      · rw [if_pos c] at h
        rw [if_pos ((cmpN_ge r2 b).2 c), bnd (small_minus r2 b _ c (by omega) (by omega)), bnd (small_one (q + q) _ (by omega) (by omega)), ← h]
        congr 2
        omega
      · rw [if_neg c] at h
        rw [if_neg (fun hh => c ((cmpN_ge r2 b).1 hh)), ← h]
        congr 2
        omega
    cases hbit : a.testBit n
    · rw [if_neg (by decide)]
      rw [hbit] at ih
      refine j (r + r) (by omega) ?_
      rw [← ih]
      simp only [Bool.toNat_false, Nat.add_zero]
      rw [show r + r = 2 * r by omega]
      split <;> rfl
    · rw [if_pos rfl, bnd (small_one (r + r) _ (by omega) (by omega))]
      rw [hbit] at ih
      refine j (r + r + 1) (by omega) ?_
      rw [← ih]
      simp only [Bool.toNat_true]
      rw [show r + r + 1 = 2 * r + 1 by omega]
      split <;> rfl
theorem divided_law (a b k : Nat) (hb : 0 < b) (hb2 : b < 340282366920938463463374607431768211456) (ha : a < 340282366920938463463374607431768211456) (hk : 400 < k) (hk2 : k < 80000) : spec_Divided.f k (Dig.dg a) (Dig.dg b) = some (Dig.dg (a / b), Dig.dg (a % b)) := by
  have nd := nd_128 ha
  have l : blen a ≤ 128 := blen_le.2 (by omega)
  have z : a / 2 ^ blen a = 0 := Nat.div_eq_of_lt (blen_le.1 (Nat.le_refl _))
  unfold spec_Divided.f
  rw [bnd (length_law a k (by omega) (by omega))]
  have lp := divided_loop a b hb hb2 ha (blen a) (k - 2 * blen a - 1) (by omega) (by omega) (by omega)
  rw [z, Nat.zero_div, Nat.zero_mod, Dig.dg_zero, show k - 2 * blen a - 1 + 2 * blen a + 1 = k by omega] at lp
  have e : wrap64 (((blen a : Nat) : Int) - 1) = ((blen a : Nat) : Int) - 1 := by
    generalize blen a = n at *
    unfold wrap64
    omega
  rw [e]
  exact lp
end Go.Proofs.YtiifnofghicnaaaDoor.PAll
