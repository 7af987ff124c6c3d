/- Printed by the kit's print.py, called for several laws at once: functions as plain Lean, and the walks' contracts. -/
import Derived.Test.YtdepcnaiobfpkaaNAllx0
namespace Go.Proofs.Ytdepcnaiobfpkaa.NAll
open Go.RowKit Go.Proofs.YtdepcnaiobfpkaaW.PrintWords Go.Proofs.YtdepcnaiobfpkaaW.PrintLast Go.Proofs.YtdepcnaiobfpkaaW.PrintMore
attribute [local go_sem] max2_int min2_int max_two min_two max_three min_three max_four min_four   -- for this text's walks alone
set_option linter.unusedVariables false
set_option linter.unusedSimpArgs false

/-! ### spec_SingleKind: function 19 -/
def spec_SingleKind.f (a0 : Int) : Option (Int) := if (Go.bits .and .u32 (a0 / 8388608) 255) = 255 then (if (Go.bits .and .u32 a0 8388607) = 0 then (some 1) else (some 2)) else (some 0)
set_option maxHeartbeats 8000000 in
set_option maxRecDepth 100000 in
theorem spec_SingleKind.calls (a0 : Int) (r : Int) (w : World) (h : spec_SingleKind.f a0 = some r) :
    Calls Try.prog 19 #[.int .u32 a0] w fun e w' => e = .returned (.int .i64 r) ∧ Drawn0 w w' := by
  have H : (if (Go.bits .and .u32 (a0 / 8388608) 255) = 255 then (if (Go.bits .and .u32 a0 8388607) = 0 then (some 1) else (some 2)) else (some 0)) = some r := h
  clear h
  by_cases c2 : (Go.bits .and .u32 (a0 / 8388608) 255) = 255
  · rw [if_pos c2] at H
    have c2b0 : ((Go.bits .and .u32 (a0 / 8388608) 255) == 255) = true := beq_iff_eq.mpr c2
    have c2b1 : ((Go.bits .and .u32 (a0 / 8388608) 255) != 255) = false := bne_eq_false_iff_eq.mpr c2
    clear c2
    by_cases c3 : (Go.bits .and .u32 a0 8388607) = 0
    · rw [if_pos c3] at H
      have c3b0 : ((Go.bits .and .u32 a0 8388607) == 0) = true := beq_iff_eq.mpr c3
      have c3b1 : ((Go.bits .and .u32 a0 8388607) != 0) = false := bne_eq_false_iff_eq.mpr c3
      clear c3
      obtain rfl := Option.some.inj H
      go_enter Try.func19, Try.ntmps19
      go_wp2
      go_ret
      exact ⟨by first | rfl | (simp; done) | (simp [*]; done), by repeat (first | exact Drawn0.refl _ | apply Drawn0.step)⟩
    · rw [if_neg c3] at H
      have c3b0 : ((Go.bits .and .u32 a0 8388607) == 0) = false := beq_eq_false_iff_ne.mpr c3
      have c3b1 : ((Go.bits .and .u32 a0 8388607) != 0) = true := bne_iff_ne.mpr c3
      obtain rfl := Option.some.inj H
      go_enter Try.func19, Try.ntmps19
      go_wp2
      go_ret
      exact ⟨by first | rfl | (simp; done) | (simp [*]; done), by repeat (first | exact Drawn0.refl _ | apply Drawn0.step)⟩
  · rw [if_neg c2] at H
    have c2b0 : ((Go.bits .and .u32 (a0 / 8388608) 255) == 255) = false := beq_eq_false_iff_ne.mpr c2
    have c2b1 : ((Go.bits .and .u32 (a0 / 8388608) 255) != 255) = true := bne_iff_ne.mpr c2
    obtain rfl := Option.some.inj H
    go_enter Try.func19, Try.ntmps19
    go_wp2
    go_ret
    exact ⟨by first | rfl | (simp; done) | (simp [*]; done), by repeat (first | exact Drawn0.refl _ | apply Drawn0.step)⟩


/-! ### float16_Float16_Bits: function 30 -/
def float16_Float16_Bits.f (a0 : Int) : Option (Int) := some a0
set_option maxHeartbeats 8000000 in
set_option maxRecDepth 100000 in
theorem float16_Float16_Bits.calls (a0 : Int) (r : Int) (w : World) (h : float16_Float16_Bits.f a0 = some r) :
    Calls Try.prog 30 #[.int .u16 a0] w fun e w' => e = .returned (.int .u16 r) ∧ Drawn0 w w' := by
  have H : (some a0) = some r := h
  clear h
  obtain rfl := Option.some.inj H
  go_enter Try.func30, Try.ntmps30
  go_wp2
  go_ret
  exact ⟨by first | rfl | (simp; done) | (simp [*]; done), by repeat (first | exact Drawn0.refl _ | apply Drawn0.step)⟩


/-! ### math_Float32bits: function 39 -/
theorem drawn_trans {w w1 w2 : World} (h : Drawn0 w w1) (h' : Drawn0 w1 w2) : Drawn0 w w2 := by
  obtain ⟨n, rfl⟩ := h'.out
  exact h.step n
theorem run_f32bits (n : Nat) (w : World) : (callFunc 39 #[.float .f32 n]).run Try.prog w = .ok (.value (.int .u32 (n : Int))) w := by kernel_rfl
theorem run_f32from (n : Int) (w : World) : (callFunc 42 #[.int .u32 n]).run Try.prog w = .ok (.value (.float .f32 n.toNat)) w := by kernel_rfl

/-! ### float16_f32bitsToF16bits: function 46 -/
/-- The half of a float32's bits, as plain numbers: s the sign, x the exponent's field, c the fraction's. -/
def rup (m d : Nat) : Bool := (m &&& 2 ^ (d - 1)) != 0 && (m &&& (3 * 2 ^ (d - 1) - 1)) != 0
def f16 (n : Nat) : Nat :=
  let s := n / 2147483648
  let x := n / 8388608 % 256
  let c := n % 8388608
  if x = 255 then (s * 32768 ||| 31744 ||| (if c = 0 then 0 else 512) ||| c / 8192)
  else if 143 ≤ x then s * 32768 ||| 31744
  else if x ≤ 112 then
    if x < 102 then s * 32768
    else s * 32768 ||| ((c ||| 8388608) / 2 ^ (126 - x) + if rup (c ||| 8388608) (126 - x) then 1 else 0)
  else ((s * 32768 ||| (x - 112) * 1024 ||| c / 8192) + if rup c 13 then 1 else 0) % 65536
theorem u32_and (a b : Nat) (ha : a < 4294967296) (hb : b < 4294967296) : Go.bits .and .u32 (a : Int) (b : Int) = ((a &&& b : Nat) : Int) := u32_and_nat a b ha hb
theorem u32_or (a b : Nat) (ha : a < 4294967296) (hb : b < 4294967296) : Go.bits .or .u32 (a : Int) (b : Int) = ((a ||| b : Nat) : Int) := u32_or_nat a b ha hb
theorem and_sign (n : Nat) (hn : n < 4294967296) : Go.bits .and .u32 (n : Int) 2147483648 = ((n / 2147483648 * 2147483648 : Nat) : Int) := by
  have e := u32_and n 2147483648 hn (by decide)
  rw [show ((2147483648 : Nat) : Int) = 2147483648 from rfl] at e
  rw [e]
  congr 1
  apply Nat.eq_of_testBit_eq
  intro i
  rw [Nat.testBit_and, show (2147483648 : Nat) = 2 ^ 31 from rfl, Nat.testBit_two_pow, Nat.mul_comm, Nat.testBit_two_pow_mul, Nat.testBit_div_two_pow]
  by_cases h : 31 = i
  · subst h
    simp
  · by_cases h2 : 31 ≤ i
    · rw [Nat.sub_add_cancel h2, Nat.testBit_lt_two_pow (Nat.lt_of_lt_of_le (show n < 2 ^ 32 from hn) (Nat.pow_le_pow_right (by decide) (by omega)))]
      simp
    · simp [h, h2]
theorem and_frac (n : Nat) (hn : n < 4294967296) : Go.bits .and .u32 (n : Int) 8388607 = ((n % 8388608 : Nat) : Int) := by
  have e := u32_and n 8388607 hn (by decide)
  rw [show ((8388607 : Nat) : Int) = 8388607 from rfl, show (8388607 : Nat) = 2 ^ 23 - 1 from rfl, Nat.and_two_pow_sub_one_eq_mod] at e
  exact e
theorem and_exp (n : Nat) (hn : n < 4294967296) : Go.bits .and .u32 (n : Int) 2139095040 = ((n / 8388608 % 256 * 8388608 : Nat) : Int) := by
  have e := u32_and n 2139095040 hn (by decide)
  rw [show ((2139095040 : Nat) : Int) = 2139095040 from rfl] at e
  rw [e]
  congr 1
  apply Nat.eq_of_testBit_eq
  intro i
  rw [Nat.testBit_and, show (2139095040 : Nat) = 2 ^ 23 * (2 ^ 8 - 1) from rfl, Nat.testBit_two_pow_mul, Nat.testBit_two_pow_sub_one, Nat.mul_comm (n / 8388608 % 256), show (8388608 : Nat) = 2 ^ 23 from rfl, Nat.testBit_two_pow_mul, show (256 : Nat) = 2 ^ 8 from rfl, Nat.testBit_mod_two_pow, Nat.testBit_div_two_pow]
  by_cases h : 23 ≤ i
  · rw [Nat.sub_add_cancel h]
    simp [h, Bool.and_comm]
  · simp [h]
def orS (s : Nat) (y : Int) : Int := IntKind.u16.wrap (Go.bits .or .u32 ((s : Int) * 2147483648 / 65536) y)
set_option maxHeartbeats 2000000 in
set_option maxRecDepth 100000 in
theorem f16_t1 (n s x c f : Nat) (w : World) (E1 : Go.bits .and .u32 (n : Int) 2147483648 = ((s * 2147483648 : Nat) : Int)) (E2 : Go.bits .and .u32 (n : Int) 2139095040 = ((x * 8388608 : Nat) : Int)) (E3 : Go.bits .and .u32 (n : Int) 8388607 = (c : Int)) (hs : s < 2) (hc : c < 8388608) (hx : x = 255) (h0 : c = 0) (hf : IntKind.u16.wrap (Go.bits .or .u32 (Go.bits .or .u32 (Go.bits .or .u32 ((s : Int) * 2147483648 / 65536) 31744) 0) 0) = (f : Int)) :
    Calls Try.prog 46 #[.int .u32 (n : Int)] w fun e w' => e = .returned (.int .u16 (f : Nat)) ∧ Drawn0 w w' := by
  go_enter Try.func46, Try.ntmps46
  go_wp2
  go_ret
  refine ⟨?_, Drawn0.refl _⟩
  rw [← hf]
  rfl
set_option maxHeartbeats 2000000 in
set_option maxRecDepth 100000 in
theorem f16_t2 (n s x c f : Nat) (w : World) (E1 : Go.bits .and .u32 (n : Int) 2147483648 = ((s * 2147483648 : Nat) : Int)) (E2 : Go.bits .and .u32 (n : Int) 2139095040 = ((x * 8388608 : Nat) : Int)) (E3 : Go.bits .and .u32 (n : Int) 8388607 = (c : Int)) (hs : s < 2) (hc : c < 8388608) (hx : x = 255) (h0 : c ≠ 0) (hf : IntKind.u16.wrap (Go.bits .or .u32 (Go.bits .or .u32 (Go.bits .or .u32 ((s : Int) * 2147483648 / 65536) 31744) 512) ((c : Int) / 8192)) = (f : Int)) :
    Calls Try.prog 46 #[.int .u32 (n : Int)] w fun e w' => e = .returned (.int .u16 (f : Nat)) ∧ Drawn0 w w' := by
  go_enter Try.func46, Try.ntmps46
  go_wp2
  go_ret
  refine ⟨?_, Drawn0.refl _⟩
  rw [← hf]
  rfl
set_option maxHeartbeats 2000000 in
set_option maxRecDepth 100000 in
theorem f16_o (n s x c f : Nat) (w : World) (E1 : Go.bits .and .u32 (n : Int) 2147483648 = ((s * 2147483648 : Nat) : Int)) (E2 : Go.bits .and .u32 (n : Int) 2139095040 = ((x * 8388608 : Nat) : Int)) (E3 : Go.bits .and .u32 (n : Int) 8388607 = (c : Int)) (hs : s < 2) (hc : c < 8388608) (hx : x < 255) (h1 : 143 ≤ x) (hf : IntKind.u16.wrap (Go.bits .or .u32 ((s : Int) * 2147483648 / 65536) 31744) = (f : Int)) :
    Calls Try.prog 46 #[.int .u32 (n : Int)] w fun e w' => e = .returned (.int .u16 (f : Nat)) ∧ Drawn0 w w' := by
  go_enter Try.func46, Try.ntmps46
  go_wp2
  go_ret
  refine ⟨?_, Drawn0.refl _⟩
  rw [← hf]
  rfl
set_option maxHeartbeats 2000000 in
set_option maxRecDepth 100000 in
theorem f16_u (n s x c f : Nat) (w : World) (E1 : Go.bits .and .u32 (n : Int) 2147483648 = ((s * 2147483648 : Nat) : Int)) (E2 : Go.bits .and .u32 (n : Int) 2139095040 = ((x * 8388608 : Nat) : Int)) (E3 : Go.bits .and .u32 (n : Int) 8388607 = (c : Int)) (hs : s < 2) (hc : c < 8388608) (hx : x < 102) (hf : IntKind.u16.wrap ((s : Int) * 2147483648 / 65536) = (f : Int)) :
    Calls Try.prog 46 #[.int .u32 (n : Int)] w fun e w' => e = .returned (.int .u16 (f : Nat)) ∧ Drawn0 w w' := by
  go_enter Try.func46, Try.ntmps46
  go_wp2
  go_ret
  refine ⟨?_, Drawn0.refl _⟩
  rw [← hf]
  rfl
set_option maxHeartbeats 2000000 in
set_option maxRecDepth 100000 in
theorem f16_s0 (n s x c f : Nat) (m : Nat) (w : World) (E1 : Go.bits .and .u32 (n : Int) 2147483648 = ((s * 2147483648 : Nat) : Int)) (E2 : Go.bits .and .u32 (n : Int) 2139095040 = ((x * 8388608 : Nat) : Int)) (E3 : Go.bits .and .u32 (n : Int) 8388607 = (c : Int)) (hs : s < 2) (hc : c < 8388608) (h1 : 102 ≤ x) (h2 : x ≤ 112) (E4 : Go.bits .or .u32 (c : Int) 8388608 = (m : Int)) (hm : m < 16777216) (c1 : (Go.bits .and .u32 (m : Int) (2 ^ (13 - ((x : Int) - 127 + 15)).toNat % 4294967296) != 0) = false)  (hf : IntKind.u16.wrap (Go.bits .or .u32 ((s : Int) * 2147483648 / 65536) ((m : Int) / 2 ^ (14 - ((x : Int) - 127 + 15)).toNat)) = (f : Int)) :
    Calls Try.prog 46 #[.int .u32 (n : Int)] w fun e w' => e = .returned (.int .u16 (f : Nat)) ∧ Drawn0 w w' := by
  go_enter Try.func46, Try.ntmps46
  go_wp2
  go_ret
  refine ⟨?_, Drawn0.refl _⟩
  rw [← hf]
  rfl
set_option maxHeartbeats 2000000 in
set_option maxRecDepth 100000 in
theorem f16_s1 (n s x c f : Nat) (m : Nat) (w : World) (E1 : Go.bits .and .u32 (n : Int) 2147483648 = ((s * 2147483648 : Nat) : Int)) (E2 : Go.bits .and .u32 (n : Int) 2139095040 = ((x * 8388608 : Nat) : Int)) (E3 : Go.bits .and .u32 (n : Int) 8388607 = (c : Int)) (hs : s < 2) (hc : c < 8388608) (h1 : 102 ≤ x) (h2 : x ≤ 112) (E4 : Go.bits .or .u32 (c : Int) 8388608 = (m : Int)) (hm : m < 16777216) (c1 : (Go.bits .and .u32 (m : Int) (2 ^ (13 - ((x : Int) - 127 + 15)).toNat % 4294967296) != 0) = true) (c2 : (Go.bits .and .u32 (m : Int) ((3 * (2 ^ (13 - ((x : Int) - 127 + 15)).toNat % 4294967296) - 1) % 4294967296) != 0) = false)  (hf : IntKind.u16.wrap (Go.bits .or .u32 ((s : Int) * 2147483648 / 65536) ((m : Int) / 2 ^ (14 - ((x : Int) - 127 + 15)).toNat)) = (f : Int)) :
    Calls Try.prog 46 #[.int .u32 (n : Int)] w fun e w' => e = .returned (.int .u16 (f : Nat)) ∧ Drawn0 w w' := by
  go_enter Try.func46, Try.ntmps46
  go_wp2
  go_ret
  refine ⟨?_, Drawn0.refl _⟩
  rw [← hf]
  rfl
set_option maxHeartbeats 2000000 in
set_option maxRecDepth 100000 in
theorem f16_s2 (n s x c f : Nat) (m : Nat) (w : World) (E1 : Go.bits .and .u32 (n : Int) 2147483648 = ((s * 2147483648 : Nat) : Int)) (E2 : Go.bits .and .u32 (n : Int) 2139095040 = ((x * 8388608 : Nat) : Int)) (E3 : Go.bits .and .u32 (n : Int) 8388607 = (c : Int)) (hs : s < 2) (hc : c < 8388608) (h1 : 102 ≤ x) (h2 : x ≤ 112) (E4 : Go.bits .or .u32 (c : Int) 8388608 = (m : Int)) (hm : m < 16777216) (c1 : (Go.bits .and .u32 (m : Int) (2 ^ (13 - ((x : Int) - 127 + 15)).toNat % 4294967296) != 0) = true) (c2 : (Go.bits .and .u32 (m : Int) ((3 * (2 ^ (13 - ((x : Int) - 127 + 15)).toNat % 4294967296) - 1) % 4294967296) != 0) = true)  (hf : IntKind.u16.wrap (Go.bits .or .u32 ((s : Int) * 2147483648 / 65536) (((m : Int) / 2 ^ (14 - ((x : Int) - 127 + 15)).toNat + 1) % 4294967296)) = (f : Int)) :
    Calls Try.prog 46 #[.int .u32 (n : Int)] w fun e w' => e = .returned (.int .u16 (f : Nat)) ∧ Drawn0 w w' := by
  go_enter Try.func46, Try.ntmps46
  go_wp2
  go_ret
  refine ⟨?_, Drawn0.refl _⟩
  rw [← hf]
  rfl
set_option maxHeartbeats 2000000 in
set_option maxRecDepth 100000 in
theorem f16_m0 (n s x c f : Nat) (w : World) (E1 : Go.bits .and .u32 (n : Int) 2147483648 = ((s * 2147483648 : Nat) : Int)) (E2 : Go.bits .and .u32 (n : Int) 2139095040 = ((x * 8388608 : Nat) : Int)) (E3 : Go.bits .and .u32 (n : Int) 8388607 = (c : Int)) (hs : s < 2) (hc : c < 8388608) (h1 : 112 < x) (h2 : x < 143) (c1 : (Go.bits .and .u32 (c : Int) 4096 != 0) = false)  (hf : IntKind.u16.wrap (Go.bits .or .u32 (Go.bits .or .u32 ((s : Int) * 2147483648 / 65536) (((x : Int) - 127 + 15) * 1024)) ((c : Int) / 8192)) = (f : Int)) :
    Calls Try.prog 46 #[.int .u32 (n : Int)] w fun e w' => e = .returned (.int .u16 (f : Nat)) ∧ Drawn0 w w' := by
  go_enter Try.func46, Try.ntmps46
  go_wp2
  go_ret
  refine ⟨?_, Drawn0.refl _⟩
  rw [← hf]
  rfl
set_option maxHeartbeats 2000000 in
set_option maxRecDepth 100000 in
theorem f16_m1 (n s x c f : Nat) (w : World) (E1 : Go.bits .and .u32 (n : Int) 2147483648 = ((s * 2147483648 : Nat) : Int)) (E2 : Go.bits .and .u32 (n : Int) 2139095040 = ((x * 8388608 : Nat) : Int)) (E3 : Go.bits .and .u32 (n : Int) 8388607 = (c : Int)) (hs : s < 2) (hc : c < 8388608) (h1 : 112 < x) (h2 : x < 143) (c1 : (Go.bits .and .u32 (c : Int) 4096 != 0) = true) (c2 : (Go.bits .and .u32 (c : Int) 12287 != 0) = false)  (hf : IntKind.u16.wrap (Go.bits .or .u32 (Go.bits .or .u32 ((s : Int) * 2147483648 / 65536) (((x : Int) - 127 + 15) * 1024)) ((c : Int) / 8192)) = (f : Int)) :
    Calls Try.prog 46 #[.int .u32 (n : Int)] w fun e w' => e = .returned (.int .u16 (f : Nat)) ∧ Drawn0 w w' := by
  go_enter Try.func46, Try.ntmps46
  go_wp2
  go_ret
  refine ⟨?_, Drawn0.refl _⟩
  rw [← hf]
  rfl
set_option maxHeartbeats 2000000 in
set_option maxRecDepth 100000 in
theorem f16_m2 (n s x c f : Nat) (w : World) (E1 : Go.bits .and .u32 (n : Int) 2147483648 = ((s * 2147483648 : Nat) : Int)) (E2 : Go.bits .and .u32 (n : Int) 2139095040 = ((x * 8388608 : Nat) : Int)) (E3 : Go.bits .and .u32 (n : Int) 8388607 = (c : Int)) (hs : s < 2) (hc : c < 8388608) (h1 : 112 < x) (h2 : x < 143) (c1 : (Go.bits .and .u32 (c : Int) 4096 != 0) = true) (c2 : (Go.bits .and .u32 (c : Int) 12287 != 0) = true)  (hf : IntKind.u16.wrap (((Go.bits .or .u32 (Go.bits .or .u32 ((s : Int) * 2147483648 / 65536) (((x : Int) - 127 + 15) * 1024)) ((c : Int) / 8192)) + 1) % 4294967296) = (f : Int)) :
    Calls Try.prog 46 #[.int .u32 (n : Int)] w fun e w' => e = .returned (.int .u16 (f : Nat)) ∧ Drawn0 w w' := by
  go_enter Try.func46, Try.ntmps46
  go_wp2
  go_ret
  refine ⟨?_, Drawn0.refl _⟩
  rw [← hf]
  rfl
theorem pow_cast (k : Nat) (hk : k ≤ 23) : ((2 : Int) ^ k % 4294967296) = ((2 ^ k : Nat) : Int) := by
  have h : (2 : Nat) ^ k ≤ 2 ^ 23 := Nat.pow_le_pow_right (by decide) hk
  have e : ((2 : Int) ^ k) = ((2 ^ k : Nat) : Int) := by simp
  rw [e]
  generalize (2 : Nat) ^ k = P at *
  omega
theorem nat_bne (a b : Nat) (h : a = b) : ((a : Int) != 0) = (b != 0) := by
  subst h
  cases a with
  | zero => rfl
  | succ a =>
    rw [bne_iff_ne.mpr (by omega : ((a + 1 : Nat) : Int) ≠ 0), bne_iff_ne.mpr (by omega : a + 1 ≠ 0)]
theorem and_b1 (m k : Nat) (hm : m < 16777216) (hk : k ≤ 23) : (Go.bits .and .u32 (m : Int) ((2 : Int) ^ k % 4294967296) != 0) = ((m &&& 2 ^ k) != 0) := by
  have h : (2 : Nat) ^ k ≤ 2 ^ 23 := Nat.pow_le_pow_right (by decide) hk
  rw [pow_cast k hk, u32_and m (2 ^ k) (by omega) (by omega)]
  exact nat_bne _ _ rfl
theorem and_b2 (m k : Nat) (hm : m < 16777216) (hk : k ≤ 23) : (Go.bits .and .u32 (m : Int) ((3 * ((2 : Int) ^ k % 4294967296) - 1) % 4294967296) != 0) = ((m &&& (3 * 2 ^ k - 1)) != 0) := by
  have h : (2 : Nat) ^ k ≤ 2 ^ 23 := Nat.pow_le_pow_right (by decide) hk
  have h0 : 0 < (2 : Nat) ^ k := Nat.pow_pos (by decide)
  have e : (3 * ((2 ^ k : Nat) : Int) - 1) % 4294967296 = ((3 * 2 ^ k - 1 : Nat) : Int) := by omega
  rw [pow_cast k hk, e, u32_and m (3 * 2 ^ k - 1) (by omega) (by omega)]
  exact nat_bne _ _ rfl
theorem sgn (s : Nat) : (s : Int) * 2147483648 / 65536 = ((s * 32768 : Nat) : Int) := by omega
theorem wrap16 (y : Nat) : IntKind.u16.wrap (y : Int) = ((y % 65536 : Nat) : Int) := by
  rw [IntKind.wrap_u16]
  omega
theorem or_lt16 {a b : Nat} (ha : a < 65536) (hb : b < 65536) : a ||| b < 65536 := Nat.or_lt_two_pow (n := 16) ha hb
theorem or_s (s y : Nat) (hs : s < 2) (hy : y < 32768) : IntKind.u16.wrap (Go.bits .or .u32 ((s : Int) * 2147483648 / 65536) (y : Int)) = ((s * 32768 ||| y : Nat) : Int) := by
  rw [sgn, u32_or _ _ (by omega) (by omega), wrap16, Nat.mod_eq_of_lt (or_lt16 (by omega) (by omega))]
theorem div_cast (m k : Nat) : (m : Int) / 2 ^ k = ((m / 2 ^ k : Nat) : Int) := by simp
def float16_f32bitsToF16bits.f (a0 : Int) : Option Int := if 0 ≤ a0 ∧ a0 < 4294967296 then some ((f16 a0.toNat : Nat) : Int) else none
theorem float16_f32bitsToF16bits.calls (a0 : Int) (r : Int) (w : World) (h : float16_f32bitsToF16bits.f a0 = some r) :
    Calls Try.prog 46 #[.int .u32 a0] w fun e w' => e = .returned (.int .u16 r) ∧ Drawn0 w w' := by
  unfold float16_f32bitsToF16bits.f at h
  split at h
  case isFalse => cases h
  rename_i h0
  obtain rfl := Option.some.inj h
  obtain ⟨n, rfl⟩ := Int.eq_ofNat_of_zero_le h0.1
  have hn : n < 4294967296 := by have := h0.2; omega
  rw [Int.toNat_natCast]
  have E1 := and_sign n hn
  have E2 := and_exp n hn
  have E3 := and_frac n hn
  have hs : n / 2147483648 < 2 := by omega
  have hc : n % 8388608 < 8388608 := by omega
  have hx : n / 8388608 % 256 < 256 := by omega
  unfold f16
  simp only []
  generalize n / 2147483648 = s at *
  generalize n % 8388608 = c at *
  generalize n / 8388608 % 256 = x at *
  clear h h0
  have hcd : c / 8192 < 1024 := by omega
  have ec : (c : Int) / 8192 = ((c / 8192 : Nat) : Int) := by omega
  by_cases x255 : x = 255
  · rw [if_pos x255]
    by_cases c0 : c = 0
    · rw [if_pos c0]
      refine f16_t1 n s x c _ w E1 E2 E3 hs hc x255 c0 ?_
      have e1 := u32_or (s * 32768) 31744 (by omega) (by decide)
      have e2 := u32_or (s * 32768 ||| 31744) 0 (Nat.lt_trans (or_lt16 (by omega) (by decide)) (by decide)) (by decide)
      rw [show ((31744 : Nat) : Int) = 31744 from rfl] at e1
      rw [show ((0 : Nat) : Int) = 0 from rfl] at e2
      rw [sgn, e1, e2, Nat.or_zero, e2, Nat.or_zero, wrap16, Nat.mod_eq_of_lt (or_lt16 (by omega) (by decide)), c0]
      simp
    · rw [if_neg c0]
      refine f16_t2 n s x c _ w E1 E2 E3 hs hc x255 c0 ?_
      have l1 : s * 32768 ||| 31744 < 65536 := or_lt16 (by omega) (by decide)
      have l2 : s * 32768 ||| 31744 ||| 512 < 65536 := or_lt16 l1 (by decide)
      have e1 := u32_or (s * 32768) 31744 (by omega) (by decide)
      have e2 := u32_or (s * 32768 ||| 31744) 512 (Nat.lt_trans l1 (by decide)) (by decide)
      have e3 := u32_or (s * 32768 ||| 31744 ||| 512) (c / 8192) (Nat.lt_trans l2 (by decide)) (by omega)
      rw [show ((31744 : Nat) : Int) = 31744 from rfl] at e1
      rw [show ((512 : Nat) : Int) = 512 from rfl] at e2
      rw [sgn, ec, e1, e2, e3, wrap16, Nat.mod_eq_of_lt (or_lt16 l2 (by omega))]
  rw [if_neg x255]
  by_cases x143 : 143 ≤ x
  · rw [if_pos x143]
    refine f16_o n s x c _ w E1 E2 E3 hs hc (by omega) x143 ?_
    exact or_s s 31744 hs (by decide)
  rw [if_neg x143]
  by_cases x112 : x ≤ 112
  · rw [if_pos x112]
    by_cases x102 : x < 102
    · rw [if_pos x102]
      refine f16_u n s x c _ w E1 E2 E3 hs hc x102 ?_
      rw [sgn, wrap16, Nat.mod_eq_of_lt (by omega)]
    · rw [if_neg x102]
      have hm : c ||| 8388608 < 16777216 := Nat.or_lt_two_pow (n := 24) (by omega) (by decide)
      have E4 := u32_or c 8388608 (by omega) (by decide)
      rw [show ((8388608 : Nat) : Int) = 8388608 from rfl] at E4
      generalize c ||| 8388608 = m at *
      have k1 : (13 - ((x : Int) - 127 + 15)).toNat = 125 - x := by omega
      have k2 : (14 - ((x : Int) - 127 + 15)).toNat = 126 - x := by omega
      have kd : 126 - x - 1 = 125 - x := by omega
      have b1 := and_b1 m (125 - x) hm (by omega)
      have b2 := and_b2 m (125 - x) hm (by omega)
      have hq : m / 2 ^ (126 - x) ≤ 1023 := by
        have p14 : (2 : Nat) ^ 14 ≤ 2 ^ (126 - x) := Nat.pow_le_pow_right (by decide) (by omega)
        have := Nat.div_le_div_left (a := m) p14 (by decide)
        have : m / 2 ^ 14 < 1024 := Nat.div_lt_of_lt_mul hm
        omega
      unfold rup
      rw [kd]
      rw [← k1] at b1 b2
      cases c1 : (m &&& 2 ^ (125 - x)) != 0
      · rw [k1, c1] at b1
        rw [← k1] at b1
        refine f16_s0 n s x c _ m w E1 E2 E3 hs hc (by omega) x112 E4 hm b1 ?_
        rw [k2, div_cast, or_s s _ hs (by omega)]
        simp
      · cases c2 : (m &&& (3 * 2 ^ (125 - x) - 1)) != 0
        · rw [k1, c1] at b1
          rw [k1, c2] at b2
          rw [← k1] at b1 b2
          refine f16_s1 n s x c _ m w E1 E2 E3 hs hc (by omega) x112 E4 hm b1 b2 ?_
          rw [k2, div_cast, or_s s _ hs (by omega)]
          simp
        · rw [k1, c1] at b1
          rw [k1, c2] at b2
          rw [← k1] at b1 b2
          refine f16_s2 n s x c _ m w E1 E2 E3 hs hc (by omega) x112 E4 hm b1 b2 ?_
          have e : (((m / 2 ^ (126 - x) : Nat) : Int) + 1) % 4294967296 = ((m / 2 ^ (126 - x) + 1 : Nat) : Int) := by
            clear c1 c2 b1 b2 E4
            generalize m / 2 ^ (126 - x) = q at *
            omega
          rw [k2, div_cast, e, or_s s _ hs (by omega)]
          simp
  rw [if_neg x112]
  have l1 : s * 32768 ||| (x - 112) * 1024 < 65536 := or_lt16 (by omega) (by omega)
  have l2 : s * 32768 ||| (x - 112) * 1024 ||| c / 8192 < 65536 := or_lt16 l1 (by omega)
  have ex : ((x : Int) - 127 + 15) * 1024 = (((x - 112) * 1024 : Nat) : Int) := by omega
  have e1 := u32_or (s * 32768) ((x - 112) * 1024) (by omega) (by omega)
  have e2 := u32_or (s * 32768 ||| (x - 112) * 1024) (c / 8192) (Nat.lt_trans l1 (by decide)) (by omega)
  have b1 : (Go.bits .and .u32 (c : Int) 4096 != 0) = ((c &&& 4096) != 0) := by
    have e := u32_and c 4096 (by omega) (by decide)
    rw [show ((4096 : Nat) : Int) = 4096 from rfl] at e
    rw [e]
    exact nat_bne _ _ rfl
  have b2 : (Go.bits .and .u32 (c : Int) 12287 != 0) = ((c &&& 12287) != 0) := by
    have e := u32_and c 12287 (by omega) (by decide)
    rw [show ((12287 : Nat) : Int) = 12287 from rfl] at e
    rw [e]
    exact nat_bne _ _ rfl
  unfold rup
  rw [show (2 : Nat) ^ (13 - 1) = 4096 from rfl, show 3 * 4096 - 1 = 12287 from rfl]
  cases c1 : (c &&& 4096) != 0
  · rw [c1] at b1
    refine f16_m0 n s x c _ w E1 E2 E3 hs hc (by omega) (by omega) b1 ?_
    rw [sgn, ec, ex, e1, e2, wrap16]
    simp
  · cases c2 : (c &&& 12287) != 0
    · rw [c1] at b1
      rw [c2] at b2
      refine f16_m1 n s x c _ w E1 E2 E3 hs hc (by omega) (by omega) b1 b2 ?_
      rw [sgn, ec, ex, e1, e2, wrap16]
      simp
    · rw [c1] at b1
      rw [c2] at b2
      refine f16_m2 n s x c _ w E1 E2 E3 hs hc (by omega) (by omega) b1 b2 ?_
      rw [sgn, ec, ex, e1, e2]
      generalize s * 32768 ||| (x - 112) * 1024 ||| c / 8192 = q at *
      have e : ((q : Int) + 1) % 4294967296 = ((q + 1 : Nat) : Int) := by omega
      rw [e, wrap16]
      simp

-- NOT PRINTED: function 41 (float16_Fromfloat32)

-- NOT PRINTED: function 42 (math_Float32frombits)

/-! ### impl_HalfFrom: function 23 -/
def impl_HalfFrom.f (a0 : Int) : Option Int := if 0 ≤ a0 then float16_f32bitsToF16bits.f a0 else none
set_option maxHeartbeats 1000000 in
set_option maxRecDepth 100000 in
theorem float16_Fromfloat32.calls (n : Nat) (r : Int) (w : World) (h : float16_f32bitsToF16bits.f (n : Int) = some r) :
    Calls Try.prog 41 #[.float .f32 n] w fun e w' => e = .returned (.int .u16 r) ∧ Drawn0 w w' := by
  have HH := Lib.hid h
  clear h
  have run := run_f32bits
  go_enter Try.func41, Try.ntmps41
  go_wp2_with fail
  refine (float16_f32bitsToF16bits.calls n r w HH).mono ?_
  rintro e w1 ⟨rfl, hb⟩
  go_wp2
  go_ret
  exact ⟨rfl, hb⟩
set_option maxHeartbeats 1000000 in
set_option maxRecDepth 100000 in
theorem impl_HalfFrom.calls (a0 : Int) (r : Int) (w : World) (h : impl_HalfFrom.f a0 = some r) :
    Calls Try.prog 23 #[.int .u32 a0] w fun e w' => e = .returned (.int .u16 r) ∧ Drawn0 w w' := by
  unfold impl_HalfFrom.f at h
  split at h
  case isFalse => cases h
  rename_i h0
  obtain ⟨n, rfl⟩ := Int.eq_ofNat_of_zero_le h0
  have HH := Lib.hid h
  clear h
  have run := run_f32from
  go_enter Try.func23, Try.ntmps23
  go_wp2_with fail
  refine (float16_Fromfloat32.calls n r w HH).mono ?_
  rintro e w1 ⟨rfl, hb1⟩
  go_wp2_with fail
  refine (float16_Float16_Bits.calls r r w1 rfl).mono ?_
  rintro e w2 ⟨rfl, hb2⟩
  go_wp2
  go_ret
  exact ⟨rfl, drawn_trans hb1 hb2⟩

-- NOT PRINTED: function 44 (float16_FromNaN32ps)

/-! ### impl_HalfFromNaN: function 28 -/
set_option maxHeartbeats 2000000 in
set_option maxRecDepth 100000 in
theorem nan_x (n s x c : Nat) (w : World) (E1 : Go.bits .and .u32 (n : Int) 2147483648 = ((s * 2147483648 : Nat) : Int)) (E2 : Go.bits .and .u32 (n : Int) 2139095040 = (x : Int)) (E3 : Go.bits .and .u32 (n : Int) 8388607 = (c : Int)) (hs : s < 2) (hc : c < 8388608) (T : ((x : Int) == 2139095040) = false) :
    Calls Try.prog 44 #[.float .f32 n] w fun e w' => (∃ v, e = .returned (.tuple #[.int .u16 31745, .iface 65 v])) ∧ Drawn0 w w' := by
  have run := run_f32bits n
  go_enter Try.func44, Try.ntmps44
  go_wp2
  go_ret2
  exact ⟨⟨_, rfl⟩, Drawn0.refl _⟩
set_option maxHeartbeats 2000000 in
set_option maxRecDepth 100000 in
theorem nan_c (n s x c : Nat) (w : World) (E1 : Go.bits .and .u32 (n : Int) 2147483648 = ((s * 2147483648 : Nat) : Int)) (E2 : Go.bits .and .u32 (n : Int) 2139095040 = ((x * 8388608 : Nat) : Int)) (E3 : Go.bits .and .u32 (n : Int) 8388607 = (c : Int)) (hs : s < 2) (hc : c < 8388608) (hx : x < 256) (h1 : x = 255) (h2 : c = 0) :
    Calls Try.prog 44 #[.float .f32 n] w fun e w' => (∃ v, e = .returned (.tuple #[.int .u16 31745, .iface 65 v])) ∧ Drawn0 w w' := by
  have run := run_f32bits n
  go_enter Try.func44, Try.ntmps44
  go_wp2
  go_ret2
  exact ⟨⟨_, rfl⟩, Drawn0.refl _⟩
set_option maxHeartbeats 2000000 in
set_option maxRecDepth 100000 in
theorem nan_a (n s x c : Nat) (f : Nat) (w : World) (E1 : Go.bits .and .u32 (n : Int) 2147483648 = ((s * 2147483648 : Nat) : Int)) (E2 : Go.bits .and .u32 (n : Int) 2139095040 = ((x * 8388608 : Nat) : Int)) (E3 : Go.bits .and .u32 (n : Int) 8388607 = (c : Int)) (hs : s < 2) (hc : c < 8388608) (hx : x < 256) (h1 : x = 255) (h2 : c ≠ 0) (hf : IntKind.u16.wrap (Go.bits .or .u32 (Go.bits .or .u32 ((s : Int) * 2147483648 / 65536) 31744) ((c : Int) / 8192)) = (f : Int)) (h3 : (Go.bits .and .u16 (f : Int) 1023 == 0) = false) :
    Calls Try.prog 44 #[.float .f32 n] w fun e w' => e = .returned (.tuple #[.int .u16 f, .nilIface]) ∧ Drawn0 w w' := by
  have run := run_f32bits n
  go_enter Try.func44, Try.ntmps44
  go_wp2
  go_ret2
  exact ⟨rfl, Drawn0.refl _⟩
set_option maxHeartbeats 2000000 in
set_option maxRecDepth 100000 in
theorem nan_b (n s x c : Nat) (f : Nat) (w : World) (E1 : Go.bits .and .u32 (n : Int) 2147483648 = ((s * 2147483648 : Nat) : Int)) (E2 : Go.bits .and .u32 (n : Int) 2139095040 = ((x * 8388608 : Nat) : Int)) (E3 : Go.bits .and .u32 (n : Int) 8388607 = (c : Int)) (hs : s < 2) (hc : c < 8388608) (hx : x < 256) (h1 : x = 255) (h2 : c ≠ 0) (hf : IntKind.u16.wrap (Go.bits .or .u32 (Go.bits .or .u32 ((s : Int) * 2147483648 / 65536) 31744) ((c : Int) / 8192)) = (f : Int)) (h3 : (Go.bits .and .u16 (f : Int) 1023 == 0) = true) :
    Calls Try.prog 44 #[.float .f32 n] w fun e w' => e = .returned (.tuple #[.int .u16 (Go.bits .or .u16 (f : Int) 1), .nilIface]) ∧ Drawn0 w w' := by
  have run := run_f32bits n
  go_enter Try.func44, Try.ntmps44
  go_wp2
  go_ret2
  exact ⟨rfl, Drawn0.refl _⟩
-- TAIL
def nanOk (n : Nat) : Bool := n / 8388608 % 256 == 255 && n % 8388608 != 0
def nanF (n : Nat) : Nat := n / 2147483648 * 32768 ||| 31744 ||| n % 8388608 / 8192
def nanH (n : Nat) : Nat := if nanOk n = true then (if nanF n % 1024 = 0 then nanF n ||| 1 else nanF n) else 31745
theorem nan_good (n : Nat) (hn : n < 4294967296) (w : World) (h : nanOk n = true) :
    Calls Try.prog 44 #[.float .f32 n] w fun e w' => e = .returned (.tuple #[.int .u16 (nanH n : Nat), .nilIface]) ∧ Drawn0 w w' := by
  unfold nanH
  rw [if_pos h]
  unfold nanOk at h
  rw [Bool.and_eq_true, beq_iff_eq, bne_iff_ne] at h
  obtain ⟨h1, h2⟩ := h
  have E1 := and_sign n hn
  have E2 := and_exp n hn
  have E3 := and_frac n hn
  have l1 : n / 2147483648 * 32768 ||| 31744 < 65536 := or_lt16 (by omega) (by decide)
  have l2 : n / 2147483648 * 32768 ||| 31744 ||| n % 8388608 / 8192 < 65536 := or_lt16 l1 (by omega)
  have hf : IntKind.u16.wrap (Go.bits .or .u32 (Go.bits .or .u32 (((n / 2147483648 : Nat) : Int) * 2147483648 / 65536) 31744) (((n % 8388608 : Nat) : Int) / 8192)) = ((nanF n : Nat) : Int) := by
    have e1 := u32_or (n / 2147483648 * 32768) 31744 (by omega) (by decide)
    rw [show ((31744 : Nat) : Int) = 31744 from rfl] at e1
    have e2 : ((n % 8388608 : Nat) : Int) / 8192 = ((n % 8388608 / 8192 : Nat) : Int) := by omega
    rw [sgn, e1, e2, u32_or _ _ (Nat.lt_trans l1 (by decide)) (by omega), wrap16, Nat.mod_eq_of_lt l2]
    rfl
  have h3 : (Go.bits .and .u16 ((nanF n : Nat) : Int) 1023 == 0) = decide (nanF n % 1024 = 0) := by
    have e := u16_and_nat (nanF n) 1023 l2 (by decide)
    rw [show ((1023 : Nat) : Int) = 1023 from rfl, show (1023 : Nat) = 2 ^ 10 - 1 from rfl, Nat.and_two_pow_sub_one_eq_mod] at e
    rw [e, show (2 : Nat) ^ 10 = 1024 from rfl, Bool.eq_iff_iff, beq_iff_eq, decide_eq_true_iff]
    omega
  have h4 : Go.bits .or .u16 ((nanF n : Nat) : Int) 1 = ((nanF n ||| 1 : Nat) : Int) := u16_or_nat (nanF n) 1 l2 (by decide)
  by_cases h5 : nanF n % 1024 = 0
  · rw [if_pos h5]
    have h6 := h3
    rw [decide_eq_true h5] at h6
    have c := nan_b n (n / 2147483648) (n / 8388608 % 256) (n % 8388608) (nanF n) w E1 E2 E3 (by omega) (by omega) (by omega) h1 h2 hf h6
    rw [h4] at c
    exact c
  · rw [if_neg h5]
    have h6 := h3
    rw [decide_eq_false h5] at h6
    exact nan_a n (n / 2147483648) (n / 8388608 % 256) (n % 8388608) (nanF n) w E1 E2 E3 (by omega) (by omega) (by omega) h1 h2 hf h6
theorem nan_bad (n : Nat) (hn : n < 4294967296) (w : World) (h : nanOk n = false) :
    Calls Try.prog 44 #[.float .f32 n] w fun e w' => (∃ v, e = .returned (.tuple #[.int .u16 31745, .iface 65 v])) ∧ Drawn0 w w' := by
  have E1 := and_sign n hn
  have E2 := and_exp n hn
  have E3 := and_frac n hn
  by_cases h1 : n / 8388608 % 256 = 255
  · have h2 : n % 8388608 = 0 := by
      unfold nanOk at h
      rw [h1] at h
      simpa using h
    exact nan_c n (n / 2147483648) (n / 8388608 % 256) (n % 8388608) w E1 E2 E3 (by omega) (by omega) (by omega) h1 h2
  · refine nan_x n (n / 2147483648) (n / 8388608 % 256 * 8388608) (n % 8388608) w E1 E2 E3 (by omega) (by omega) ?_
    rw [beq_eq_false_iff_ne]
    omega
set_option maxHeartbeats 2000000 in
set_option maxRecDepth 100000 in
theorem nan_one (n : Nat) (hn : n < 4294967296) (w : World) (h : nanOk n = true) :
    Calls Try.prog 28 #[.int .u32 (n : Int)] w fun e w' => e = .returned (.tuple #[.int .u16 (nanH n : Nat), .bool true]) ∧ Drawn0 w w' := by
  have run := run_f32from
  have HH := Lib.hid h
  have HN := Lib.hid hn
  clear h hn
  go_enter Try.func28, Try.ntmps28
  go_wp2_with fail
  refine (nan_good n HN w HH).mono ?_
  rintro e w1 ⟨rfl, hb1⟩
  go_wp2
  refine start_ (n := 6) (S := fun w' => True) (ds := []) #[false, false, false, false, false, false] (by kernel_rfl) rfl rfl trivial (fun hHeld => ?_)
  refine pure_ (i := 0) (N := some 12) (v := ?_) (a' := ?_) #[true, false, false, false, false, false] rfl rfl (by kernel_rfl) (fun _ _ _ h => h) (Or.inl ⟨by rfl, ?_⟩) ?_ ?_
  rotate_left
  · intro w'
    go_simp
    with_reducible rfl
  rotate_left
  · simp only [Act.put, List.setIfInBounds_toArray, List.set_cons_zero, List.set_cons_succ, i64_w, i32_w]
    rfl
  refine pure_ (i := 2) (N := some 14) (v := ?_) (a' := ?_) #[true, false, true, false, false, false] rfl rfl (by kernel_rfl) (fun _ _ _ h => h) (Or.inl ⟨by rfl, ?_⟩) ?_ ?_
  rotate_left
  · intro w'
    go_simp
    with_reducible rfl
  rotate_left
  · simp only [Act.put, List.setIfInBounds_toArray, List.set_cons_zero, List.set_cons_succ, i64_w, i32_w]
    rfl
  refine pure_ (i := 3) (N := some 15) (v := ?_) (a' := ?_) #[true, false, true, true, false, false] rfl rfl (by kernel_rfl) (fun _ _ _ h => h) (Or.inl ⟨by rfl, ?_⟩) ?_ ?_
  rotate_left
  · intro w'
    go_simp
    with_reducible rfl
  rotate_left
  · simp only [Act.put, List.setIfInBounds_toArray, List.set_cons_zero, List.set_cons_succ, i64_w, i32_w]
    rfl
  refine one_ (i := 1) (N := some 13) #[true, true, true, true, false, false] rfl rfl (by kernel_rfl) (by decide) (fun K hK => ?_)
  refine goes_ Try.func30 (by kernel_rfl) rfl #[.int .u16 (nanH n : Nat)] (by rfl) rfl rfl (by (try simp only [List.map_toArray, List.map_cons, List.map_nil]); first | done | rfl) ?_
  refine (float16_Float16_Bits.calls (nanH n : Nat) (nanH n : Nat) _ rfl).mono ?_
  rintro e W9 ⟨rfl, hb9⟩
  refine ⟨_, rfl, ?_⟩
  refine hK.out _ _ trivial (fun hHeld => ?_)
  clear hK K
  refine norm_ (a' := ?_) ?_ ?_
  rotate_left
  · show Act.put _ (some 13) _ = _
    simp only [Act.put, List.setIfInBounds_toArray, List.set_cons_zero, List.set_cons_succ, i64_w, i32_w]
    rfl
  refine pure_ (i := 4) (N := some 2) (v := ?_) (a' := ?_) #[true, true, true, true, true, false] rfl rfl (by kernel_rfl) (fun _ _ _ h => h) (Or.inl ⟨by rfl, ?_⟩) ?_ ?_
  rotate_left
  · intro w'
    go_simp
    with_reducible rfl
  rotate_left
  · simp only [Act.put, List.setIfInBounds_toArray, List.set_cons_zero, List.set_cons_succ, i64_w, i32_w]
    rfl
  refine pure_ (i := 5) (N := some 3) (v := ?_) (a' := ?_) #[true, true, true, true, true, true] rfl rfl (by kernel_rfl) (fun _ _ _ h => h) (Or.inl ⟨by rfl, ?_⟩) ?_ ?_
  rotate_left
  · intro w'
    go_simp
    with_reducible rfl
  rotate_left
  · simp only [Act.put, List.setIfInBounds_toArray, List.set_cons_zero, List.set_cons_succ, i64_w, i32_w]
    rfl
  refine done_ (by kernel_rfl) ?_
  go_wp2
  go_ret2
  exact ⟨rfl, drawn_trans (hb1.step 1) hb9⟩
set_option maxHeartbeats 2000000 in
set_option maxRecDepth 100000 in
theorem nan_two (n : Nat) (hn : n < 4294967296) (w : World) (h : nanOk n = false) :
    Calls Try.prog 28 #[.int .u32 (n : Int)] w fun e w' => e = .returned (.tuple #[.int .u16 31745, .bool false]) ∧ Drawn0 w w' := by
  have run := run_f32from
  have HH := Lib.hid h
  have HN := Lib.hid hn
  clear h hn
  go_enter Try.func28, Try.ntmps28
  go_wp2_with fail
  refine (nan_bad n HN w HH).mono ?_
  rintro e w1 ⟨⟨v, rfl⟩, hb1⟩
  go_wp2
  refine start_ (n := 6) (S := fun w' => True) (ds := []) #[false, false, false, false, false, false] (by kernel_rfl) rfl rfl trivial (fun hHeld => ?_)
  refine pure_ (i := 0) (N := some 12) (v := ?_) (a' := ?_) #[true, false, false, false, false, false] rfl rfl (by kernel_rfl) (fun _ _ _ h => h) (Or.inl ⟨by rfl, ?_⟩) ?_ ?_
  rotate_left
  · intro w'
    go_simp
    with_reducible rfl
  rotate_left
  · simp only [Act.put, List.setIfInBounds_toArray, List.set_cons_zero, List.set_cons_succ, i64_w, i32_w]
    rfl
  refine pure_ (i := 2) (N := some 14) (v := ?_) (a' := ?_) #[true, false, true, false, false, false] rfl rfl (by kernel_rfl) (fun _ _ _ h => h) (Or.inl ⟨by rfl, ?_⟩) ?_ ?_
  rotate_left
  · intro w'
    go_simp
    with_reducible rfl
  rotate_left
  · simp only [Act.put, List.setIfInBounds_toArray, List.set_cons_zero, List.set_cons_succ, i64_w, i32_w]
    rfl
  refine pure_ (i := 3) (N := some 15) (v := ?_) (a' := ?_) #[true, false, true, true, false, false] rfl rfl (by kernel_rfl) (fun _ _ _ h => h) (Or.inl ⟨by rfl, ?_⟩) ?_ ?_
  rotate_left
  · intro w'
    go_simp
    with_reducible rfl
  rotate_left
  · simp only [Act.put, List.setIfInBounds_toArray, List.set_cons_zero, List.set_cons_succ, i64_w, i32_w]
    rfl
  refine one_ (i := 1) (N := some 13) #[true, true, true, true, false, false] rfl rfl (by kernel_rfl) (by decide) (fun K hK => ?_)
  refine goes_ Try.func30 (by kernel_rfl) rfl #[.int .u16 31745] (by rfl) rfl rfl (by (try simp only [List.map_toArray, List.map_cons, List.map_nil]); first | done | rfl) ?_
  refine (float16_Float16_Bits.calls 31745 31745 _ rfl).mono ?_
  rintro e W9 ⟨rfl, hb9⟩
  refine ⟨_, rfl, ?_⟩
  refine hK.out _ _ trivial (fun hHeld => ?_)
  clear hK K
  refine norm_ (a' := ?_) ?_ ?_
  rotate_left
  · show Act.put _ (some 13) _ = _
    simp only [Act.put, List.setIfInBounds_toArray, List.set_cons_zero, List.set_cons_succ, i64_w, i32_w]
    rfl
  refine pure_ (i := 4) (N := some 2) (v := ?_) (a' := ?_) #[true, true, true, true, true, false] rfl rfl (by kernel_rfl) (fun _ _ _ h => h) (Or.inl ⟨by rfl, ?_⟩) ?_ ?_
  rotate_left
  · intro w'
    go_simp
    with_reducible rfl
  rotate_left
  · simp only [Act.put, List.setIfInBounds_toArray, List.set_cons_zero, List.set_cons_succ, i64_w, i32_w]
    rfl
  refine pure_ (i := 5) (N := some 3) (v := ?_) (a' := ?_) #[true, true, true, true, true, true] rfl rfl (by kernel_rfl) (fun _ _ _ h => h) (Or.inl ⟨by rfl, ?_⟩) ?_ ?_
  rotate_left
  · intro w'
    go_simp
    with_reducible rfl
  rotate_left
  · simp only [Act.put, List.setIfInBounds_toArray, List.set_cons_zero, List.set_cons_succ, i64_w, i32_w]
    rfl
  refine done_ (by kernel_rfl) ?_
  go_wp2
  go_ret2
  exact ⟨rfl, drawn_trans (hb1.step 1) hb9⟩
def impl_HalfFromNaN.f (a0 : Int) : Option (Int × Bool) := if 0 ≤ a0 ∧ a0 < 4294967296 then some (((nanH a0.toNat : Nat) : Int), nanOk a0.toNat) else none
theorem impl_HalfFromNaN.calls (a0 : Int) (r1 : Int) (r2 : Bool) (w : World) (h : impl_HalfFromNaN.f a0 = some (r1, r2)) :
    Calls Try.prog 28 #[.int .u32 a0] w fun e w' => e = .returned (.tuple #[.int .u16 r1, .bool r2]) ∧ Drawn0 w w' := by
  unfold impl_HalfFromNaN.f at h
  split at h
  case isFalse => cases h
  rename_i h0
  obtain ⟨n, rfl⟩ := Int.eq_ofNat_of_zero_le h0.1
  rw [Int.toNat_natCast] at h
  obtain ⟨rfl, rfl⟩ := Prod.mk.inj (Option.some.inj h)
  cases hk : nanOk n
  · have e : nanH n = 31745 := by
      unfold nanH
      rw [hk]
      rfl
    rw [e]
    exact nan_two n (by omega) w hk
  · exact nan_one n (by omega) w hk

/-! ### laws_FnHalfNaN: function 10 -/
def laws_FnHalfNaN.f (a0 : Int) : Option (Bool) := (impl_HalfFromNaN.f a0).bind fun bt101 => ((spec_SingleKind.f a0).bind fun t103 => (if t103 = 2 then ((impl_HalfFrom.f a0).bind fun t104 => (if t104 = (Go.bits .or .u16 (Go.bits .or .u16 (IntKind.u16.wrap (Go.bits .and .u32 (a0 / 65536) 32768)) 32256) (IntKind.u16.wrap (Go.bits .and .u32 (a0 / 8192) 1023))) then (if bt101.2 = true then (some (bt101.1 == (Go.bits .or .u16 (Go.bits .or .u16 (IntKind.u16.wrap (Go.bits .and .u32 (a0 / 65536) 32768)) 31744) (mx (IntKind.u16.wrap (Go.bits .and .u32 (a0 / 8192) 1023)) 1)))) else (some false)) else (some false))) else (if bt101.2 = true then (some false) else (some (bt101.1 == 31745)))))
set_option maxHeartbeats 8000000 in
set_option maxRecDepth 100000 in
theorem laws_FnHalfNaN.calls (a0 : Int) (r : Bool) (w : World) (h : laws_FnHalfNaN.f a0 = some r) :
    Calls Try.prog 10 #[.int .u32 a0] w fun e w' => e = .returned (.bool r) ∧ Below w.heap.size w w' := by
  have HB := Aside0.mk (Below.refl w.heap.size w)
  have H : ((impl_HalfFromNaN.f a0).bind fun bt101 => ((spec_SingleKind.f a0).bind fun t103 => (if t103 = 2 then ((impl_HalfFrom.f a0).bind fun t104 => (if t104 = (Go.bits .or .u16 (Go.bits .or .u16 (IntKind.u16.wrap (Go.bits .and .u32 (a0 / 65536) 32768)) 32256) (IntKind.u16.wrap (Go.bits .and .u32 (a0 / 8192) 1023))) then (if bt101.2 = true then (some (bt101.1 == (Go.bits .or .u16 (Go.bits .or .u16 (IntKind.u16.wrap (Go.bits .and .u32 (a0 / 65536) 32768)) 31744) (mx (IntKind.u16.wrap (Go.bits .and .u32 (a0 / 8192) 1023)) 1)))) else (some false)) else (some false))) else (if bt101.2 = true then (some false) else (some (bt101.1 == 31745)))))) = some r := h
  clear h
  replace H := Option.bind_eq_some_iff.mp H
  obtain ⟨⟨t101, t102⟩, A20, H⟩ := H
  replace H : ((spec_SingleKind.f a0).bind fun t103 => (if t103 = 2 then ((impl_HalfFrom.f a0).bind fun t104 => (if t104 = (Go.bits .or .u16 (Go.bits .or .u16 (IntKind.u16.wrap (Go.bits .and .u32 (a0 / 65536) 32768)) 32256) (IntKind.u16.wrap (Go.bits .and .u32 (a0 / 8192) 1023))) then (if t102 = true then (some (t101 == (Go.bits .or .u16 (Go.bits .or .u16 (IntKind.u16.wrap (Go.bits .and .u32 (a0 / 65536) 32768)) 31744) (mx (IntKind.u16.wrap (Go.bits .and .u32 (a0 / 8192) 1023)) 1)))) else (some false)) else (some false))) else (if t102 = true then (some false) else (some (t101 == 31745))))) = some r := H
  have A2 := Aside0.mk A20
  clear A20
  replace H := Option.bind_eq_some_iff.mp H
  obtain ⟨t103, A30, H⟩ := H
  replace H : (if t103 = 2 then ((impl_HalfFrom.f a0).bind fun t104 => (if t104 = (Go.bits .or .u16 (Go.bits .or .u16 (IntKind.u16.wrap (Go.bits .and .u32 (a0 / 65536) 32768)) 32256) (IntKind.u16.wrap (Go.bits .and .u32 (a0 / 8192) 1023))) then (if t102 = true then (some (t101 == (Go.bits .or .u16 (Go.bits .or .u16 (IntKind.u16.wrap (Go.bits .and .u32 (a0 / 65536) 32768)) 31744) (mx (IntKind.u16.wrap (Go.bits .and .u32 (a0 / 8192) 1023)) 1)))) else (some false)) else (some false))) else (if t102 = true then (some false) else (some (t101 == 31745)))) = some r := H
  have A3 := Aside0.mk A30
  clear A30
  by_cases c4 : t103 = 2
  · rw [if_pos c4] at H
    have c4b0 : (t103 == 2) = true := beq_iff_eq.mpr c4
    have c4b1 : (t103 != 2) = false := bne_eq_false_iff_eq.mpr c4
    clear c4
    replace H := Option.bind_eq_some_iff.mp H
    obtain ⟨t104, A50, H⟩ := H
    replace H : (if t104 = (Go.bits .or .u16 (Go.bits .or .u16 (IntKind.u16.wrap (Go.bits .and .u32 (a0 / 65536) 32768)) 32256) (IntKind.u16.wrap (Go.bits .and .u32 (a0 / 8192) 1023))) then (if t102 = true then (some (t101 == (Go.bits .or .u16 (Go.bits .or .u16 (IntKind.u16.wrap (Go.bits .and .u32 (a0 / 65536) 32768)) 31744) (mx (IntKind.u16.wrap (Go.bits .and .u32 (a0 / 8192) 1023)) 1)))) else (some false)) else (some false)) = some r := H
    have A5 := Aside0.mk A50
    clear A50
    by_cases c6 : t104 = (Go.bits .or .u16 (Go.bits .or .u16 (IntKind.u16.wrap (Go.bits .and .u32 (a0 / 65536) 32768)) 32256) (IntKind.u16.wrap (Go.bits .and .u32 (a0 / 8192) 1023)))
    · rw [if_pos c6] at H
      have c6b0 : (t104 == (Go.bits .or .u16 (Go.bits .or .u16 (IntKind.u16.wrap (Go.bits .and .u32 (a0 / 65536) 32768)) 32256) (IntKind.u16.wrap (Go.bits .and .u32 (a0 / 8192) 1023)))) = true := beq_iff_eq.mpr c6
      have c6b1 : (t104 != (Go.bits .or .u16 (Go.bits .or .u16 (IntKind.u16.wrap (Go.bits .and .u32 (a0 / 65536) 32768)) 32256) (IntKind.u16.wrap (Go.bits .and .u32 (a0 / 8192) 1023)))) = false := bne_eq_false_iff_eq.mpr c6
      clear c6
      by_cases c7 : t102 = true
      · subst c7
        have H1 : (some (t101 == (Go.bits .or .u16 (Go.bits .or .u16 (IntKind.u16.wrap (Go.bits .and .u32 (a0 / 65536) 32768)) 31744) (mx (IntKind.u16.wrap (Go.bits .and .u32 (a0 / 8192) 1023)) 1)))) = some r := by rw [if_pos rfl] at H; exact H
        clear H
        have H := H1
        clear H1
        obtain ⟨ji8, hji8⟩ : ∃ j_ : Int, (mx (IntKind.u16.wrap (Go.bits .and .u32 (a0 / 8192) 1023)) 1) = j_ := ⟨_, rfl⟩
        replace H : (some (t101 == (Go.bits .or .u16 (Go.bits .or .u16 (IntKind.u16.wrap (Go.bits .and .u32 (a0 / 65536) 32768)) 31744) (ji8)))) = some r := by first | (rw [hji8] at H; exact H) | (simp only [hji8] at H ⊢; exact H)
        (try rw [hji8] at A2)
        (try rw [hji8] at A3)
        (try rw [hji8] at A5)
        (try (have hji8l : 1 ≤ ji8 := by (rw [← hji8]; unfold mx; (repeat' split) <;> omega)))
        (try (have hji8m : 0 ≤ ji8 := by omega))
        have hji8_ : (if (IntKind.u16.wrap (Go.bits .and .u32 (a0 / 8192) 1023)) < 1 then 1 else (IntKind.u16.wrap (Go.bits .and .u32 (a0 / 8192) 1023))) = ji8 := hji8
        obtain rfl := Option.some.inj H
        go_enter Try.func10, Try.ntmps10
        go_wp2_with (first | ((with_reducible refine gate_callee (f := 28) rfl ?_); refine goesL_ (some 9) rfl rfl Try.func28 (by kernel_rfl) rfl #[.int .u32 a0] rfl (by (try simp only [List.map_toArray, List.map_cons, List.map_nil]); first | done | rfl | (simp only [List.length_drop, List.length_take]; rfl)) ?_; (with_reducible refine (impl_HalfFromNaN.calls a0 t101 true _ A2.out).mono ?_); rintro e w' ⟨rfl, ⟨nd, rfl⟩⟩; refine ⟨_, rfl, ?_⟩) | ((with_reducible refine gate_callee (f := 19) rfl ?_); refine goesL_ (some 13) rfl rfl Try.func19 (by kernel_rfl) rfl #[.int .u32 a0] rfl (by (try simp only [List.map_toArray, List.map_cons, List.map_nil]); first | done | rfl | (simp only [List.length_drop, List.length_take]; rfl)) ?_; (with_reducible refine (spec_SingleKind.calls a0 t103 _ A3.out).mono ?_); rintro e w' ⟨rfl, ⟨nd, rfl⟩⟩; refine ⟨_, rfl, ?_⟩) | ((with_reducible refine gate_callee (f := 23) rfl ?_); refine goesL_ (some 30) rfl rfl Try.func23 (by kernel_rfl) rfl #[.int .u32 a0] rfl (by (try simp only [List.map_toArray, List.map_cons, List.map_nil]); first | done | rfl | (simp only [List.length_drop, List.length_take]; rfl)) ?_; (with_reducible refine (impl_HalfFrom.calls a0 t104 _ A5.out).mono ?_); rintro e w' ⟨rfl, ⟨nd, rfl⟩⟩; refine ⟨_, rfl, ?_⟩))
        go_ret
        exact ⟨by first | rfl | (simp [errW_none, errW_some] <;> rfl) | (simp only [← hji8]; first | rfl | (simp [errW_none, errW_some] <;> rfl)) | (simp [*, errW_none, errW_some] <;> rfl), by repeat (first | (with_reducible first | exact HB.out | apply below_alloc | apply pw_below_drewN | apply below_drew1) | exact HB.out)⟩
      · replace c7 := Bool.eq_false_iff.mpr c7
        subst c7
        have H1 : (some false) = some r := by rw [if_neg (show ¬ (false = true) by decide)] at H; exact H
        clear H
        have H := H1
        clear H1
        obtain rfl := Option.some.inj H
        go_enter Try.func10, Try.ntmps10
        go_wp2_with (first | ((with_reducible refine gate_callee (f := 28) rfl ?_); refine goesL_ (some 9) rfl rfl Try.func28 (by kernel_rfl) rfl #[.int .u32 a0] rfl (by (try simp only [List.map_toArray, List.map_cons, List.map_nil]); first | done | rfl | (simp only [List.length_drop, List.length_take]; rfl)) ?_; (with_reducible refine (impl_HalfFromNaN.calls a0 t101 false _ A2.out).mono ?_); rintro e w' ⟨rfl, ⟨nd, rfl⟩⟩; refine ⟨_, rfl, ?_⟩) | ((with_reducible refine gate_callee (f := 19) rfl ?_); refine goesL_ (some 13) rfl rfl Try.func19 (by kernel_rfl) rfl #[.int .u32 a0] rfl (by (try simp only [List.map_toArray, List.map_cons, List.map_nil]); first | done | rfl | (simp only [List.length_drop, List.length_take]; rfl)) ?_; (with_reducible refine (spec_SingleKind.calls a0 t103 _ A3.out).mono ?_); rintro e w' ⟨rfl, ⟨nd, rfl⟩⟩; refine ⟨_, rfl, ?_⟩) | ((with_reducible refine gate_callee (f := 23) rfl ?_); refine goesL_ (some 30) rfl rfl Try.func23 (by kernel_rfl) rfl #[.int .u32 a0] rfl (by (try simp only [List.map_toArray, List.map_cons, List.map_nil]); first | done | rfl | (simp only [List.length_drop, List.length_take]; rfl)) ?_; (with_reducible refine (impl_HalfFrom.calls a0 t104 _ A5.out).mono ?_); rintro e w' ⟨rfl, ⟨nd, rfl⟩⟩; refine ⟨_, rfl, ?_⟩))
        go_ret
        exact ⟨by first | rfl | (simp [errW_none, errW_some] <;> rfl) | (simp [*, errW_none, errW_some] <;> rfl), by repeat (first | (with_reducible first | exact HB.out | apply below_alloc | apply pw_below_drewN | apply below_drew1) | exact HB.out)⟩
    · rw [if_neg c6] at H
      have c6b0 : (t104 == (Go.bits .or .u16 (Go.bits .or .u16 (IntKind.u16.wrap (Go.bits .and .u32 (a0 / 65536) 32768)) 32256) (IntKind.u16.wrap (Go.bits .and .u32 (a0 / 8192) 1023)))) = false := beq_eq_false_iff_ne.mpr c6
      have c6b1 : (t104 != (Go.bits .or .u16 (Go.bits .or .u16 (IntKind.u16.wrap (Go.bits .and .u32 (a0 / 65536) 32768)) 32256) (IntKind.u16.wrap (Go.bits .and .u32 (a0 / 8192) 1023)))) = true := bne_iff_ne.mpr c6
      obtain rfl := Option.some.inj H
      go_enter Try.func10, Try.ntmps10
      go_wp2_with (first | ((with_reducible refine gate_callee (f := 28) rfl ?_); refine goesL_ (some 9) rfl rfl Try.func28 (by kernel_rfl) rfl #[.int .u32 a0] rfl (by (try simp only [List.map_toArray, List.map_cons, List.map_nil]); first | done | rfl | (simp only [List.length_drop, List.length_take]; rfl)) ?_; (with_reducible refine (impl_HalfFromNaN.calls a0 t101 t102 _ A2.out).mono ?_); rintro e w' ⟨rfl, ⟨nd, rfl⟩⟩; refine ⟨_, rfl, ?_⟩) | ((with_reducible refine gate_callee (f := 19) rfl ?_); refine goesL_ (some 13) rfl rfl Try.func19 (by kernel_rfl) rfl #[.int .u32 a0] rfl (by (try simp only [List.map_toArray, List.map_cons, List.map_nil]); first | done | rfl | (simp only [List.length_drop, List.length_take]; rfl)) ?_; (with_reducible refine (spec_SingleKind.calls a0 t103 _ A3.out).mono ?_); rintro e w' ⟨rfl, ⟨nd, rfl⟩⟩; refine ⟨_, rfl, ?_⟩) | ((with_reducible refine gate_callee (f := 23) rfl ?_); refine goesL_ (some 30) rfl rfl Try.func23 (by kernel_rfl) rfl #[.int .u32 a0] rfl (by (try simp only [List.map_toArray, List.map_cons, List.map_nil]); first | done | rfl | (simp only [List.length_drop, List.length_take]; rfl)) ?_; (with_reducible refine (impl_HalfFrom.calls a0 t104 _ A5.out).mono ?_); rintro e w' ⟨rfl, ⟨nd, rfl⟩⟩; refine ⟨_, rfl, ?_⟩))
      go_ret
      exact ⟨by first | rfl | (simp [errW_none, errW_some] <;> rfl) | (simp [*, errW_none, errW_some] <;> rfl), by repeat (first | (with_reducible first | exact HB.out | apply below_alloc | apply pw_below_drewN | apply below_drew1) | exact HB.out)⟩
  · rw [if_neg c4] at H
    have c4b0 : (t103 == 2) = false := beq_eq_false_iff_ne.mpr c4
    have c4b1 : (t103 != 2) = true := bne_iff_ne.mpr c4
    by_cases c9 : t102 = true
    · subst c9
      have H1 : (some false) = some r := by rw [if_pos rfl] at H; exact H
      clear H
      have H := H1
      clear H1
      obtain rfl := Option.some.inj H
      go_enter Try.func10, Try.ntmps10
      go_wp2_with (first | ((with_reducible refine gate_callee (f := 28) rfl ?_); refine goesL_ (some 9) rfl rfl Try.func28 (by kernel_rfl) rfl #[.int .u32 a0] rfl (by (try simp only [List.map_toArray, List.map_cons, List.map_nil]); first | done | rfl | (simp only [List.length_drop, List.length_take]; rfl)) ?_; (with_reducible refine (impl_HalfFromNaN.calls a0 t101 true _ A2.out).mono ?_); rintro e w' ⟨rfl, ⟨nd, rfl⟩⟩; refine ⟨_, rfl, ?_⟩) | ((with_reducible refine gate_callee (f := 19) rfl ?_); refine goesL_ (some 13) rfl rfl Try.func19 (by kernel_rfl) rfl #[.int .u32 a0] rfl (by (try simp only [List.map_toArray, List.map_cons, List.map_nil]); first | done | rfl | (simp only [List.length_drop, List.length_take]; rfl)) ?_; (with_reducible refine (spec_SingleKind.calls a0 t103 _ A3.out).mono ?_); rintro e w' ⟨rfl, ⟨nd, rfl⟩⟩; refine ⟨_, rfl, ?_⟩))
      go_ret
      exact ⟨by first | rfl | (simp [errW_none, errW_some] <;> rfl) | (simp [*, errW_none, errW_some] <;> rfl), by repeat (first | (with_reducible first | exact HB.out | apply below_alloc | apply pw_below_drewN | apply below_drew1) | exact HB.out)⟩
    · replace c9 := Bool.eq_false_iff.mpr c9
      subst c9
      have H1 : (some (t101 == 31745)) = some r := by rw [if_neg (show ¬ (false = true) by decide)] at H; exact H
      clear H
      have H := H1
      clear H1
      obtain rfl := Option.some.inj H
      go_enter Try.func10, Try.ntmps10
      go_wp2_with (first | ((with_reducible refine gate_callee (f := 28) rfl ?_); refine goesL_ (some 9) rfl rfl Try.func28 (by kernel_rfl) rfl #[.int .u32 a0] rfl (by (try simp only [List.map_toArray, List.map_cons, List.map_nil]); first | done | rfl | (simp only [List.length_drop, List.length_take]; rfl)) ?_; (with_reducible refine (impl_HalfFromNaN.calls a0 t101 false _ A2.out).mono ?_); rintro e w' ⟨rfl, ⟨nd, rfl⟩⟩; refine ⟨_, rfl, ?_⟩) | ((with_reducible refine gate_callee (f := 19) rfl ?_); refine goesL_ (some 13) rfl rfl Try.func19 (by kernel_rfl) rfl #[.int .u32 a0] rfl (by (try simp only [List.map_toArray, List.map_cons, List.map_nil]); first | done | rfl | (simp only [List.length_drop, List.length_take]; rfl)) ?_; (with_reducible refine (spec_SingleKind.calls a0 t103 _ A3.out).mono ?_); rintro e w' ⟨rfl, ⟨nd, rfl⟩⟩; refine ⟨_, rfl, ?_⟩))
      go_ret
      exact ⟨by first | rfl | (simp [errW_none, errW_some] <;> rfl) | (simp [*, errW_none, errW_some] <;> rfl), by repeat (first | (with_reducible first | exact HB.out | apply below_alloc | apply pw_below_drewN | apply below_drew1) | exact HB.out)⟩

/-- THE ONE PURE STATEMENT of laws_FnHalfNaN: yours. -/
def laws_FnHalfNaN.Pure : Prop := ∀ (a0 : Int), (Lit.int .u32 a0).wf = true → laws_FnHalfNaN.f a0 = some true
theorem laws_FnHalfNaN.walk (P : laws_FnHalfNaN.Pure) (a0 : Int) (w : World) (w0 : (Lit.int .u32 a0).wf = true) :
    Calls Try.prog 10 #[.int .u32 a0] w fun e w' => e = .returned (.bool true) ∧ Below w.heap.size w w' := by
  have h := P a0 w0
  refine (laws_FnHalfNaN.calls a0 true w h).mono ?_
  rintro e w' ⟨rfl, hd⟩
  exact ⟨rfl, hd⟩


end Go.Proofs.Ytdepcnaiobfpkaa.NAll
