/- Printed by the kit's print.py, called for several laws at once: functions as plain Lean, and the walks' contracts. -/
import Derived.Test.YtjmgiodkfgdgnaaPAllx0
namespace Go.Proofs.Ytjmgiodkfgdgnaa.PAll
open Go.RowKit Go.Proofs.YtjmgiodkfgdgnaaW.PrintWords Go.Proofs.YtjmgiodkfgdgnaaW.PrintLast Go.Proofs.YtjmgiodkfgdgnaaW.PrintMore
attribute [local go_sem] max2_int min2_int max_two min_two max_three min_three max_four min_four   -- for this text's walks alone
set_option linter.unusedVariables false
set_option linter.unusedSimpArgs false

/-! ### bigall_low64: function 49 -/
def bigall_low64.f (l0 : List Int) : Option (Int) := if (l0.length : Int) = 0 then (some 0) else (if 0 < (l0.length : Int) then (some (rd l0 0)) else (none))
set_option maxHeartbeats 8000000 in
set_option maxRecDepth 100000 in
theorem bigall_low64.calls (A0 : Option Addr) (c0 : Nat) (l0 : List Int) (r : Int) (w : World) (hr0 : Kd.C (Kd.int .u64) w A0 l0.length l0) (hc0 : l0.length ≤ c0) (h : bigall_low64.f l0 = some r) :
    Calls Try.prog 49 #[.slice A0 l0.length c0] w fun e w' => e = .returned (.int .u64 r) ∧ Drawn0 w w' := by
  have HR0 := Aside0.mk hr0
  have HC0 := Aside0.mk hc0
  clear hr0 hc0
  have H : (if (l0.length : Int) = 0 then (some 0) else (if 0 < (l0.length : Int) then (some (rd l0 0)) else (none))) = some r := h
  clear h
  by_cases c2 : (l0.length : Int) = 0
  · rw [if_pos c2] at H
    have c2b0 : ((l0.length : Int) == 0) = true := beq_iff_eq.mpr c2
    have c2b1 : ((l0.length : Int) != 0) = false := bne_eq_false_iff_eq.mpr c2
    clear c2
    obtain rfl := Option.some.inj H
    go_enter Try.func49, Try.ntmps49
    go_wp2
    go_ret
    exact ⟨by first | rfl | (simp; done) | (simp [*]; done), by repeat (first | exact Drawn0.refl _ | apply Drawn0.step)⟩
  · rw [if_neg c2] at H
    have c2b0 : ((l0.length : Int) == 0) = false := beq_eq_false_iff_ne.mpr c2
    have c2b1 : ((l0.length : Int) != 0) = true := bne_iff_ne.mpr c2
    have c2b2 : ¬ (l0 = []) := fun h_ => c2 (by rw [h_]; rfl)
    by_cases c3 : 0 < (l0.length : Int)
    · rw [if_pos c3] at H
      have c3b0 : decide (0 < (l0.length : Int)) = true := decide_eq_true c3
      have c3b1 : decide (0 < l0.length) = true := decide_eq_true (by omega)
      clear c3
      obtain rfl := Option.some.inj H
      have p101 : 0 ≤ (0 : Int) := (by omega)
      have q101 : 0 < (l0.length : Int) := of_decide_eq_true (by first | (with_reducible assumption) | assumption)
      obtain ⟨ad101, e101, hx101_0⟩ := Kd.at_int HR0.out 0 p101 q101
      cases e101
      have qi101 : (0 < l0.length) = True := eq_true (by omega)
      (try rw [show ((0 : Int)).toNat = 0 from rfl] at hx101_0)
      (try rw [Addr.add_zero'] at hx101_0)
      replace p101 := eq_true p101
      replace q101 := eq_true q101
      go_enter Try.func49, Try.ntmps49
      go_wp2
      go_ret
      exact ⟨by first | rfl | (simp; done) | (simp [*]; done), by repeat (first | exact Drawn0.refl _ | apply Drawn0.step)⟩
    · rw [if_neg c3] at H
      exact absurd H (by simp)


/-! ### bigall_beUint32: function 60 -/
def bigall_beUint32.f (l0 : List Int) : Option (Int) := if 3 < (l0.length : Int) then (if 2 < (l0.length : Int) then (if 1 < (l0.length : Int) then (if 0 < (l0.length : Int) then (some (Go.bits .or .u32 (Go.bits .or .u32 (Go.bits .or .u32 ((rd l0 3) % 4294967296) ((((rd l0 2) % 4294967296) * 256) % 4294967296)) ((((rd l0 1) % 4294967296) * 65536) % 4294967296)) ((((rd l0 0) % 4294967296) * 16777216) % 4294967296))) else (none)) else (none)) else (none)) else (none)
set_option maxHeartbeats 8000000 in
set_option maxRecDepth 100000 in
theorem bigall_beUint32.calls (A0 : Option Addr) (c0 : Nat) (l0 : List Int) (r : Int) (w : World) (hr0 : Kd.C (Kd.int .u8) w A0 l0.length l0) (hc0 : l0.length ≤ c0) (h : bigall_beUint32.f l0 = some r) :
    Calls Try.prog 60 #[.slice A0 l0.length c0] w fun e w' => e = .returned (.int .u32 r) ∧ Drawn0 w w' := by
  have HR0 := Aside0.mk hr0
  have HC0 := Aside0.mk hc0
  clear hr0 hc0
  have H : (if 3 < (l0.length : Int) then (if 2 < (l0.length : Int) then (if 1 < (l0.length : Int) then (if 0 < (l0.length : Int) then (some (Go.bits .or .u32 (Go.bits .or .u32 (Go.bits .or .u32 ((rd l0 3) % 4294967296) ((((rd l0 2) % 4294967296) * 256) % 4294967296)) ((((rd l0 1) % 4294967296) * 65536) % 4294967296)) ((((rd l0 0) % 4294967296) * 16777216) % 4294967296))) else (none)) else (none)) else (none)) else (none)) = some r := h
  clear h
  by_cases c2 : 3 < (l0.length : Int)
  · rw [if_pos c2] at H
    have c2b0 : decide (3 < (l0.length : Int)) = true := decide_eq_true c2
    have c2b1 : decide (3 < l0.length) = true := decide_eq_true (by omega)
    clear c2
    by_cases c3 : 2 < (l0.length : Int)
    · rw [if_pos c3] at H
      have c3b0 : decide (2 < (l0.length : Int)) = true := decide_eq_true c3
      have c3b1 : decide (2 < l0.length) = true := decide_eq_true (by omega)
      clear c3
      by_cases c4 : 1 < (l0.length : Int)
      · rw [if_pos c4] at H
        have c4b0 : decide (1 < (l0.length : Int)) = true := decide_eq_true c4
        have c4b1 : decide (1 < l0.length) = true := decide_eq_true (by omega)
        clear c4
        by_cases c5 : 0 < (l0.length : Int)
        · rw [if_pos c5] at H
          have c5b0 : decide (0 < (l0.length : Int)) = true := decide_eq_true c5
          have c5b1 : decide (0 < l0.length) = true := decide_eq_true (by omega)
          clear c5
          obtain rfl := Option.some.inj H
          have p102 : 0 ≤ (3 : Int) := (by omega)
          have q102 : 3 < (l0.length : Int) := of_decide_eq_true (by first | (with_reducible assumption) | assumption)
          obtain ⟨ad102, e102, hx102_0⟩ := Kd.at_int HR0.out 3 p102 q102
          cases e102
          (try simp only [show (3 : Int).toNat = 3 from rfl, Nat.reduceMul, Nat.reduceEqDiff, Go.Addr.add, ↓reduceIte] at hx102_0)
          have qi102 : (3 < l0.length) = True := eq_true (by omega)
          (try rw [show ((3 : Int)).toNat = 3 from rfl] at hx102_0)
          replace p102 := eq_true p102
          replace q102 := eq_true q102
          have p103 : 0 ≤ (3 : Int) := (by omega)
          have q103 : 3 < (l0.length : Int) := of_decide_eq_true (by first | (with_reducible assumption) | assumption)
          obtain ⟨ad103, e103, hx103_0⟩ := Kd.at_int HR0.out 3 p103 q103
          obtain rfl : ad102 = ad103 := (by injection e103)
          (try simp only [show (3 : Int).toNat = 3 from rfl, Nat.reduceMul, Nat.reduceEqDiff, Go.Addr.add, ↓reduceIte] at hx103_0)
          have qi103 : (3 < l0.length) = True := eq_true (by omega)
          (try rw [show ((3 : Int)).toNat = 3 from rfl] at hx103_0)
          replace p103 := eq_true p103
          replace q103 := eq_true q103
          have p104 : 0 ≤ (2 : Int) := (by omega)
          have q104 : 2 < (l0.length : Int) := of_decide_eq_true (by first | (with_reducible assumption) | assumption)
          obtain ⟨ad104, e104, hx104_0⟩ := Kd.at_int HR0.out 2 p104 q104
          obtain rfl : ad102 = ad104 := (by injection e104)
          (try simp only [show (2 : Int).toNat = 2 from rfl, Nat.reduceMul, Nat.reduceEqDiff, Go.Addr.add, ↓reduceIte] at hx104_0)
          have qi104 : (2 < l0.length) = True := eq_true (by omega)
          (try rw [show ((2 : Int)).toNat = 2 from rfl] at hx104_0)
          replace p104 := eq_true p104
          replace q104 := eq_true q104
          have p105 : 0 ≤ (1 : Int) := (by omega)
          have q105 : 1 < (l0.length : Int) := of_decide_eq_true (by first | (with_reducible assumption) | assumption)
          obtain ⟨ad105, e105, hx105_0⟩ := Kd.at_int HR0.out 1 p105 q105
          obtain rfl : ad102 = ad105 := (by injection e105)
          (try simp only [show (1 : Int).toNat = 1 from rfl, Nat.reduceMul, Nat.reduceEqDiff, Go.Addr.add, ↓reduceIte] at hx105_0)
          have qi105 : (1 < l0.length) = True := eq_true (by omega)
          (try rw [show ((1 : Int)).toNat = 1 from rfl] at hx105_0)
          replace p105 := eq_true p105
          replace q105 := eq_true q105
          have p106 : 0 ≤ (0 : Int) := (by omega)
          have q106 : 0 < (l0.length : Int) := of_decide_eq_true (by first | (with_reducible assumption) | assumption)
          obtain ⟨ad106, e106, hx106_0⟩ := Kd.at_int HR0.out 0 p106 q106
          obtain rfl : ad102 = ad106 := (by injection e106)
          have qi106 : (0 < l0.length) = True := eq_true (by omega)
          (try rw [show ((0 : Int)).toNat = 0 from rfl] at hx106_0)
          (try rw [Addr.add_zero'] at hx106_0)
          replace p106 := eq_true p106
          replace q106 := eq_true q106
          go_enter Try.func60, Try.ntmps60
          go_wp2
          repeat (go_quiet (fail); try go_wp2)
          go_ret
          exact ⟨by first | rfl | (simp; done) | (simp [*]; done), by repeat (first | exact Drawn0.refl _ | apply Drawn0.step)⟩
        · rw [if_neg c5] at H
          exact absurd H (by simp)
      · rw [if_neg c4] at H
        exact absurd H (by simp)
    · rw [if_neg c3] at H
      exact absurd H (by simp)
  · rw [if_neg c2] at H
    exact absurd H (by simp)


/-! ### bits_Len32: function 68 -/
/-! left out: the law never comes there -/

/-! ### bits_Len64: function 69 -/
/-- The number of bits of n without zeros ahead. -/
def lenN (n : Nat) : Nat := if n = 0 then 0 else Nat.log2 n + 1
def len8 : ByteArray := ⟨#[0, 1, 2, 2, 3, 3, 3, 3, 4, 4, 4, 4, 4, 4, 4, 4, 5, 5, 5, 5, 5, 5, 5, 5, 5, 5, 5, 5, 5, 5, 5, 5, 6, 6, 6, 6, 6, 6, 6, 6, 6, 6, 6, 6, 6, 6, 6, 6, 6, 6, 6, 6, 6, 6, 6, 6, 6, 6, 6, 6, 6, 6, 6, 6, 7, 7, 7, 7, 7, 7, 7, 7, 7, 7, 7, 7, 7, 7, 7, 7, 7, 7, 7, 7, 7, 7, 7, 7, 7, 7, 7, 7, 7, 7, 7, 7, 7, 7, 7, 7, 7, 7, 7, 7, 7, 7, 7, 7, 7, 7, 7, 7, 7, 7, 7, 7, 7, 7, 7, 7, 7, 7, 7, 7, 7, 7, 7, 7, 8, 8, 8, 8, 8, 8, 8, 8, 8, 8, 8, 8, 8, 8, 8, 8, 8, 8, 8, 8, 8, 8, 8, 8, 8, 8, 8, 8, 8, 8, 8, 8, 8, 8, 8, 8, 8, 8, 8, 8, 8, 8, 8, 8, 8, 8, 8, 8, 8, 8, 8, 8, 8, 8, 8, 8, 8, 8, 8, 8, 8, 8, 8, 8, 8, 8, 8, 8, 8, 8, 8, 8, 8, 8, 8, 8, 8, 8, 8, 8, 8, 8, 8, 8, 8, 8, 8, 8, 8, 8, 8, 8, 8, 8, 8, 8, 8, 8, 8, 8, 8, 8, 8, 8, 8, 8, 8, 8, 8, 8, 8, 8, 8, 8, 8, 8, 8, 8, 8, 8, 8, 8, 8, 8, 8, 8, 8, 8]⟩
theorem len8_size : len8.size = 256 := by decide +kernel
theorem len8_all : (List.range 256).all (fun x => len8.data.toList.getD x 0 == UInt8.ofNat (lenN x)) = true := by decide +kernel
theorem lenN_8 (x : Nat) (h : x < 256) : lenN x ≤ 8 := by
  unfold lenN
  split
  · decide
  · rename_i h0
    have := (Nat.log2_lt h0 (k := 8)).mpr h
    omega
theorem len8_is (x : Nat) (h : x < len8.size) : (len8[x]'h).toNat = lenN x := by
  have hx : x < 256 := by rw [← len8_size]; exact h
  have a := List.all_eq_true.mp len8_all x (List.mem_range.mpr hx)
  rw [beq_iff_eq] at a
  have e : len8[x]'h = len8.data.toList.getD x 0 := by
    rw [List.getD_eq_getElem?_getD, Array.getElem?_toList, Array.getElem?_eq_getElem (by exact h)]
    rfl
  rw [e, a]
  have := lenN_8 x hx
  rw [UInt8.toNat_ofNat_of_lt' (by show lenN x < 256; omega)]
theorem w64n (n : Int) (h : 0 ≤ n ∧ n < 1000) : wrap64 n = n := by
  unfold wrap64
  omega
theorem lenN_div (x k : Nat) (h : 2 ^ k ≤ x) : lenN x = k + lenN (x / 2 ^ k) := by
  have h0 : 0 < 2 ^ k := Nat.pow_pos (by decide)
  have hx : x ≠ 0 := by omega
  have hq : x / 2 ^ k ≠ 0 := by
    have := Nat.div_pos h h0
    omega
  unfold lenN
  rw [if_neg hx, if_neg hq]
  have l1 := Nat.log2_self_le hq
  have l2 := Nat.lt_log2_self (n := x / 2 ^ k)
  generalize (x / 2 ^ k).log2 = l at *
  have e : x.log2 = k + l := by
    rw [Nat.log2_eq_iff hx, Nat.pow_add, Nat.add_assoc, Nat.pow_add]
    have d := Nat.div_add_mod x (2 ^ k)
    have m := Nat.mod_lt x h0
    constructor
    · have := Nat.mul_le_mul_left (2 ^ k) l1
      omega
    · have := Nat.mul_le_mul_left (2 ^ k) (show x / 2 ^ k + 1 ≤ 2 ^ (l + 1) by omega)
      rw [Nat.mul_add] at this
      omega
  omega
set_option maxHeartbeats 2000000 in
set_option maxRecDepth 100000 in
theorem len_000 (x : Nat) (w : World) (b0 : decide (4294967296 ≤ (x : Int)) = false) (b1 : decide (65536 ≤ (x : Int)) = false) (b2 : decide (256 ≤ (x : Int)) = false) (hv : x < 256) (e : (x : Int) % 256 = (x : Int)) :
    Calls Try.prog 69 #[.int .u64 (x : Int)] w fun e w' => e = .returned (.int .i64 ((0 + lenN x : Nat) : Int)) ∧ Drawn0 w w' := by
  go_enter Try.func69, Try.ntmps69
  go_wp2
  go_ret
  refine ⟨congrArg (fun z => Ending.returned (.int .i64 z)) ?_, Drawn0.refl _⟩
  have q := len8_is x (by rw [len8_size]; exact hv)
  have hb := lenN_8 x hv
  unfold len8 at q
  rw [q]
  clear q e hv b0 b1 b2
  generalize lenN x = r at *
  rw [w64n (r : Int) (by omega), w64n _ (by omega)]
  omega
set_option maxHeartbeats 2000000 in
set_option maxRecDepth 100000 in
theorem len_001 (x t : Nat) (w : World) (b0 : decide (4294967296 ≤ (x : Int)) = false) (b1 : decide (65536 ≤ (x : Int)) = false) (b2 : decide (256 ≤ (x : Int)) = true) (e2 : (x : Int) / 256 = (t : Int)) (hv : t < 256) (e : (t : Int) % 256 = (t : Int)) :
    Calls Try.prog 69 #[.int .u64 (x : Int)] w fun e w' => e = .returned (.int .i64 ((8 + lenN t : Nat) : Int)) ∧ Drawn0 w w' := by
  go_enter Try.func69, Try.ntmps69
  go_wp2
  go_ret
  refine ⟨congrArg (fun z => Ending.returned (.int .i64 z)) ?_, Drawn0.refl _⟩
  have q := len8_is t (by rw [len8_size]; exact hv)
  have hb := lenN_8 t hv
  unfold len8 at q
  rw [q]
  clear q e hv b0 b1 b2 e2
  generalize lenN t = r at *
  rw [w64n (r : Int) (by omega), w64n _ (by omega)]
  omega
set_option maxHeartbeats 2000000 in
set_option maxRecDepth 100000 in
theorem len_010 (x z : Nat) (w : World) (b0 : decide (4294967296 ≤ (x : Int)) = false) (b1 : decide (65536 ≤ (x : Int)) = true) (e1 : (x : Int) / 65536 = (z : Int)) (b2 : decide (256 ≤ (z : Int)) = false) (hv : z < 256) (e : (z : Int) % 256 = (z : Int)) :
    Calls Try.prog 69 #[.int .u64 (x : Int)] w fun e w' => e = .returned (.int .i64 ((16 + lenN z : Nat) : Int)) ∧ Drawn0 w w' := by
  go_enter Try.func69, Try.ntmps69
  go_wp2
  go_ret
  refine ⟨congrArg (fun z => Ending.returned (.int .i64 z)) ?_, Drawn0.refl _⟩
  have q := len8_is z (by rw [len8_size]; exact hv)
  have hb := lenN_8 z hv
  unfold len8 at q
  rw [q]
  clear q e hv b0 b1 b2 e1
  generalize lenN z = r at *
  rw [w64n (r : Int) (by omega), w64n _ (by omega)]
  omega
set_option maxHeartbeats 2000000 in
set_option maxRecDepth 100000 in
theorem len_011 (x z t : Nat) (w : World) (b0 : decide (4294967296 ≤ (x : Int)) = false) (b1 : decide (65536 ≤ (x : Int)) = true) (e1 : (x : Int) / 65536 = (z : Int)) (b2 : decide (256 ≤ (z : Int)) = true) (e2 : (z : Int) / 256 = (t : Int)) (hv : t < 256) (e : (t : Int) % 256 = (t : Int)) :
    Calls Try.prog 69 #[.int .u64 (x : Int)] w fun e w' => e = .returned (.int .i64 ((24 + lenN t : Nat) : Int)) ∧ Drawn0 w w' := by
  go_enter Try.func69, Try.ntmps69
  go_wp2
  go_ret
  refine ⟨congrArg (fun z => Ending.returned (.int .i64 z)) ?_, Drawn0.refl _⟩
  have q := len8_is t (by rw [len8_size]; exact hv)
  have hb := lenN_8 t hv
  unfold len8 at q
  rw [q]
  clear q e hv b0 b1 b2 e1 e2
  generalize lenN t = r at *
  rw [w64n (r : Int) (by omega), w64n _ (by omega)]
  omega
set_option maxHeartbeats 2000000 in
set_option maxRecDepth 100000 in
theorem len_100 (x y : Nat) (w : World) (b0 : decide (4294967296 ≤ (x : Int)) = true) (e0 : (x : Int) / 4294967296 = (y : Int)) (b1 : decide (65536 ≤ (y : Int)) = false) (b2 : decide (256 ≤ (y : Int)) = false) (hv : y < 256) (e : (y : Int) % 256 = (y : Int)) :
    Calls Try.prog 69 #[.int .u64 (x : Int)] w fun e w' => e = .returned (.int .i64 ((32 + lenN y : Nat) : Int)) ∧ Drawn0 w w' := by
  go_enter Try.func69, Try.ntmps69
  go_wp2
  go_ret
  refine ⟨congrArg (fun z => Ending.returned (.int .i64 z)) ?_, Drawn0.refl _⟩
  have q := len8_is y (by rw [len8_size]; exact hv)
  have hb := lenN_8 y hv
  unfold len8 at q
  rw [q]
  clear q e hv b0 b1 b2 e0
  generalize lenN y = r at *
  rw [w64n (r : Int) (by omega), w64n _ (by omega)]
  omega
set_option maxHeartbeats 2000000 in
set_option maxRecDepth 100000 in
theorem len_101 (x y t : Nat) (w : World) (b0 : decide (4294967296 ≤ (x : Int)) = true) (e0 : (x : Int) / 4294967296 = (y : Int)) (b1 : decide (65536 ≤ (y : Int)) = false) (b2 : decide (256 ≤ (y : Int)) = true) (e2 : (y : Int) / 256 = (t : Int)) (hv : t < 256) (e : (t : Int) % 256 = (t : Int)) :
    Calls Try.prog 69 #[.int .u64 (x : Int)] w fun e w' => e = .returned (.int .i64 ((40 + lenN t : Nat) : Int)) ∧ Drawn0 w w' := by
  go_enter Try.func69, Try.ntmps69
  go_wp2
  go_ret
  refine ⟨congrArg (fun z => Ending.returned (.int .i64 z)) ?_, Drawn0.refl _⟩
  have q := len8_is t (by rw [len8_size]; exact hv)
  have hb := lenN_8 t hv
  unfold len8 at q
  rw [q]
  clear q e hv b0 b1 b2 e0 e2
  generalize lenN t = r at *
  rw [w64n (r : Int) (by omega), w64n _ (by omega)]
  omega
set_option maxHeartbeats 2000000 in
set_option maxRecDepth 100000 in
theorem len_110 (x y z : Nat) (w : World) (b0 : decide (4294967296 ≤ (x : Int)) = true) (e0 : (x : Int) / 4294967296 = (y : Int)) (b1 : decide (65536 ≤ (y : Int)) = true) (e1 : (y : Int) / 65536 = (z : Int)) (b2 : decide (256 ≤ (z : Int)) = false) (hv : z < 256) (e : (z : Int) % 256 = (z : Int)) :
    Calls Try.prog 69 #[.int .u64 (x : Int)] w fun e w' => e = .returned (.int .i64 ((48 + lenN z : Nat) : Int)) ∧ Drawn0 w w' := by
  go_enter Try.func69, Try.ntmps69
  go_wp2
  go_ret
  refine ⟨congrArg (fun z => Ending.returned (.int .i64 z)) ?_, Drawn0.refl _⟩
  have q := len8_is z (by rw [len8_size]; exact hv)
  have hb := lenN_8 z hv
  unfold len8 at q
  rw [q]
  clear q e hv b0 b1 b2 e0 e1
  generalize lenN z = r at *
  rw [w64n (r : Int) (by omega), w64n _ (by omega)]
  omega
set_option maxHeartbeats 2000000 in
set_option maxRecDepth 100000 in
theorem len_111 (x y z t : Nat) (w : World) (b0 : decide (4294967296 ≤ (x : Int)) = true) (e0 : (x : Int) / 4294967296 = (y : Int)) (b1 : decide (65536 ≤ (y : Int)) = true) (e1 : (y : Int) / 65536 = (z : Int)) (b2 : decide (256 ≤ (z : Int)) = true) (e2 : (z : Int) / 256 = (t : Int)) (hv : t < 256) (e : (t : Int) % 256 = (t : Int)) :
    Calls Try.prog 69 #[.int .u64 (x : Int)] w fun e w' => e = .returned (.int .i64 ((56 + lenN t : Nat) : Int)) ∧ Drawn0 w w' := by
  go_enter Try.func69, Try.ntmps69
  go_wp2
  go_ret
  refine ⟨congrArg (fun z => Ending.returned (.int .i64 z)) ?_, Drawn0.refl _⟩
  have q := len8_is t (by rw [len8_size]; exact hv)
  have hb := lenN_8 t hv
  unfold len8 at q
  rw [q]
  clear q e hv b0 b1 b2 e0 e1 e2
  generalize lenN t = r at *
  rw [w64n (r : Int) (by omega), w64n _ (by omega)]
  omega
def bits_Len64.f (a0 : Int) : Option Int := if 0 ≤ a0 ∧ a0 < 18446744073709551616 then some ((lenN a0.toNat : Nat) : Int) else none
theorem bits_Len64.calls (a0 : Int) (r : Int) (w : World) (h : bits_Len64.f a0 = some r) :
    Calls Try.prog 69 #[.int .u64 a0] w fun e w' => e = .returned (.int .i64 r) ∧ Drawn0 w w' := by
  unfold bits_Len64.f at h
  split at h
  case isFalse => cases h
  rename_i h0
  obtain ⟨x, rfl⟩ := Int.eq_ofNat_of_zero_le h0.1
  rw [Int.toNat_natCast] at h
  obtain rfl := Option.some.inj h
  have hx : x < 18446744073709551616 := by omega
  clear h h0
  by_cases c0 : 4294967296 ≤ x
  · by_cases c1 : 65536 ≤ x / 4294967296
    · by_cases c2 : 256 ≤ x / 4294967296 / 65536
      · have ll : lenN x = 56 + lenN (((x / 4294967296) / 65536) / 256) := by
          rw [lenN_div x 32 (by omega), show (2 : Nat) ^ 32 = 4294967296 from rfl, lenN_div (x / 4294967296) 16 (by omega), show (2 : Nat) ^ 16 = 65536 from rfl, lenN_div ((x / 4294967296) / 65536) 8 (by omega), show (2 : Nat) ^ 8 = 256 from rfl]
          omega
        rw [ll]
        exact len_111 x (x / 4294967296) ((x / 4294967296) / 65536) (((x / 4294967296) / 65536) / 256) w (decide_eq_true (by omega)) (by omega) (decide_eq_true (by omega)) (by omega) (decide_eq_true (by omega)) (by omega) (by omega) (by omega)
      · have ll : lenN x = 48 + lenN ((x / 4294967296) / 65536) := by
          rw [lenN_div x 32 (by omega), show (2 : Nat) ^ 32 = 4294967296 from rfl, lenN_div (x / 4294967296) 16 (by omega), show (2 : Nat) ^ 16 = 65536 from rfl]
          omega
        rw [ll]
        exact len_110 x (x / 4294967296) ((x / 4294967296) / 65536) w (decide_eq_true (by omega)) (by omega) (decide_eq_true (by omega)) (by omega) (decide_eq_false (by omega)) (by omega) (by omega)
    · by_cases c2 : 256 ≤ x / 4294967296
      · have ll : lenN x = 40 + lenN ((x / 4294967296) / 256) := by
          rw [lenN_div x 32 (by omega), show (2 : Nat) ^ 32 = 4294967296 from rfl, lenN_div (x / 4294967296) 8 (by omega), show (2 : Nat) ^ 8 = 256 from rfl]
          omega
        rw [ll]
        exact len_101 x (x / 4294967296) ((x / 4294967296) / 256) w (decide_eq_true (by omega)) (by omega) (decide_eq_false (by omega)) (decide_eq_true (by omega)) (by omega) (by omega) (by omega)
      · have ll : lenN x = 32 + lenN (x / 4294967296) := by
          rw [lenN_div x 32 (by omega), show (2 : Nat) ^ 32 = 4294967296 from rfl]
        rw [ll]
        exact len_100 x (x / 4294967296) w (decide_eq_true (by omega)) (by omega) (decide_eq_false (by omega)) (decide_eq_false (by omega)) (by omega) (by omega)
  · by_cases c1 : 65536 ≤ x
    · by_cases c2 : 256 ≤ x / 65536
      · have ll : lenN x = 24 + lenN ((x / 65536) / 256) := by
          rw [lenN_div x 16 (by omega), show (2 : Nat) ^ 16 = 65536 from rfl, lenN_div (x / 65536) 8 (by omega), show (2 : Nat) ^ 8 = 256 from rfl]
          omega
        rw [ll]
        exact len_011 x (x / 65536) ((x / 65536) / 256) w (decide_eq_false (by omega)) (decide_eq_true (by omega)) (by omega) (decide_eq_true (by omega)) (by omega) (by omega) (by omega)
      · have ll : lenN x = 16 + lenN (x / 65536) := by
          rw [lenN_div x 16 (by omega), show (2 : Nat) ^ 16 = 65536 from rfl]
        rw [ll]
        exact len_010 x (x / 65536) w (decide_eq_false (by omega)) (decide_eq_true (by omega)) (by omega) (decide_eq_false (by omega)) (by omega) (by omega)
    · by_cases c2 : 256 ≤ x
      · have ll : lenN x = 8 + lenN (x / 256) := by
          rw [lenN_div x 8 (by omega), show (2 : Nat) ^ 8 = 256 from rfl]
        rw [ll]
        exact len_001 x (x / 256) w (decide_eq_false (by omega)) (decide_eq_false (by omega)) (decide_eq_true (by omega)) (by omega) (by omega) (by omega)
      · rw [show lenN x = 0 + lenN x by omega]
        exact len_000 x w (decide_eq_false (by omega)) (decide_eq_false (by omega)) (decide_eq_false (by omega)) (by omega) (by omega)

/-! ### bits_Len: function 61 -/
def bits_Len.f (a0 : Int) : Option (Int) := (bits_Len64.f a0).bind fun t107 => (some t107)
set_option maxHeartbeats 8000000 in
set_option maxRecDepth 100000 in
theorem bits_Len.calls (a0 : Int) (r : Int) (w : World) (h : bits_Len.f a0 = some r) :
    Calls Try.prog 61 #[.int .u64 a0] w fun e w' => e = .returned (.int .i64 r) ∧ Drawn0 w w' := by
  have H : ((bits_Len64.f a0).bind fun t107 => (some t107)) = some r := h
  clear h
  replace H := Option.bind_eq_some_iff.mp H
  obtain ⟨t107, A20, H⟩ := H
  replace H : (some t107) = some r := H
  have A2 := Aside0.mk A20
  clear A20
  obtain rfl := Option.some.inj H
  go_enter Try.func61, Try.ntmps61
  go_wp2_with (first | ((with_reducible refine gate_callee (f := 69) rfl ?_); refine goesL_ (some 7) rfl rfl Try.func69 (by kernel_rfl) rfl #[.int .u64 a0] rfl (by (try simp only [List.map_toArray, List.map_cons, List.map_nil]); first | done | rfl | (simp only [List.length_drop, List.length_take]; rfl)) ?_; (with_reducible refine (bits_Len64.calls a0 t107 _ A2.out).mono ?_); rintro e w' ⟨rfl, ⟨nd, rfl⟩⟩; refine ⟨_, rfl, ?_⟩))
  go_ret
  exact ⟨by first | rfl | (simp; done) | (simp [*]; done), by repeat (first | exact Drawn0.refl _ | apply Drawn0.step)⟩


/-! ### bigall_nat_bitLen: function 48 -/
def bigall_nat_bitLen.f (l0 : List Int) : Option (Int) := if (wrap64 ((l0.length : Int) - 1)) ≥ 0 then (if 0 ≤ (wrap64 ((l0.length : Int) - 1)) then (if (wrap64 ((l0.length : Int) - 1)) < (l0.length : Int) then ((bits_Len.f (Go.bits .or .u64 (Go.bits .or .u64 (Go.bits .or .u64 (Go.bits .or .u64 (Go.bits .or .u64 (Go.bits .or .u64 (rd l0 (wrap64 ((l0.length : Int) - 1))) ((rd l0 (wrap64 ((l0.length : Int) - 1))) / 2)) ((Go.bits .or .u64 (rd l0 (wrap64 ((l0.length : Int) - 1))) ((rd l0 (wrap64 ((l0.length : Int) - 1))) / 2)) / 4)) ((Go.bits .or .u64 (Go.bits .or .u64 (rd l0 (wrap64 ((l0.length : Int) - 1))) ((rd l0 (wrap64 ((l0.length : Int) - 1))) / 2)) ((Go.bits .or .u64 (rd l0 (wrap64 ((l0.length : Int) - 1))) ((rd l0 (wrap64 ((l0.length : Int) - 1))) / 2)) / 4)) / 16)) ((Go.bits .or .u64 (Go.bits .or .u64 (Go.bits .or .u64 (rd l0 (wrap64 ((l0.length : Int) - 1))) ((rd l0 (wrap64 ((l0.length : Int) - 1))) / 2)) ((Go.bits .or .u64 (rd l0 (wrap64 ((l0.length : Int) - 1))) ((rd l0 (wrap64 ((l0.length : Int) - 1))) / 2)) / 4)) ((Go.bits .or .u64 (Go.bits .or .u64 (rd l0 (wrap64 ((l0.length : Int) - 1))) ((rd l0 (wrap64 ((l0.length : Int) - 1))) / 2)) ((Go.bits .or .u64 (rd l0 (wrap64 ((l0.length : Int) - 1))) ((rd l0 (wrap64 ((l0.length : Int) - 1))) / 2)) / 4)) / 16)) / 256)) ((Go.bits .or .u64 (Go.bits .or .u64 (Go.bits .or .u64 (Go.bits .or .u64 (rd l0 (wrap64 ((l0.length : Int) - 1))) ((rd l0 (wrap64 ((l0.length : Int) - 1))) / 2)) ((Go.bits .or .u64 (rd l0 (wrap64 ((l0.length : Int) - 1))) ((rd l0 (wrap64 ((l0.length : Int) - 1))) / 2)) / 4)) ((Go.bits .or .u64 (Go.bits .or .u64 (rd l0 (wrap64 ((l0.length : Int) - 1))) ((rd l0 (wrap64 ((l0.length : Int) - 1))) / 2)) ((Go.bits .or .u64 (rd l0 (wrap64 ((l0.length : Int) - 1))) ((rd l0 (wrap64 ((l0.length : Int) - 1))) / 2)) / 4)) / 16)) ((Go.bits .or .u64 (Go.bits .or .u64 (Go.bits .or .u64 (rd l0 (wrap64 ((l0.length : Int) - 1))) ((rd l0 (wrap64 ((l0.length : Int) - 1))) / 2)) ((Go.bits .or .u64 (rd l0 (wrap64 ((l0.length : Int) - 1))) ((rd l0 (wrap64 ((l0.length : Int) - 1))) / 2)) / 4)) ((Go.bits .or .u64 (Go.bits .or .u64 (rd l0 (wrap64 ((l0.length : Int) - 1))) ((rd l0 (wrap64 ((l0.length : Int) - 1))) / 2)) ((Go.bits .or .u64 (rd l0 (wrap64 ((l0.length : Int) - 1))) ((rd l0 (wrap64 ((l0.length : Int) - 1))) / 2)) / 4)) / 16)) / 256)) / 65536)) (((Go.bits .or .u64 (Go.bits .or .u64 (Go.bits .or .u64 (Go.bits .or .u64 (Go.bits .or .u64 (rd l0 (wrap64 ((l0.length : Int) - 1))) ((rd l0 (wrap64 ((l0.length : Int) - 1))) / 2)) ((Go.bits .or .u64 (rd l0 (wrap64 ((l0.length : Int) - 1))) ((rd l0 (wrap64 ((l0.length : Int) - 1))) / 2)) / 4)) ((Go.bits .or .u64 (Go.bits .or .u64 (rd l0 (wrap64 ((l0.length : Int) - 1))) ((rd l0 (wrap64 ((l0.length : Int) - 1))) / 2)) ((Go.bits .or .u64 (rd l0 (wrap64 ((l0.length : Int) - 1))) ((rd l0 (wrap64 ((l0.length : Int) - 1))) / 2)) / 4)) / 16)) ((Go.bits .or .u64 (Go.bits .or .u64 (Go.bits .or .u64 (rd l0 (wrap64 ((l0.length : Int) - 1))) ((rd l0 (wrap64 ((l0.length : Int) - 1))) / 2)) ((Go.bits .or .u64 (rd l0 (wrap64 ((l0.length : Int) - 1))) ((rd l0 (wrap64 ((l0.length : Int) - 1))) / 2)) / 4)) ((Go.bits .or .u64 (Go.bits .or .u64 (rd l0 (wrap64 ((l0.length : Int) - 1))) ((rd l0 (wrap64 ((l0.length : Int) - 1))) / 2)) ((Go.bits .or .u64 (rd l0 (wrap64 ((l0.length : Int) - 1))) ((rd l0 (wrap64 ((l0.length : Int) - 1))) / 2)) / 4)) / 16)) / 256)) ((Go.bits .or .u64 (Go.bits .or .u64 (Go.bits .or .u64 (Go.bits .or .u64 (rd l0 (wrap64 ((l0.length : Int) - 1))) ((rd l0 (wrap64 ((l0.length : Int) - 1))) / 2)) ((Go.bits .or .u64 (rd l0 (wrap64 ((l0.length : Int) - 1))) ((rd l0 (wrap64 ((l0.length : Int) - 1))) / 2)) / 4)) ((Go.bits .or .u64 (Go.bits .or .u64 (rd l0 (wrap64 ((l0.length : Int) - 1))) ((rd l0 (wrap64 ((l0.length : Int) - 1))) / 2)) ((Go.bits .or .u64 (rd l0 (wrap64 ((l0.length : Int) - 1))) ((rd l0 (wrap64 ((l0.length : Int) - 1))) / 2)) / 4)) / 16)) ((Go.bits .or .u64 (Go.bits .or .u64 (Go.bits .or .u64 (rd l0 (wrap64 ((l0.length : Int) - 1))) ((rd l0 (wrap64 ((l0.length : Int) - 1))) / 2)) ((Go.bits .or .u64 (rd l0 (wrap64 ((l0.length : Int) - 1))) ((rd l0 (wrap64 ((l0.length : Int) - 1))) / 2)) / 4)) ((Go.bits .or .u64 (Go.bits .or .u64 (rd l0 (wrap64 ((l0.length : Int) - 1))) ((rd l0 (wrap64 ((l0.length : Int) - 1))) / 2)) ((Go.bits .or .u64 (rd l0 (wrap64 ((l0.length : Int) - 1))) ((rd l0 (wrap64 ((l0.length : Int) - 1))) / 2)) / 4)) / 16)) / 256)) / 65536)) / 65536) / 65536))).bind fun t109 => (some (wrap64 ((wrap64 ((wrap64 ((l0.length : Int) - 1)) * 64)) + t109)))) else (none)) else (none)) else (some 0)
set_option maxHeartbeats 8000000 in
set_option maxRecDepth 100000 in
theorem bigall_nat_bitLen.calls (A0 : Option Addr) (c0 : Nat) (l0 : List Int) (r : Int) (w : World) (hr0 : Kd.C (Kd.int .u64) w A0 l0.length l0) (hc0 : l0.length ≤ c0) (h : bigall_nat_bitLen.f l0 = some r) :
    Calls Try.prog 48 #[.slice A0 l0.length c0] w fun e w' => e = .returned (.int .i64 r) ∧ Drawn0 w w' := by
  have HR0 := Aside0.mk hr0
  have HC0 := Aside0.mk hc0
  clear hr0 hc0
  have H : (if (wrap64 ((l0.length : Int) - 1)) ≥ 0 then (if 0 ≤ (wrap64 ((l0.length : Int) - 1)) then (if (wrap64 ((l0.length : Int) - 1)) < (l0.length : Int) then ((bits_Len.f (Go.bits .or .u64 (Go.bits .or .u64 (Go.bits .or .u64 (Go.bits .or .u64 (Go.bits .or .u64 (Go.bits .or .u64 (rd l0 (wrap64 ((l0.length : Int) - 1))) ((rd l0 (wrap64 ((l0.length : Int) - 1))) / 2)) ((Go.bits .or .u64 (rd l0 (wrap64 ((l0.length : Int) - 1))) ((rd l0 (wrap64 ((l0.length : Int) - 1))) / 2)) / 4)) ((Go.bits .or .u64 (Go.bits .or .u64 (rd l0 (wrap64 ((l0.length : Int) - 1))) ((rd l0 (wrap64 ((l0.length : Int) - 1))) / 2)) ((Go.bits .or .u64 (rd l0 (wrap64 ((l0.length : Int) - 1))) ((rd l0 (wrap64 ((l0.length : Int) - 1))) / 2)) / 4)) / 16)) ((Go.bits .or .u64 (Go.bits .or .u64 (Go.bits .or .u64 (rd l0 (wrap64 ((l0.length : Int) - 1))) ((rd l0 (wrap64 ((l0.length : Int) - 1))) / 2)) ((Go.bits .or .u64 (rd l0 (wrap64 ((l0.length : Int) - 1))) ((rd l0 (wrap64 ((l0.length : Int) - 1))) / 2)) / 4)) ((Go.bits .or .u64 (Go.bits .or .u64 (rd l0 (wrap64 ((l0.length : Int) - 1))) ((rd l0 (wrap64 ((l0.length : Int) - 1))) / 2)) ((Go.bits .or .u64 (rd l0 (wrap64 ((l0.length : Int) - 1))) ((rd l0 (wrap64 ((l0.length : Int) - 1))) / 2)) / 4)) / 16)) / 256)) ((Go.bits .or .u64 (Go.bits .or .u64 (Go.bits .or .u64 (Go.bits .or .u64 (rd l0 (wrap64 ((l0.length : Int) - 1))) ((rd l0 (wrap64 ((l0.length : Int) - 1))) / 2)) ((Go.bits .or .u64 (rd l0 (wrap64 ((l0.length : Int) - 1))) ((rd l0 (wrap64 ((l0.length : Int) - 1))) / 2)) / 4)) ((Go.bits .or .u64 (Go.bits .or .u64 (rd l0 (wrap64 ((l0.length : Int) - 1))) ((rd l0 (wrap64 ((l0.length : Int) - 1))) / 2)) ((Go.bits .or .u64 (rd l0 (wrap64 ((l0.length : Int) - 1))) ((rd l0 (wrap64 ((l0.length : Int) - 1))) / 2)) / 4)) / 16)) ((Go.bits .or .u64 (Go.bits .or .u64 (Go.bits .or .u64 (rd l0 (wrap64 ((l0.length : Int) - 1))) ((rd l0 (wrap64 ((l0.length : Int) - 1))) / 2)) ((Go.bits .or .u64 (rd l0 (wrap64 ((l0.length : Int) - 1))) ((rd l0 (wrap64 ((l0.length : Int) - 1))) / 2)) / 4)) ((Go.bits .or .u64 (Go.bits .or .u64 (rd l0 (wrap64 ((l0.length : Int) - 1))) ((rd l0 (wrap64 ((l0.length : Int) - 1))) / 2)) ((Go.bits .or .u64 (rd l0 (wrap64 ((l0.length : Int) - 1))) ((rd l0 (wrap64 ((l0.length : Int) - 1))) / 2)) / 4)) / 16)) / 256)) / 65536)) (((Go.bits .or .u64 (Go.bits .or .u64 (Go.bits .or .u64 (Go.bits .or .u64 (Go.bits .or .u64 (rd l0 (wrap64 ((l0.length : Int) - 1))) ((rd l0 (wrap64 ((l0.length : Int) - 1))) / 2)) ((Go.bits .or .u64 (rd l0 (wrap64 ((l0.length : Int) - 1))) ((rd l0 (wrap64 ((l0.length : Int) - 1))) / 2)) / 4)) ((Go.bits .or .u64 (Go.bits .or .u64 (rd l0 (wrap64 ((l0.length : Int) - 1))) ((rd l0 (wrap64 ((l0.length : Int) - 1))) / 2)) ((Go.bits .or .u64 (rd l0 (wrap64 ((l0.length : Int) - 1))) ((rd l0 (wrap64 ((l0.length : Int) - 1))) / 2)) / 4)) / 16)) ((Go.bits .or .u64 (Go.bits .or .u64 (Go.bits .or .u64 (rd l0 (wrap64 ((l0.length : Int) - 1))) ((rd l0 (wrap64 ((l0.length : Int) - 1))) / 2)) ((Go.bits .or .u64 (rd l0 (wrap64 ((l0.length : Int) - 1))) ((rd l0 (wrap64 ((l0.length : Int) - 1))) / 2)) / 4)) ((Go.bits .or .u64 (Go.bits .or .u64 (rd l0 (wrap64 ((l0.length : Int) - 1))) ((rd l0 (wrap64 ((l0.length : Int) - 1))) / 2)) ((Go.bits .or .u64 (rd l0 (wrap64 ((l0.length : Int) - 1))) ((rd l0 (wrap64 ((l0.length : Int) - 1))) / 2)) / 4)) / 16)) / 256)) ((Go.bits .or .u64 (Go.bits .or .u64 (Go.bits .or .u64 (Go.bits .or .u64 (rd l0 (wrap64 ((l0.length : Int) - 1))) ((rd l0 (wrap64 ((l0.length : Int) - 1))) / 2)) ((Go.bits .or .u64 (rd l0 (wrap64 ((l0.length : Int) - 1))) ((rd l0 (wrap64 ((l0.length : Int) - 1))) / 2)) / 4)) ((Go.bits .or .u64 (Go.bits .or .u64 (rd l0 (wrap64 ((l0.length : Int) - 1))) ((rd l0 (wrap64 ((l0.length : Int) - 1))) / 2)) ((Go.bits .or .u64 (rd l0 (wrap64 ((l0.length : Int) - 1))) ((rd l0 (wrap64 ((l0.length : Int) - 1))) / 2)) / 4)) / 16)) ((Go.bits .or .u64 (Go.bits .or .u64 (Go.bits .or .u64 (rd l0 (wrap64 ((l0.length : Int) - 1))) ((rd l0 (wrap64 ((l0.length : Int) - 1))) / 2)) ((Go.bits .or .u64 (rd l0 (wrap64 ((l0.length : Int) - 1))) ((rd l0 (wrap64 ((l0.length : Int) - 1))) / 2)) / 4)) ((Go.bits .or .u64 (Go.bits .or .u64 (rd l0 (wrap64 ((l0.length : Int) - 1))) ((rd l0 (wrap64 ((l0.length : Int) - 1))) / 2)) ((Go.bits .or .u64 (rd l0 (wrap64 ((l0.length : Int) - 1))) ((rd l0 (wrap64 ((l0.length : Int) - 1))) / 2)) / 4)) / 16)) / 256)) / 65536)) / 65536) / 65536))).bind fun t109 => (some (wrap64 ((wrap64 ((wrap64 ((l0.length : Int) - 1)) * 64)) + t109)))) else (none)) else (none)) else (some 0)) = some r := h
  clear h
  by_cases c2 : (wrap64 ((l0.length : Int) - 1)) ≥ 0
  · rw [if_pos c2] at H
    have c2b0 : decide (0 ≤ (wrap64 ((l0.length : Int) - 1))) = true := decide_eq_true c2
    clear c2
    obtain ⟨ji3, hji3⟩ : ∃ j_ : Int, (wrap64 ((l0.length : Int) - 1)) = j_ := ⟨_, rfl⟩
    replace H : (if 0 ≤ (ji3) then (if (ji3) < (l0.length : Int) then ((bits_Len.f (Go.bits .or .u64 (Go.bits .or .u64 (Go.bits .or .u64 (Go.bits .or .u64 (Go.bits .or .u64 (Go.bits .or .u64 (rd l0 (ji3)) ((rd l0 (ji3)) / 2)) ((Go.bits .or .u64 (rd l0 (ji3)) ((rd l0 (ji3)) / 2)) / 4)) ((Go.bits .or .u64 (Go.bits .or .u64 (rd l0 (ji3)) ((rd l0 (ji3)) / 2)) ((Go.bits .or .u64 (rd l0 (ji3)) ((rd l0 (ji3)) / 2)) / 4)) / 16)) ((Go.bits .or .u64 (Go.bits .or .u64 (Go.bits .or .u64 (rd l0 (ji3)) ((rd l0 (ji3)) / 2)) ((Go.bits .or .u64 (rd l0 (ji3)) ((rd l0 (ji3)) / 2)) / 4)) ((Go.bits .or .u64 (Go.bits .or .u64 (rd l0 (ji3)) ((rd l0 (ji3)) / 2)) ((Go.bits .or .u64 (rd l0 (ji3)) ((rd l0 (ji3)) / 2)) / 4)) / 16)) / 256)) ((Go.bits .or .u64 (Go.bits .or .u64 (Go.bits .or .u64 (Go.bits .or .u64 (rd l0 (ji3)) ((rd l0 (ji3)) / 2)) ((Go.bits .or .u64 (rd l0 (ji3)) ((rd l0 (ji3)) / 2)) / 4)) ((Go.bits .or .u64 (Go.bits .or .u64 (rd l0 (ji3)) ((rd l0 (ji3)) / 2)) ((Go.bits .or .u64 (rd l0 (ji3)) ((rd l0 (ji3)) / 2)) / 4)) / 16)) ((Go.bits .or .u64 (Go.bits .or .u64 (Go.bits .or .u64 (rd l0 (ji3)) ((rd l0 (ji3)) / 2)) ((Go.bits .or .u64 (rd l0 (ji3)) ((rd l0 (ji3)) / 2)) / 4)) ((Go.bits .or .u64 (Go.bits .or .u64 (rd l0 (ji3)) ((rd l0 (ji3)) / 2)) ((Go.bits .or .u64 (rd l0 (ji3)) ((rd l0 (ji3)) / 2)) / 4)) / 16)) / 256)) / 65536)) (((Go.bits .or .u64 (Go.bits .or .u64 (Go.bits .or .u64 (Go.bits .or .u64 (Go.bits .or .u64 (rd l0 (ji3)) ((rd l0 (ji3)) / 2)) ((Go.bits .or .u64 (rd l0 (ji3)) ((rd l0 (ji3)) / 2)) / 4)) ((Go.bits .or .u64 (Go.bits .or .u64 (rd l0 (ji3)) ((rd l0 (ji3)) / 2)) ((Go.bits .or .u64 (rd l0 (ji3)) ((rd l0 (ji3)) / 2)) / 4)) / 16)) ((Go.bits .or .u64 (Go.bits .or .u64 (Go.bits .or .u64 (rd l0 (ji3)) ((rd l0 (ji3)) / 2)) ((Go.bits .or .u64 (rd l0 (ji3)) ((rd l0 (ji3)) / 2)) / 4)) ((Go.bits .or .u64 (Go.bits .or .u64 (rd l0 (ji3)) ((rd l0 (ji3)) / 2)) ((Go.bits .or .u64 (rd l0 (ji3)) ((rd l0 (ji3)) / 2)) / 4)) / 16)) / 256)) ((Go.bits .or .u64 (Go.bits .or .u64 (Go.bits .or .u64 (Go.bits .or .u64 (rd l0 (ji3)) ((rd l0 (ji3)) / 2)) ((Go.bits .or .u64 (rd l0 (ji3)) ((rd l0 (ji3)) / 2)) / 4)) ((Go.bits .or .u64 (Go.bits .or .u64 (rd l0 (ji3)) ((rd l0 (ji3)) / 2)) ((Go.bits .or .u64 (rd l0 (ji3)) ((rd l0 (ji3)) / 2)) / 4)) / 16)) ((Go.bits .or .u64 (Go.bits .or .u64 (Go.bits .or .u64 (rd l0 (ji3)) ((rd l0 (ji3)) / 2)) ((Go.bits .or .u64 (rd l0 (ji3)) ((rd l0 (ji3)) / 2)) / 4)) ((Go.bits .or .u64 (Go.bits .or .u64 (rd l0 (ji3)) ((rd l0 (ji3)) / 2)) ((Go.bits .or .u64 (rd l0 (ji3)) ((rd l0 (ji3)) / 2)) / 4)) / 16)) / 256)) / 65536)) / 65536) / 65536))).bind fun t109 => (some (wrap64 ((wrap64 ((ji3) * 64)) + t109)))) else (none)) else (none)) = some r := by first | (rw [hji3] at H; exact H) | (simp only [hji3] at H ⊢; exact H)
    (try rw [hji3] at c2b0)
    have hji3w : (IntKind.i64.wrap ((l0.length : Int) - 1)) = ji3 := (i64_w _).trans hji3
    by_cases c4 : 0 ≤ (ji3)
    · rw [if_pos c4] at H
      have c4b0 : decide (0 ≤ (ji3)) = true := decide_eq_true c4
      clear c4
      by_cases c5 : (ji3) < (l0.length : Int)
      · rw [if_pos c5] at H
        have c5b0 : decide ((ji3) < (l0.length : Int)) = true := decide_eq_true c5
        clear c5
        replace H := Option.bind_eq_some_iff.mp H
        obtain ⟨t109, A60, H⟩ := H
        replace H : (some (wrap64 ((wrap64 ((ji3) * 64)) + t109))) = some r := H
        have A6 := Aside0.mk A60
        clear A60
        obtain rfl := Option.some.inj H
        have p108 : 0 ≤ ((ji3) : Int) := of_decide_eq_true (by first | (with_reducible assumption) | assumption)
        have q108 : (ji3) < (l0.length : Int) := of_decide_eq_true (by first | (with_reducible assumption) | assumption)
        obtain ⟨ad108, e108, hx108_0⟩ := Kd.at_int HR0.out (ji3) p108 q108
        cases e108
        replace p108 := eq_true p108
        replace q108 := eq_true q108
        go_enter Try.func48, Try.ntmps48
        go_wp2_with (first | ((with_reducible refine gate_callee (f := 61) rfl ?_); refine goesL_ (some 42) rfl rfl Try.func61 (by kernel_rfl) rfl #[.int .u64 (Go.bits .or .u64 (Go.bits .or .u64 (Go.bits .or .u64 (Go.bits .or .u64 (Go.bits .or .u64 (Go.bits .or .u64 (rd l0 (ji3)) ((rd l0 (ji3)) / 2)) ((Go.bits .or .u64 (rd l0 (ji3)) ((rd l0 (ji3)) / 2)) / 4)) ((Go.bits .or .u64 (Go.bits .or .u64 (rd l0 (ji3)) ((rd l0 (ji3)) / 2)) ((Go.bits .or .u64 (rd l0 (ji3)) ((rd l0 (ji3)) / 2)) / 4)) / 16)) ((Go.bits .or .u64 (Go.bits .or .u64 (Go.bits .or .u64 (rd l0 (ji3)) ((rd l0 (ji3)) / 2)) ((Go.bits .or .u64 (rd l0 (ji3)) ((rd l0 (ji3)) / 2)) / 4)) ((Go.bits .or .u64 (Go.bits .or .u64 (rd l0 (ji3)) ((rd l0 (ji3)) / 2)) ((Go.bits .or .u64 (rd l0 (ji3)) ((rd l0 (ji3)) / 2)) / 4)) / 16)) / 256)) ((Go.bits .or .u64 (Go.bits .or .u64 (Go.bits .or .u64 (Go.bits .or .u64 (rd l0 (ji3)) ((rd l0 (ji3)) / 2)) ((Go.bits .or .u64 (rd l0 (ji3)) ((rd l0 (ji3)) / 2)) / 4)) ((Go.bits .or .u64 (Go.bits .or .u64 (rd l0 (ji3)) ((rd l0 (ji3)) / 2)) ((Go.bits .or .u64 (rd l0 (ji3)) ((rd l0 (ji3)) / 2)) / 4)) / 16)) ((Go.bits .or .u64 (Go.bits .or .u64 (Go.bits .or .u64 (rd l0 (ji3)) ((rd l0 (ji3)) / 2)) ((Go.bits .or .u64 (rd l0 (ji3)) ((rd l0 (ji3)) / 2)) / 4)) ((Go.bits .or .u64 (Go.bits .or .u64 (rd l0 (ji3)) ((rd l0 (ji3)) / 2)) ((Go.bits .or .u64 (rd l0 (ji3)) ((rd l0 (ji3)) / 2)) / 4)) / 16)) / 256)) / 65536)) (((Go.bits .or .u64 (Go.bits .or .u64 (Go.bits .or .u64 (Go.bits .or .u64 (Go.bits .or .u64 (rd l0 (ji3)) ((rd l0 (ji3)) / 2)) ((Go.bits .or .u64 (rd l0 (ji3)) ((rd l0 (ji3)) / 2)) / 4)) ((Go.bits .or .u64 (Go.bits .or .u64 (rd l0 (ji3)) ((rd l0 (ji3)) / 2)) ((Go.bits .or .u64 (rd l0 (ji3)) ((rd l0 (ji3)) / 2)) / 4)) / 16)) ((Go.bits .or .u64 (Go.bits .or .u64 (Go.bits .or .u64 (rd l0 (ji3)) ((rd l0 (ji3)) / 2)) ((Go.bits .or .u64 (rd l0 (ji3)) ((rd l0 (ji3)) / 2)) / 4)) ((Go.bits .or .u64 (Go.bits .or .u64 (rd l0 (ji3)) ((rd l0 (ji3)) / 2)) ((Go.bits .or .u64 (rd l0 (ji3)) ((rd l0 (ji3)) / 2)) / 4)) / 16)) / 256)) ((Go.bits .or .u64 (Go.bits .or .u64 (Go.bits .or .u64 (Go.bits .or .u64 (rd l0 (ji3)) ((rd l0 (ji3)) / 2)) ((Go.bits .or .u64 (rd l0 (ji3)) ((rd l0 (ji3)) / 2)) / 4)) ((Go.bits .or .u64 (Go.bits .or .u64 (rd l0 (ji3)) ((rd l0 (ji3)) / 2)) ((Go.bits .or .u64 (rd l0 (ji3)) ((rd l0 (ji3)) / 2)) / 4)) / 16)) ((Go.bits .or .u64 (Go.bits .or .u64 (Go.bits .or .u64 (rd l0 (ji3)) ((rd l0 (ji3)) / 2)) ((Go.bits .or .u64 (rd l0 (ji3)) ((rd l0 (ji3)) / 2)) / 4)) ((Go.bits .or .u64 (Go.bits .or .u64 (rd l0 (ji3)) ((rd l0 (ji3)) / 2)) ((Go.bits .or .u64 (rd l0 (ji3)) ((rd l0 (ji3)) / 2)) / 4)) / 16)) / 256)) / 65536)) / 65536) / 65536))] rfl (by (try simp only [List.map_toArray, List.map_cons, List.map_nil]); first | done | (simp only [hji3]; rfl) | rfl | (simp only [List.length_drop, List.length_take]; rfl)) ?_; (with_reducible refine (bits_Len.calls (Go.bits .or .u64 (Go.bits .or .u64 (Go.bits .or .u64 (Go.bits .or .u64 (Go.bits .or .u64 (Go.bits .or .u64 (rd l0 (ji3)) ((rd l0 (ji3)) / 2)) ((Go.bits .or .u64 (rd l0 (ji3)) ((rd l0 (ji3)) / 2)) / 4)) ((Go.bits .or .u64 (Go.bits .or .u64 (rd l0 (ji3)) ((rd l0 (ji3)) / 2)) ((Go.bits .or .u64 (rd l0 (ji3)) ((rd l0 (ji3)) / 2)) / 4)) / 16)) ((Go.bits .or .u64 (Go.bits .or .u64 (Go.bits .or .u64 (rd l0 (ji3)) ((rd l0 (ji3)) / 2)) ((Go.bits .or .u64 (rd l0 (ji3)) ((rd l0 (ji3)) / 2)) / 4)) ((Go.bits .or .u64 (Go.bits .or .u64 (rd l0 (ji3)) ((rd l0 (ji3)) / 2)) ((Go.bits .or .u64 (rd l0 (ji3)) ((rd l0 (ji3)) / 2)) / 4)) / 16)) / 256)) ((Go.bits .or .u64 (Go.bits .or .u64 (Go.bits .or .u64 (Go.bits .or .u64 (rd l0 (ji3)) ((rd l0 (ji3)) / 2)) ((Go.bits .or .u64 (rd l0 (ji3)) ((rd l0 (ji3)) / 2)) / 4)) ((Go.bits .or .u64 (Go.bits .or .u64 (rd l0 (ji3)) ((rd l0 (ji3)) / 2)) ((Go.bits .or .u64 (rd l0 (ji3)) ((rd l0 (ji3)) / 2)) / 4)) / 16)) ((Go.bits .or .u64 (Go.bits .or .u64 (Go.bits .or .u64 (rd l0 (ji3)) ((rd l0 (ji3)) / 2)) ((Go.bits .or .u64 (rd l0 (ji3)) ((rd l0 (ji3)) / 2)) / 4)) ((Go.bits .or .u64 (Go.bits .or .u64 (rd l0 (ji3)) ((rd l0 (ji3)) / 2)) ((Go.bits .or .u64 (rd l0 (ji3)) ((rd l0 (ji3)) / 2)) / 4)) / 16)) / 256)) / 65536)) (((Go.bits .or .u64 (Go.bits .or .u64 (Go.bits .or .u64 (Go.bits .or .u64 (Go.bits .or .u64 (rd l0 (ji3)) ((rd l0 (ji3)) / 2)) ((Go.bits .or .u64 (rd l0 (ji3)) ((rd l0 (ji3)) / 2)) / 4)) ((Go.bits .or .u64 (Go.bits .or .u64 (rd l0 (ji3)) ((rd l0 (ji3)) / 2)) ((Go.bits .or .u64 (rd l0 (ji3)) ((rd l0 (ji3)) / 2)) / 4)) / 16)) ((Go.bits .or .u64 (Go.bits .or .u64 (Go.bits .or .u64 (rd l0 (ji3)) ((rd l0 (ji3)) / 2)) ((Go.bits .or .u64 (rd l0 (ji3)) ((rd l0 (ji3)) / 2)) / 4)) ((Go.bits .or .u64 (Go.bits .or .u64 (rd l0 (ji3)) ((rd l0 (ji3)) / 2)) ((Go.bits .or .u64 (rd l0 (ji3)) ((rd l0 (ji3)) / 2)) / 4)) / 16)) / 256)) ((Go.bits .or .u64 (Go.bits .or .u64 (Go.bits .or .u64 (Go.bits .or .u64 (rd l0 (ji3)) ((rd l0 (ji3)) / 2)) ((Go.bits .or .u64 (rd l0 (ji3)) ((rd l0 (ji3)) / 2)) / 4)) ((Go.bits .or .u64 (Go.bits .or .u64 (rd l0 (ji3)) ((rd l0 (ji3)) / 2)) ((Go.bits .or .u64 (rd l0 (ji3)) ((rd l0 (ji3)) / 2)) / 4)) / 16)) ((Go.bits .or .u64 (Go.bits .or .u64 (Go.bits .or .u64 (rd l0 (ji3)) ((rd l0 (ji3)) / 2)) ((Go.bits .or .u64 (rd l0 (ji3)) ((rd l0 (ji3)) / 2)) / 4)) ((Go.bits .or .u64 (Go.bits .or .u64 (rd l0 (ji3)) ((rd l0 (ji3)) / 2)) ((Go.bits .or .u64 (rd l0 (ji3)) ((rd l0 (ji3)) / 2)) / 4)) / 16)) / 256)) / 65536)) / 65536) / 65536)) t109 _ A6.out).mono ?_); rintro e w' ⟨rfl, ⟨nd, rfl⟩⟩; refine ⟨_, rfl, ?_⟩))
        go_ret
        exact ⟨by first | rfl | (simp; done) | (simp only [← hji3] <;> (first | rfl | simp)) | (simp [*]; done), by repeat (first | exact Drawn0.refl _ | apply Drawn0.step)⟩
      · rw [if_neg c5] at H
        exact absurd H (by simp)
    · rw [if_neg c4] at H
      exact absurd H (by simp)
  · rw [if_neg c2] at H
    have c2b0 : decide (0 ≤ (wrap64 ((l0.length : Int) - 1))) = false := decide_eq_false c2
    clear c2
    obtain rfl := Option.some.inj H
    go_enter Try.func48, Try.ntmps48
    go_wp2
    go_ret
    exact ⟨by first | rfl | (simp; done) | (simp [*]; done), by repeat (first | exact Drawn0.refl _ | apply Drawn0.step)⟩


/-! ### impl_Wide_u: function 11 -/
def impl_Wide_u.f (a0_0 : Int) (a0_1 : Int) : Option (Int × Int) := some (a0_0, a0_1)
set_option maxHeartbeats 8000000 in
set_option maxRecDepth 100000 in
theorem impl_Wide_u.calls (a0_0 : Int) (a0_1 : Int) (r1 : Int) (r2 : Int) (w : World) (h : impl_Wide_u.f a0_0 a0_1 = some (r1, r2)) :
    Calls Try.prog 11 #[.agg #[.int .u64 a0_0, .int .u64 a0_1]] w fun e w' => e = .returned (.agg #[.int .u64 r1, .int .u64 r2]) ∧ Below w.heap.size w w' := by
  have hu24 := Try.underlying24
  have hu38 := Try.underlying38
  have HB := Aside0.mk (Below.refl w.heap.size w)
  have H : (some (a0_0, a0_1)) = some (r1, r2) := h
  clear h
  simp only [Option.some.injEq, Prod.mk.injEq] at H
  obtain ⟨rfl, rfl⟩ := H
  go_enter Try.func11, Try.ntmps11
  go_wp2_with (first | ((with_reducible refine gate_dst (N := 1) rfl ?_); refine box_event ?hg (N := 1) ?hd (cs := #[.int .u64 a0_0, .int .u64 a0_1]) (t := 24) ?hr ?_; (case hd => rfl); (case hg => rfl); (case hr => first | (go_simp; done) | (go_simp; rfl)); intro gb110 hg w2 hbox hb; have n0_ := Aside0.mk (below_step (by repeat (first | (with_reducible first | exact HB.out | apply below_alloc | apply pw_below_drewN | apply below_drew1) | exact HB.out)) hb); have n1_ := Aside0.mk (hbox); have n2_ := Aside0.mk ((by rw [hg]; exact (below_size (by repeat (first | (with_reducible first | exact HB.out | apply below_alloc | apply pw_below_drewN | apply below_drew1) | exact HB.out))) : w.heap.size ≤ gb110)); have n3_ := Aside0.mk ((by rw [hg]; exact (below_size (by repeat (first | (with_reducible first | exact HB.out | apply below_alloc | apply pw_below_drewN | apply below_drew1) | exact HB.out))) : w.heap.size ≤ gb110)); clear HB; have HB := n0_; have BK110 := n1_; have GW110 := n2_; have GE110 := n3_; clear n0_ n1_ n2_ n3_; clear hb hbox hg) | ((with_reducible refine gate_dst (N := 2) rfl ?_); refine box_event ?hg (N := 2) ?hd (cs := #[.int .u64 0, .int .u64 0]) (t := 38) ?hr ?_; (case hd => rfl); (case hg => rfl); (case hr => first | (go_simp; done) | (go_simp; rfl)); intro gb111 hg w3 hbox hb; have n0_ := Aside0.mk (blk_below (g := gb110) (o := .cells #[.int .u64 a0_0, .int .u64 a0_1] 24 (0, 0)) (by (with_reducible repeat (first | refine blk_drewN ?_ _ | refine blk_drew ?_ | refine blk_alloc ?_ _)); exact BK110.out) hb); have n1_ := Aside0.mk (below_step (by repeat (first | (with_reducible first | exact HB.out | apply below_alloc | apply pw_below_drewN | apply below_drew1 | refine below_set ?_ GE110.out) | exact HB.out)) hb); have n2_ := Aside0.mk (hbox); have n3_ := Aside0.mk ((by rw [hg]; exact (below_size (by repeat (first | (with_reducible first | exact HB.out | apply below_alloc | apply pw_below_drewN | apply below_drew1 | refine below_set ?_ GE110.out) | exact HB.out))) : w.heap.size ≤ gb111)); have n4_ := Aside0.mk ((by rw [hg]; exact (below_size (by repeat (first | (with_reducible first | exact HB.out | apply below_alloc | apply pw_below_drewN | apply below_drew1 | refine below_set ?_ GE110.out) | exact HB.out))) : w.heap.size ≤ gb111)); have n5_ := Aside0.mk ((by rw [hg]; exact Nat.ne_of_lt (blk_lt (g := gb110) (o := .cells #[.int .u64 a0_0, .int .u64 a0_1] 24 (0, 0)) (by (with_reducible repeat (first | refine blk_drewN ?_ _ | refine blk_drew ?_ | refine blk_alloc ?_ _)); exact BK110.out)) : gb110 ≠ gb111)); have n6_ := Aside0.mk ((by rw [hg]; exact Nat.ne_of_gt (blk_lt (g := gb110) (o := .cells #[.int .u64 a0_0, .int .u64 a0_1] 24 (0, 0)) (by (with_reducible repeat (first | refine blk_drewN ?_ _ | refine blk_drew ?_ | refine blk_alloc ?_ _)); exact BK110.out)) : gb111 ≠ gb110)); clear BK110; clear HB; have BK110 := n0_; have HB := n1_; have BK111 := n2_; have GW111 := n3_; have GE111 := n4_; have NB110_111 := n5_; have NB111_110 := n6_; clear n0_ n1_ n2_ n3_ n4_ n5_ n6_; clear hb hbox hg; have hnb4 := NB110_111.out; have hnc4 := NB111_110.out; have hcz5_0 : w3.cell? ⟨gb110, 0, none⟩ = some (.int .u64 a0_0) := (blk_cell BK110.out 0).trans rfl; have hcz5_1 : w3.cell? ⟨gb110, 1, none⟩ = some (.int .u64 a0_1) := (blk_cell BK110.out 1).trans rfl; have hfz5_0 := blk_frozen BK110.out 0; have hfz5_1 := blk_frozen BK110.out 1; have hcz6_0 : w3.cell? ⟨gb111, 0, none⟩ = some (.int .u64 0) := (blk_cell BK111.out 0).trans rfl; have hcz6_1 : w3.cell? ⟨gb111, 1, none⟩ = some (.int .u64 0) := (blk_cell BK111.out 1).trans rfl; have hfz6_0 := blk_frozen BK111.out 0; have hfz6_1 := blk_frozen BK111.out 1))
  refine bodyPost_ret (results_cell_row rfl _ _ gb111 38 #[.int .u64 a0_0, .int .u64 a0_1] (0, 0) _ rfl (by (with_reducible repeat (first | refine blk_drewN ?_ _ | refine blk_drew ?_ | refine blk_alloc ?_ _)); refine blk_put (cs := #[.int .u64 a0_0, .int .u64 0]) ?_ 1 _ rfl; (with_reducible repeat (first | refine blk_drewN ?_ _ | refine blk_drew ?_ | refine blk_alloc ?_ _)); refine blk_put (cs := #[.int .u64 0, .int .u64 0]) ?_ 0 _ rfl; (with_reducible repeat (first | refine blk_drewN ?_ _ | refine blk_drew ?_ | refine blk_alloc ?_ _)); exact BK111.out) Try.underlying38 rfl (by kernel_rfl)) rfl ?_
  exact ⟨by first | rfl | (simp [errW_none, errW_some] <;> rfl) | (simp [*, errW_none, errW_some] <;> rfl), by repeat (first | (with_reducible first | exact HB.out | apply below_alloc | apply pw_below_drewN | apply below_drew1 | refine below_set ?_ GE110.out | refine below_set ?_ GE111.out) | exact HB.out)⟩


/-! ### impl_wide: function 20 -/
def impl_wide.f (a0_0 : Int) (a0_1 : Int) : Option (Int × Int) := some (a0_0, a0_1)
set_option maxHeartbeats 8000000 in
set_option maxRecDepth 100000 in
theorem impl_wide.calls (a0_0 : Int) (a0_1 : Int) (r1 : Int) (r2 : Int) (w : World) (h : impl_wide.f a0_0 a0_1 = some (r1, r2)) :
    Calls Try.prog 20 #[.agg #[.int .u64 a0_0, .int .u64 a0_1]] w fun e w' => e = .returned (.agg #[.int .u64 r1, .int .u64 r2]) ∧ Below w.heap.size w w' := by
  have hu38 := Try.underlying38
  have hu24 := Try.underlying24
  have HB := Aside0.mk (Below.refl w.heap.size w)
  have H : (some (a0_0, a0_1)) = some (r1, r2) := h
  clear h
  simp only [Option.some.injEq, Prod.mk.injEq] at H
  obtain ⟨rfl, rfl⟩ := H
  go_enter Try.func20, Try.ntmps20
  go_wp2_with (first | ((with_reducible refine gate_dst (N := 1) rfl ?_); refine box_event ?hg (N := 1) ?hd (cs := #[.int .u64 a0_0, .int .u64 a0_1]) (t := 38) ?hr ?_; (case hd => rfl); (case hg => rfl); (case hr => first | (go_simp; done) | (go_simp; rfl)); intro gb112 hg w2 hbox hb; have n0_ := Aside0.mk (below_step (by repeat (first | (with_reducible first | exact HB.out | apply below_alloc | apply pw_below_drewN | apply below_drew1) | exact HB.out)) hb); have n1_ := Aside0.mk (hbox); have n2_ := Aside0.mk ((by rw [hg]; exact (below_size (by repeat (first | (with_reducible first | exact HB.out | apply below_alloc | apply pw_below_drewN | apply below_drew1) | exact HB.out))) : w.heap.size ≤ gb112)); have n3_ := Aside0.mk ((by rw [hg]; exact (below_size (by repeat (first | (with_reducible first | exact HB.out | apply below_alloc | apply pw_below_drewN | apply below_drew1) | exact HB.out))) : w.heap.size ≤ gb112)); clear HB; have HB := n0_; have BK112 := n1_; have GW112 := n2_; have GE112 := n3_; clear n0_ n1_ n2_ n3_; clear hb hbox hg) | ((with_reducible refine gate_dst (N := 2) rfl ?_); refine box_event ?hg (N := 2) ?hd (cs := #[.int .u64 0, .int .u64 0]) (t := 24) ?hr ?_; (case hd => rfl); (case hg => rfl); (case hr => first | (go_simp; done) | (go_simp; rfl)); intro gb113 hg w3 hbox hb; have n0_ := Aside0.mk (blk_below (g := gb112) (o := .cells #[.int .u64 a0_0, .int .u64 a0_1] 38 (0, 0)) (by (with_reducible repeat (first | refine blk_drewN ?_ _ | refine blk_drew ?_ | refine blk_alloc ?_ _)); exact BK112.out) hb); have n1_ := Aside0.mk (below_step (by repeat (first | (with_reducible first | exact HB.out | apply below_alloc | apply pw_below_drewN | apply below_drew1 | refine below_set ?_ GE112.out) | exact HB.out)) hb); have n2_ := Aside0.mk (hbox); have n3_ := Aside0.mk ((by rw [hg]; exact (below_size (by repeat (first | (with_reducible first | exact HB.out | apply below_alloc | apply pw_below_drewN | apply below_drew1 | refine below_set ?_ GE112.out) | exact HB.out))) : w.heap.size ≤ gb113)); have n4_ := Aside0.mk ((by rw [hg]; exact (below_size (by repeat (first | (with_reducible first | exact HB.out | apply below_alloc | apply pw_below_drewN | apply below_drew1 | refine below_set ?_ GE112.out) | exact HB.out))) : w.heap.size ≤ gb113)); have n5_ := Aside0.mk ((by rw [hg]; exact Nat.ne_of_lt (blk_lt (g := gb112) (o := .cells #[.int .u64 a0_0, .int .u64 a0_1] 38 (0, 0)) (by (with_reducible repeat (first | refine blk_drewN ?_ _ | refine blk_drew ?_ | refine blk_alloc ?_ _)); exact BK112.out)) : gb112 ≠ gb113)); have n6_ := Aside0.mk ((by rw [hg]; exact Nat.ne_of_gt (blk_lt (g := gb112) (o := .cells #[.int .u64 a0_0, .int .u64 a0_1] 38 (0, 0)) (by (with_reducible repeat (first | refine blk_drewN ?_ _ | refine blk_drew ?_ | refine blk_alloc ?_ _)); exact BK112.out)) : gb113 ≠ gb112)); clear BK112; clear HB; have BK112 := n0_; have HB := n1_; have BK113 := n2_; have GW113 := n3_; have GE113 := n4_; have NB112_113 := n5_; have NB113_112 := n6_; clear n0_ n1_ n2_ n3_ n4_ n5_ n6_; clear hb hbox hg; have hnb4 := NB112_113.out; have hnc4 := NB113_112.out; have hcz5_0 : w3.cell? ⟨gb112, 0, none⟩ = some (.int .u64 a0_0) := (blk_cell BK112.out 0).trans rfl; have hcz5_1 : w3.cell? ⟨gb112, 1, none⟩ = some (.int .u64 a0_1) := (blk_cell BK112.out 1).trans rfl; have hfz5_0 := blk_frozen BK112.out 0; have hfz5_1 := blk_frozen BK112.out 1; have hcz6_0 : w3.cell? ⟨gb113, 0, none⟩ = some (.int .u64 0) := (blk_cell BK113.out 0).trans rfl; have hcz6_1 : w3.cell? ⟨gb113, 1, none⟩ = some (.int .u64 0) := (blk_cell BK113.out 1).trans rfl; have hfz6_0 := blk_frozen BK113.out 0; have hfz6_1 := blk_frozen BK113.out 1))
  refine bodyPost_ret (results_cell_row rfl _ _ gb113 24 #[.int .u64 a0_0, .int .u64 a0_1] (0, 0) _ rfl (by (with_reducible repeat (first | refine blk_drewN ?_ _ | refine blk_drew ?_ | refine blk_alloc ?_ _)); refine blk_put (cs := #[.int .u64 a0_0, .int .u64 0]) ?_ 1 _ rfl; (with_reducible repeat (first | refine blk_drewN ?_ _ | refine blk_drew ?_ | refine blk_alloc ?_ _)); refine blk_put (cs := #[.int .u64 0, .int .u64 0]) ?_ 0 _ rfl; (with_reducible repeat (first | refine blk_drewN ?_ _ | refine blk_drew ?_ | refine blk_alloc ?_ _)); exact BK113.out) Try.underlying24 rfl (by kernel_rfl)) rfl ?_
  exact ⟨by first | rfl | (simp [errW_none, errW_some] <;> rfl) | (simp [*, errW_none, errW_some] <;> rfl), by repeat (first | (with_reducible first | exact HB.out | apply below_alloc | apply pw_below_drewN | apply below_drew1 | refine below_set ?_ GE112.out | refine below_set ?_ GE113.out) | exact HB.out)⟩


/-! ### impl_Wide: function 16 -/
theorem tried_idle (p q : Addr) (w : World) :
    CallsD Try.prog 30 #[.pointer (some p), .pointer (some q)] .returning w fun e u' w' => e = .returned (.tuple #[]) ∧ u' = .returning ∧ w' = w := by
  refine callsD_of_wpS Try.func30 rfl fun c₀ cs hu => ?_
  apply wpS_seq
  apply wpS_region
  simp [wpOpsS, go_sem, recoverD, hu, Try.ntmps30, Exit.thenS]
  refine wpS_cond (t := false) (by simp [Act.eval, Array.replicate]) ?_
  simp only [Bool.false_eq_true, if_false]
  refine wpS_of_wp (wp_skip ?_)
  cases c₀
  simp_all [bodyPostS, results, Try.results30]
theorem tried_catch (g : Nat) (x0 x1 : Int) (y : Bool) (u : TypeId) (pv : Value) (older : List PanicEntry) (w : World)
    (hg : w.heap[g]? = some (.cells #[.int .u64 x0, .int .u64 x1] 24 (0, 0))) (hh : w.heap[g + 1]? = some (.cells #[.bool y] 4 (0, 0))) :
    CallsD Try.prog 30 #[.pointer (some ⟨g, 0, none⟩), .pointer (some ⟨g + 1, 0, none⟩)] (.panicking ({ v := .iface u pv, recovered := false } :: older)) w fun e u' w' =>
      e = .returned (.tuple #[]) ∧ u' = .panicking ({ v := .iface u pv, recovered := true } :: older) ∧
      w'.heap[g]? = some (.cells #[.int .u64 0, .int .u64 0] 24 (0, 0)) ∧ w'.heap[g + 1]? = some (.cells #[.bool false] 4 (0, 0)) ∧ Below g w w' := by
  have hp0 : w.cell? ⟨g, 0, none⟩ = some (.int .u64 x0) := by rw [blk_cell hg]; rfl
  have hp1 : w.cell? ⟨g, 1, none⟩ = some (.int .u64 x1) := by rw [blk_cell hg]; rfl
  have hq : w.cell? ⟨g + 1, 0, none⟩ = some (.bool y) := by rw [blk_cell hh]; rfl
  have fp0 : w.frozen? ⟨g, 0, none⟩ = false := blk_frozen hg 0
  have fp1 : w.frozen? ⟨g, 1, none⟩ = false := blk_frozen hg 1
  have fq : w.frozen? ⟨g + 1, 0, none⟩ = false := blk_frozen hh 0
  have lg := blk_lt hg
  have lh := blk_lt hh
  have HG := Lib.hid hg
  have HH := Lib.hid hh
  clear hg hh
  refine callsD_of_wpS Try.func30 rfl fun c₀ cs hu => ?_
  apply wpS_seq
  apply wpS_region
  simp [wpOpsS, go_sem, recoverD, hu, Try.ntmps30, Exit.thenS]
  refine wpS_cond (t := true) (by simp [Act.eval, Array.replicate]) ?_
  simp only [if_true]
  refine wpS_of_wp ?_
  simp [Array.replicate]
  go_wp2
  have k0 := blk_set (blk_set HG.out 0 (.int .u64 0)) 1 (.int .u64 0)
  have k1 := blk_far (p := ⟨g + 1, 0, none⟩) k0 (by simp) (.bool false)
  have k2 := blk_far (p := ⟨g, 1, none⟩) (blk_far (p := ⟨g, 0, none⟩) HH.out (by simp) (.int .u64 0)) (by simp) (.int .u64 0)
  have k3 := blk_set k2 0 (.bool false)
  have HF : (((w.setCell ⟨g, 0, none⟩ (Value.int IntKind.u64 0)).setCell ⟨g, 1, none⟩ (Value.int IntKind.u64 0)).setCell ⟨g + 1, 0, none⟩ (Value.bool false)).heap.size = w.heap.size := by simp [World.setCell]
  have f1 := blk_alloc k1 (Obj.cells #[Value.int IntKind.u64 0, Value.int IntKind.u64 0] 24)
  have f2 := blk_alloc k3 (Obj.cells #[Value.int IntKind.u64 0, Value.int IntKind.u64 0] 24)
  have f3 : Below g w ((((w.setCell ⟨g, 0, none⟩ (Value.int IntKind.u64 0)).setCell ⟨g, 1, none⟩ (Value.int IntKind.u64 0)).setCell ⟨g + 1, 0, none⟩ (Value.bool false)).alloc (Obj.cells #[Value.int IntKind.u64 0, Value.int IntKind.u64 0] 24)) :=
    ((((Below.refl g w).setCell (p := ⟨g, 0, none⟩) (Nat.le_refl _) _).setCell (p := ⟨g, 1, none⟩) (Nat.le_refl _) _).setCell (p := ⟨g + 1, 0, none⟩) (by simp) _).alloc (by rw [HF]; omega) _
  exact ⟨rfl, _, rfl, .tuple #[], results_none rfl _ _ _, rfl, rfl, f1, f2, f3⟩
set_option maxHeartbeats 1000000 in
set_option maxRecDepth 100000 in
/-- What is tried returns. -/
theorem tried_ret (fid : Nat) (caps : Array Value) (x0 x1 : Int) (w : World)
    (hcf : ∀ (args : Array Value) (w : World), (callFunc fid args).run Try.prog w = .ok (.enter fid args) w)
    (hcl : Hid (∀ W : World, Below w.heap.size w W → Calls Try.prog fid caps W fun e W' => e = .returned (.agg #[.int .u64 x0, .int .u64 x1]) ∧ Below W.heap.size W W')) :
    Calls Try.prog 16 #[.func (.func fid) #[] caps] w fun e w' => e = .returned (.tuple #[.agg #[.int .u64 x0, .int .u64 x1], .bool true]) ∧ Below w.heap.size w w' := by
  have hmf : ∀ (fn : Fn) (first cap : Array Value) (w : World), (Instr.makeFunc fn first cap).run Try.prog w = .ok (.func fn first cap) w := fun _ _ _ _ => rfl
  go_enter_defers Try.func16, Try.ntmps16
  go_wp2_with fail
  refine (hcl.out _ (((Below.refl w.heap.size w).alloc (Nat.le_refl _) _).alloc (by simp) _)).mono ?_
  rintro e w1 ⟨rfl, hb⟩
  have g0 : w1.heap[w.heap.size]? = some (.cells #[.int .u64 0, .int .u64 0] 24 (0, 0)) := (hb.block _ (by simp; omega)).trans (blk_alloc (MapKept.heap_alloc w _).1 _)
  have g1 : w1.heap[w.heap.size + 1]? = some (.cells #[.bool false] 4 (0, 0)) := (hb.block _ (by simp)).trans (by have := (MapKept.heap_alloc (w.alloc (Obj.cells #[Value.int IntKind.u64 0, Value.int IntKind.u64 0] 24)) (Obj.cells #[Value.bool false] 4)).1; simpa using this)
  have c0 : w1.cell? ⟨w.heap.size, 0, none⟩ = some (.int .u64 0) := by rw [blk_cell g0]; rfl
  have c1 : w1.cell? ⟨w.heap.size, 1, none⟩ = some (.int .u64 0) := by rw [blk_cell g0]; rfl
  have c2 : w1.cell? ⟨w.heap.size + 1, 0, none⟩ = some (.bool false) := by rw [blk_cell g1]; rfl
  have z0 : w1.frozen? ⟨w.heap.size, 0, none⟩ = false := blk_frozen g0 0
  have z1 : w1.frozen? ⟨w.heap.size, 1, none⟩ = false := blk_frozen g0 1
  have z2 : w1.frozen? ⟨w.heap.size + 1, 0, none⟩ = false := blk_frozen g1 0
  have HB := Lib.hid hb
  have G0 := Lib.hid g0
  have G1 := Lib.hid g1
  clear hb g0 g1
  go_wp2
  have B : Below w.heap.size w w1 := (((Below.refl w.heap.size w).alloc (Nat.le_refl _) _).alloc (by simp) _).trans (HB.out.mono (by simp; omega))
  have k0 := blk_far (p := ⟨w.heap.size + 1, 0, none⟩) (blk_set (blk_set G0.out 0 (.int .u64 x0)) 1 (.int .u64 x1)) (by simp) (.bool true)
  have k1 := blk_set (blk_far (p := ⟨w.heap.size, 1, none⟩) (blk_far (p := ⟨w.heap.size, 0, none⟩) G1.out (by simp) (.int .u64 x0)) (by simp) (.int .u64 x1)) 0 (.bool true)
  refine leaves_cons (f := 30) (args := #[.pointer (some ⟨w.heap.size, 0, none⟩), .pointer (some ⟨w.heap.size + 1, 0, none⟩)]) (by simp) (by simp [go_sem]) ?_
  refine (tried_idle _ _ _).mono ?_
  rintro e u' w'' ⟨rfl, rfl, rfl⟩
  refine ⟨.tuple #[.agg #[.int .u64 x0, .int .u64 x1], .bool true], ?_, rfl, ((B.setCell (p := ⟨w.heap.size, 0, none⟩) (Nat.le_refl _) _).setCell (p := ⟨w.heap.size, 1, none⟩) (Nat.le_refl _) _).setCell (p := ⟨w.heap.size + 1, 0, none⟩) (by simp) _⟩
  have d0 := (blk_cell k0 0).trans (show _ = some (.int .u64 x0) from rfl)
  have d1 := (blk_cell k0 1).trans (show _ = some (.int .u64 x1) from rfl)
  have d2 := (blk_cell k1 0).trans (show _ = some (.bool true) from rfl)
  clear k0 k1
  generalize ((w1.setCell _ _).setCell _ _).setCell _ _ = W at d0 d1 d2 ⊢
  simp [results, Try.results16, go_sem, d0, d1, d2]
set_option maxHeartbeats 1000000 in
set_option maxRecDepth 100000 in
/-- What is tried panics. -/
theorem tried_panics (fid : Nat) (caps : Array Value) (w : World)
    (hcf : ∀ (args : Array Value) (w : World), (callFunc fid args).run Try.prog w = .ok (.enter fid args) w)
    (hcl : Hid (∀ W : World, Below w.heap.size w W → Calls Try.prog fid caps W fun e W' => (∃ pv, e = .panicked [{ v := .iface 9 pv, recovered := false }]) ∧ Below W.heap.size W W')) :
    Calls Try.prog 16 #[.func (.func fid) #[] caps] w fun e w' => e = .returned (.tuple #[.agg #[.int .u64 0, .int .u64 0], .bool false]) ∧ Below w.heap.size w w' := by
  have hmf : ∀ (fn : Fn) (first cap : Array Value) (w : World), (Instr.makeFunc fn first cap).run Try.prog w = .ok (.func fn first cap) w := fun _ _ _ _ => rfl
  go_enter_defers Try.func16, Try.ntmps16
  go_wp2_with fail
  refine (hcl.out _ (((Below.refl w.heap.size w).alloc (Nat.le_refl _) _).alloc (by simp) _)).mono ?_
  rintro e w1 ⟨⟨pv, rfl⟩, hb⟩
  have g0 : w1.heap[w.heap.size]? = some (.cells #[.int .u64 0, .int .u64 0] 24 (0, 0)) := (hb.block _ (by simp; omega)).trans (blk_alloc (MapKept.heap_alloc w _).1 _)
  have g1 : w1.heap[w.heap.size + 1]? = some (.cells #[.bool false] 4 (0, 0)) := (hb.block _ (by simp)).trans (by have := (MapKept.heap_alloc (w.alloc (Obj.cells #[Value.int IntKind.u64 0, Value.int IntKind.u64 0] 24)) (Obj.cells #[Value.bool false] 4)).1; simpa using this)
  have B : Below w.heap.size w w1 := (((Below.refl w.heap.size w).alloc (Nat.le_refl _) _).alloc (by simp) _).trans (hb.mono (by simp; omega))
  refine leaves_cons (f := 30) (args := #[.pointer (some ⟨w.heap.size, 0, none⟩), .pointer (some ⟨w.heap.size + 1, 0, none⟩)]) (by simp) (by simp [go_sem]) ?_
  refine (tried_catch w.heap.size 0 0 false 9 pv [] w1 g0 g1).mono ?_
  rintro e u' w2 ⟨rfl, rfl, k0, k1, hb2⟩
  refine ⟨.tuple #[.agg #[.int .u64 0, .int .u64 0], .bool false], ?_, rfl, B.trans hb2⟩
  have d0 := (blk_cell k0 0).trans (show _ = some (.int .u64 0) from rfl)
  have d1 := (blk_cell k0 1).trans (show _ = some (.int .u64 0) from rfl)
  have d2 := (blk_cell k1 0).trans (show _ = some (.bool false) from rfl)
  clear k0 k1
  simp [results, Try.results16, go_sem, d0, d1, d2]

end Go.Proofs.Ytjmgiodkfgdgnaa.PAll
