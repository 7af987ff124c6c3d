/- gobits.Div64, and uint128's QuoRem64, as whole numbers have them. -/
import Derived.Test.YtiifnofghicnaaaDoorDiv64
import Derived.Test.YtiifnofghicnaaaDoorQAllx3
namespace Go.Proofs.YtiifnofghicnaaaDoor.PAll
open Go.RowKit Go.Proofs.YtiifnofghicnaaaDoorW.PrintWords Go.Proofs.YtiifnofghicnaaaDoorW.PrintLast Go.Proofs.YtiifnofghicnaaaDoorW.PrintMore
theorem shl_n (x n : Nat) : shl .u64 (x : Int) (n : Int) = ((x * 2 ^ n % 18446744073709551616 : Nat) : Int) := by
  unfold shl
  rw [Int.toNat_natCast, IntKind.wrap_u64]
  have e : min n IntKind.u64.bits = min n 64 := rfl
  rw [e]
  have h1 : ((2 : Int) ^ (min n 64)) = ((2 ^ (min n 64) : Nat) : Int) := by simp
  rw [h1]
  have h2 : (x : Int) * ((2 ^ (min n 64) : Nat) : Int) = ((x * 2 ^ (min n 64) : Nat) : Int) := by simp
  rw [h2]
  have h3 : x * 2 ^ (min n 64) % 18446744073709551616 = x * 2 ^ n % 18446744073709551616 := by
    rcases Nat.le_total n 64 with h | h
    · rw [Nat.min_eq_left h]
    · rw [Nat.min_eq_right h]
      obtain ⟨d, rfl⟩ : ∃ d, n = 64 + d := ⟨n - 64, by omega⟩
      rw [Nat.pow_add, show (2 : Nat) ^ 64 = 18446744073709551616 from rfl, Nat.mul_mod_left, Nat.mul_comm 18446744073709551616, ← Nat.mul_assoc, Nat.mul_mod_left]
  rw [← h3]
  generalize x * 2 ^ (min n 64) = y
  omega
theorem shr_n (x n : Nat) (hx : x < 18446744073709551616) : shr .u64 (x : Int) (n : Int) = ((x / 2 ^ n : Nat) : Int) := by
  unfold shr
  rw [Int.toNat_natCast]
  have e : min n IntKind.u64.bits = min n 64 := rfl
  rw [e]
  have h3 : x / 2 ^ (min n 64) = x / 2 ^ n := by
    rcases Nat.le_total n 64 with h | h
    · rw [Nat.min_eq_left h]
    · rw [Nat.min_eq_right h, Nat.div_eq_of_lt (by exact hx), Nat.div_eq_of_lt (Nat.lt_of_lt_of_le (show x < 2 ^ 64 from hx) (Nat.pow_le_pow_right (by decide) h))]
  rw [← h3]
  simp
/-- The rest of a division, reckoned modulo 2^64. -/
theorem wrap_rest (A c D R : Nat) (h : A + c = D + R) (hR : R < 18446744073709551616) :
    IntKind.u64.wrap ((IntKind.u64.wrap ((IntKind.u64.wrap (A : Int)) + (c : Int))) - (IntKind.u64.wrap (D : Int))) = (R : Int) := by
  rw [IntKind.wrap_u64, IntKind.wrap_u64, IntKind.wrap_u64, IntKind.wrap_u64]
  omega
theorem two_aux (a b c Y q r : Nat) (hY : 0 < Y) (d : Y * q + r = a * 4294967296 + b) : (a * 18446744073709551616 + b * 4294967296 + c) / Y = q * 4294967296 + (r * 4294967296 + c) / Y ∧ (a * 18446744073709551616 + b * 4294967296 + c) % Y = (r * 4294967296 + c) % Y := by
  have e : a * 18446744073709551616 + b * 4294967296 + c = (r * 4294967296 + c) + Y * (q * 4294967296) := by
    have : Y * (q * 4294967296) = Y * q * 4294967296 := (Nat.mul_assoc ..).symm
    rw [this]
    generalize Y * q = P at *
    omega
  rw [e]
  constructor
  · rw [Nat.add_mul_div_left _ _ hY, Nat.add_comm]
  · rw [Nat.add_mul_mod_self_left]
theorem rest_w (a b : Nat) (ha : a < 18446744073709551616) : IntKind.u64.wrap ((a : Int) - (IntKind.u64.wrap (((a / b : Nat) : Int) * (b : Int)))) = ((a % b : Nat) : Int) := by
  have d := Nat.div_add_mod a b
  have e : a / b * b = b * (a / b) := Nat.mul_comm ..
  have h1 : a / b * b ≤ a := by omega
  rw [wu_mul _ _ (by omega), wu_sub _ _ h1 ha]
  congr 1
  omega
theorem shift_up (hi lo p t m : Nat) (h : 18446744073709551616 * t + m = lo * p) : (hi * 18446744073709551616 + lo) * p = (hi * p + t) * 18446744073709551616 + m := by
  rw [Nat.add_mul, Nat.add_mul, Nat.mul_right_comm hi, ← h, Nat.mul_comm t, Nat.add_assoc]
theorem tdiv_n (a b : Nat) : Int.tdiv (a : Int) (b : Int) = ((a / b : Nat) : Int) := (Int.ofNat_tdiv a b).symm
theorem tmod_n (a b : Nat) : Int.tmod (a : Int) (b : Int) = ((a % b : Nat) : Int) := (Int.ofNat_tmod a b).symm
theorem j4_law (i s Y yn1 yn0 un32 un1 un0 Q1 R1 Q0 R0 : Nat) (hY : Y = yn1 * 4294967296 + yn0) (h0 : yn0 < 4294967296) (h1 : 2147483648 ≤ yn1) (h2 : yn1 < 4294967296) (hun0 : un0 < 4294967296)
    (dm : Y * Q1 + R1 = un32 * 4294967296 + un1) (rl : R1 < Y) (hq1 : Q1 < 4294967296) (eQ0 : (R1 * 4294967296 + un0) / Y = Q0) (dm0 : Y * Q0 + R0 = R1 * 4294967296 + un0) (rl0 : R0 < Y) (hq0 : Q0 < 4294967296) :
    gobits_Div64.j4 ((i + 4) + 1) (Y : Int) (s : Int) (yn1 : Int) (yn0 : Int) (un32 : Int) (un1 : Int) (un0 : Int) (Q1 : Int) = some (((Q1 * 4294967296 + Q0 : Nat) : Int), ((R0 / 2 ^ s : Nat) : Int)) := by
  have hYl : Y < 18446744073709551616 := by omega
  have w1 := wrap_rest (un32 * 4294967296) un1 (Q1 * Y) R1 (by rw [Nat.mul_comm Q1 Y]; exact dm.symm) (by omega)
  rw [Int.natCast_mul, Int.natCast_mul, show ((4294967296 : Nat) : Int) = 4294967296 from rfl] at w1
  rw [gobits_Div64.j4, if_neg (by omega), w1, tdiv_n, wu (R1 / yn1) (Nat.lt_of_le_of_lt (Nat.div_le_self _ _) (by omega))]
  have w2 : IntKind.u64.wrap ((R1 : Int) - (IntKind.u64.wrap (((R1 / yn1 : Nat) : Int) * (yn1 : Int)))) = ((R1 % yn1 : Nat) : Int) := rest_w R1 yn1 (by omega)
  rw [w2, loop1 i (Y : Int) (s : Int) (Q1 : Int) (R1 : Int) yn1 yn0 R1 un0 h0 h1 h2 hun0 (by omega), ← hY, eQ0]
  have w3 := wrap_rest (R1 * 4294967296) un0 (Q0 * Y) R0 (by rw [Nat.mul_comm Q0 Y]; exact dm0.symm) (by omega)
  rw [Int.natCast_mul, Int.natCast_mul, show ((4294967296 : Nat) : Int) = 4294967296 from rfl] at w3
  have w4 : IntKind.u64.wrap ((IntKind.u64.wrap ((Q1 : Int) * 4294967296)) + (Q0 : Int)) = ((Q1 * 4294967296 + Q0 : Nat) : Int) := by
    have a := wu_mul Q1 4294967296 (by omega)
    rw [show ((4294967296 : Nat) : Int) = 4294967296 from rfl] at a
    rw [a, wu_add _ _ (by omega)]
  unfold fin2
  rw [if_pos (by omega), w3, w4, shr_n R0 s (by omega)]
/-- Normalized: the dividend's higher half un32, its digits un1, un0; the divisor's digits yn1, yn0. -/
theorem div_norm (k s Y yn1 yn0 un32 un1 un0 : Nat) (hY : Y = yn1 * 4294967296 + yn0) (h0 : yn0 < 4294967296) (h1 : 2147483648 ≤ yn1) (h2 : yn1 < 4294967296) (hun1 : un1 < 4294967296) (hun0 : un0 < 4294967296) (hlt : un32 < Y) :
    gobits_Div64.l0 (k + 10) (Y : Int) (s : Int) (yn1 : Int) (yn0 : Int) (un32 : Int) (un1 : Int) (un0 : Int) ((un32 / yn1 : Nat) : Int) ((un32 % yn1 : Nat) : Int) =
      some ((((un32 * 18446744073709551616 + un1 * 4294967296 + un0) / Y : Nat) : Int), (((un32 * 18446744073709551616 + un1 * 4294967296 + un0) % Y / 2 ^ s : Nat) : Int)) := by
  have hYp : 0 < Y := by omega
  obtain ⟨j, hj, e⟩ := loop0 (k + 6) (Y : Int) (s : Int) (un0 : Int) yn1 yn0 un32 un1 h0 h1 h2 hun1 (by omega)
  rw [show k + 6 + 4 = k + 10 from rfl] at e
  rw [e, ← hY]
  obtain ⟨i, rfl⟩ : ∃ i, j = (i + 4) + 1 := ⟨j - 5, by omega⟩
  have dm := Nat.div_add_mod (un32 * 4294967296 + un1) Y
  have rl := Nat.mod_lt (un32 * 4294967296 + un1) hYp
  obtain ⟨t1, t2⟩ := two_aux un32 un1 un0 Y _ _ hYp dm
  rw [t1, t2]
  exact j4_law i s Y yn1 yn0 un32 un1 un0 _ _ _ _ hY h0 h1 h2 hun0 dm rl (kn_lt un32 un1 Y hlt hun1) rfl (Nat.div_add_mod _ Y) (Nat.mod_lt _ hYp) (kn_lt _ un0 Y rl hun0)
theorem lead_n (y : Nat) (hy : y < 18446744073709551616) : bits_LeadingZeros64.f (y : Int) = some ((64 - lenN y : Nat) : Int) := by
  have hl : lenN y ≤ 64 := by
    unfold lenN
    split
    · omega
    · rename_i h0
      have := (Nat.log2_lt h0 (k := 64)).mpr hy
      omega
  have e : bits_Len64.f (y : Int) = some ((lenN y : Nat) : Int) := by
    unfold bits_Len64.f
    rw [if_pos (by omega), Int.toNat_natCast]
  unfold bits_LeadingZeros64.f
  rw [bnd e]
  refine congrArg some ?_
  generalize lenN y = l at *
  unfold wrap64
  omega
/-- What a shift by the number of the noughts ahead does. -/
theorem norm_y (y : Nat) (h0 : y ≠ 0) (hy : y < 18446744073709551616) : ∃ s, s = 64 - lenN y ∧ s < 64 ∧ 9223372036854775808 ≤ y * 2 ^ s ∧ y * 2 ^ s < 18446744073709551616 := by
  refine ⟨_, rfl, ?_⟩
  unfold lenN
  rw [if_neg h0]
  have l1 := Nat.log2_self_le h0
  have l2 := Nat.lt_log2_self (n := y)
  have l3 := (Nat.log2_lt h0 (k := 64)).mpr hy
  generalize y.log2 = l at *
  have p1 : 2 ^ l * 2 ^ (64 - (l + 1)) = 9223372036854775808 := by rw [← Nat.pow_add, show l + (64 - (l + 1)) = 63 by omega]
  have p2 : 2 ^ (l + 1) * 2 ^ (64 - (l + 1)) = 18446744073709551616 := by rw [← Nat.pow_add, show l + 1 + (64 - (l + 1)) = 64 by omega]
  have m1 := Nat.mul_le_mul_right (2 ^ (64 - (l + 1))) l1
  have m2 := Nat.mul_lt_mul_of_pos_right l2 (Nat.pow_pos (n := 64 - (l + 1)) (show 0 < 2 by decide))
  omega
set_option maxHeartbeats 1000000 in
theorem div64_law (k hi lo y : Nat) (hy : y < 18446744073709551616) (hlo : lo < 18446744073709551616) (hlt : hi < y) :
    gobits_Div64.f (k + 12) (hi : Int) (lo : Int) (y : Int) = some ((((hi * 18446744073709551616 + lo) / y : Nat) : Int), (((hi * 18446744073709551616 + lo) % y : Nat) : Int)) := by
  unfold gobits_Div64.f
  rw [if_neg (by omega), show k + 12 = (k + 11) + 1 from rfl, gobits_Div64.j0, if_neg (by omega), show k + 11 = (k + 10) + 1 from rfl, gobits_Div64.j1]
  by_cases h0 : hi = 0
  · subst h0
    rw [if_pos (show ((0 : Nat) : Int) = 0 from rfl), if_neg (by omega), tdiv_n, tmod_n, wu _ (Nat.lt_of_le_of_lt (Nat.div_le_self _ _) hlo)]
    simp
  · rw [if_neg (by omega), bnd (lead_n y hy)]
    obtain ⟨s, es, hs, y1, y2⟩ := norm_y y (by omega) hy
    rw [← es, wu s (by omega)]
    have e64 : IntKind.u64.wrap (64 - (s : Int)) = ((64 - s : Nat) : Int) := by
      have := wu_sub 64 s (by omega) (by decide)
      rw [show ((64 : Nat) : Int) = 64 from rfl] at this
      exact this
    have hp : 0 < 2 ^ s := Nat.pow_pos (by decide)
    have hps : 2 ^ s * 2 ^ (64 - s) = 18446744073709551616 := by rw [← Nat.pow_add, show s + (64 - s) = 64 by omega]
    have hu : hi * 2 ^ s < y * 2 ^ s := Nat.mul_lt_mul_of_pos_right hlt hp
    rw [if_pos (by omega), e64, if_pos (by omega), shl_n, shl_n, shl_n, shr_n lo _ hlo, Nat.mod_eq_of_lt y2, Nat.mod_eq_of_lt (Nat.lt_trans hu y2)]
    have el : lo * 2 ^ s / 18446744073709551616 = lo / 2 ^ (64 - s) := by
      rw [← hps, Nat.mul_comm (2 ^ s), Nat.mul_div_mul_right _ _ hp]
    have hl : lo / 2 ^ (64 - s) < 2 ^ s := Nat.div_lt_of_lt_mul (by rw [Nat.mul_comm, hps]; exact hlo)
    have eor : Go.bits .or .u64 ((hi * 2 ^ s : Nat) : Int) ((lo / 2 ^ (64 - s) : Nat) : Int) = ((hi * 2 ^ s + lo / 2 ^ (64 - s) : Nat) : Int) := by
      have o := u64_or_nat (hi * 2 ^ s) (lo / 2 ^ (64 - s)) (by omega) (Nat.lt_of_le_of_lt (Nat.div_le_self _ _) hlo)
      rw [o, Nat.mul_comm hi, ← Nat.two_pow_add_eq_or_of_lt hl]
    rw [eor]
    have hY : y * 2 ^ s / 4294967296 * 4294967296 + y * 2 ^ s % 4294967296 = y * 2 ^ s := by omega
    have hU : hi * 2 ^ s + lo / 2 ^ (64 - s) < y * 2 ^ s := by
      have : (hi + 1) * 2 ^ s ≤ y * 2 ^ s := Nat.mul_le_mul_right _ hlt
      rw [Nat.add_mul] at this
      omega
    have eU := shift_up hi lo (2 ^ s) (lo / 2 ^ (64 - s)) (lo * 2 ^ s % 18446744073709551616) (by rw [← el]; exact Nat.div_add_mod _ _)
    have q1 : (hi * 18446744073709551616 + lo) * 2 ^ s / (y * 2 ^ s) = (hi * 18446744073709551616 + lo) / y := Nat.mul_div_mul_right _ _ hp
    have q2 : (hi * 18446744073709551616 + lo) * 2 ^ s % (y * 2 ^ s) / 2 ^ s = (hi * 18446744073709551616 + lo) % y := by
      rw [Nat.mul_mod_mul_right, Nat.mul_div_cancel _ hp]
    rw [← q1, ← q2, eU]
    clear q1 q2 eU el hl eor hu hps e64 es hlt
    generalize hi * 2 ^ s + lo / 2 ^ (64 - s) = un32 at *
    generalize hun : lo * 2 ^ s % 18446744073709551616 = un10 at *
    have hun2 : un10 < 18446744073709551616 := by omega
    generalize y * 2 ^ s = Y at *
    have a1 : Go.bits .and .u64 (Y : Int) 4294967295 = ((Y % 4294967296 : Nat) : Int) := by
      have a := u64_and_nat Y 4294967295 y2 (by decide)
      rw [show (4294967295 : Nat) = 2 ^ 32 - 1 from rfl, Nat.and_two_pow_sub_one_eq_mod] at a
      exact a
    have a2 : Go.bits .and .u64 (un10 : Int) 4294967295 = ((un10 % 4294967296 : Nat) : Int) := by
      have a := u64_and_nat un10 4294967295 hun2 (by decide)
      rw [show (4294967295 : Nat) = 2 ^ 32 - 1 from rfl, Nat.and_two_pow_sub_one_eq_mod] at a
      exact a
    have d1 : (Y : Int) / 4294967296 = ((Y / 4294967296 : Nat) : Int) := by omega
    have d2 : (un10 : Int) / 4294967296 = ((un10 / 4294967296 : Nat) : Int) := by omega
    have e10 : un10 = un10 / 4294967296 * 4294967296 + un10 % 4294967296 := by omega
    have g1 : 2147483648 ≤ Y / 4294967296 := by omega
    have g2 : Y / 4294967296 < 4294967296 := by omega
    have g3 : un10 / 4294967296 < 4294967296 := by omega
    rw [a1, a2, d1, d2, if_neg (by omega), tdiv_n, wu _ (Nat.lt_of_le_of_lt (Nat.div_le_self _ _) (by omega))]
    have w2 := rest_w un32 (Y / 4294967296) (by omega)
    rw [w2]
    have n := div_norm k s Y (Y / 4294967296) (Y % 4294967296) un32 (un10 / 4294967296) (un10 % 4294967296) hY.symm (by omega) g1 g2 g3 (by omega) hU
    rw [Nat.add_assoc, ← e10] at n
    exact n
/-- uint128's QuoRem64. -/
theorem quorem64_law (k lo hi v : Nat) (hlo : lo < 18446744073709551616) (hhi : hi < 18446744073709551616) (hv : v < 18446744073709551616) (h0 : v ≠ 0) :
    uint128_Uint128_QuoRem64.f (k + 12) (lo : Int) (hi : Int) (v : Int) = some ((((hi * 18446744073709551616 + lo) / v % 18446744073709551616 : Nat) : Int), (((hi * 18446744073709551616 + lo) / v / 18446744073709551616 : Nat) : Int), (((hi * 18446744073709551616 + lo) % v : Nat) : Int)) := by
  unfold uint128_Uint128_QuoRem64.f
  by_cases h : hi < v
  · have q : (hi * 18446744073709551616 + lo) / v < 18446744073709551616 := by
      refine Nat.div_lt_of_lt_mul ?_
      have : (hi + 1) * 18446744073709551616 ≤ v * 18446744073709551616 := Nat.mul_le_mul_right _ h
      omega
    rw [if_pos (by omega), bnd (div64_law k hi lo v hv hlo h), Nat.mod_eq_of_lt q, Nat.div_eq_of_lt q]
    rfl
  · have d1 := div64_law k 0 hi v hv hhi (by omega)
    rw [Nat.zero_mul, Nat.zero_add, show ((0 : Nat) : Int) = 0 from rfl] at d1
    have rl : hi % v < v := Nat.mod_lt _ (by omega)
    rw [if_neg (by omega), bnd d1]
    show ((gobits_Div64.f (k + 12) ((hi % v : Nat) : Int) (lo : Int) (v : Int)).bind fun bt121 => (some (bt121.1, ((hi / v : Nat) : Int), bt121.2))) = _
    rw [bnd (div64_law k (hi % v) lo v hv hlo rl)]
    have dm := Nat.div_add_mod hi v
    have e : hi * 18446744073709551616 + lo = (hi % v * 18446744073709551616 + lo) + v * (hi / v * 18446744073709551616) := by
      have : v * (hi / v * 18446744073709551616) = v * (hi / v) * 18446744073709551616 := (Nat.mul_assoc ..).symm
      rw [this]
      generalize v * (hi / v) = P at *
      omega
    have q : (hi % v * 18446744073709551616 + lo) / v < 18446744073709551616 := by
      refine Nat.div_lt_of_lt_mul ?_
      have : (hi % v + 1) * 18446744073709551616 ≤ v * 18446744073709551616 := Nat.mul_le_mul_right _ rl
      omega
    rw [e, Nat.add_mul_div_left _ _ (by omega), Nat.add_mul_mod_self_left]
    generalize (hi % v * 18446744073709551616 + lo) / v = q0 at *
    generalize hi / v = q1 at *
    congr 2
    · omega
    · congr 1
      omega
end Go.Proofs.YtiifnofghicnaaaDoor.PAll
