/- uint128's QuoRem as whole numbers have it. -/
import Derived.Test.YtiifnofghicnaaaDoorDivLaw
import Derived.Test.YtiifnofghicnaaaDoorQAllx4
namespace Go.Proofs.YtiifnofghicnaaaDoor.PAll
open Go.RowKit Go.Proofs.YtiifnofghicnaaaDoorW.PrintWords Go.Proofs.YtiifnofghicnaaaDoorW.PrintLast Go.Proofs.YtiifnofghicnaaaDoorW.PrintMore
theorem halves_small (n : Nat) (h : n < 18446744073709551616) : halves n = ((n : Int), 0) := by
  unfold halves
  rw [Nat.mod_eq_of_lt h, Nat.div_eq_of_lt h]
  rfl
theorem halves_128 (n : Nat) (h : n < 340282366920938463463374607431768211456) : U64 (halves n).1 ∧ U64 (halves n).2 ∧ N128 (halves n).1 (halves n).2 = n := by
  unfold halves N128 U64
  simp only [Int.toNat_natCast]
  omega
/-- The trial quotient is the quotient, or one more. -/
theorem trial (u v p : Nat) (hp : 1 ≤ p) (hu : u < 340282366920938463463374607431768211456) (hv : 9223372036854775808 ≤ v / 2 ^ p) :
    u / v ≤ u / (v / 2 ^ p * 2 ^ p) ∧ (u / (v / 2 ^ p * 2 ^ p) - 1) * v ≤ u := by
  have h0 : 0 < 2 ^ p := Nat.pow_pos (by decide)
  have hD : 9223372036854775808 * 2 ^ p ≤ v / 2 ^ p * 2 ^ p := Nat.mul_le_mul_right _ hv
  have dm := Nat.div_add_mod v (2 ^ p)
  have ml := Nat.mod_lt v h0
  rw [Nat.mul_comm] at dm
  refine ⟨Nat.div_le_div_left (by omega) (by omega), ?_⟩
  have tD := Nat.div_mul_le_self u (v / 2 ^ p * 2 ^ p)
  generalize u / (v / 2 ^ p * 2 ^ p) = t at *
  generalize v / 2 ^ p = a at *
  by_cases ht : t = 0
  · rw [ht]
    simp
  have tP : t * (9223372036854775808 * 2 ^ p) ≤ u := Nat.le_trans (Nat.mul_le_mul_left _ hD) tD
  have e2 : t * (9223372036854775808 * 2 ^ p) = 9223372036854775808 * (t * 2 ^ p) := Nat.mul_left_comm ..
  have key : (t - 1) * (v % 2 ^ p) ≤ a * 2 ^ p := by
    rcases (by omega : p = 1 ∨ 2 ≤ p) with h1 | h2
    · subst h1
      have : (t - 1) * (v % 2 ^ 1) ≤ (t - 1) * 1 := Nat.mul_le_mul_left _ (by omega)
      omega
    · have h4 : 2 ^ 2 ≤ 2 ^ p := Nat.pow_le_pow_right (by decide) h2
      have m1 : (t - 1) * (v % 2 ^ p) ≤ t * 2 ^ p := Nat.mul_le_mul (by omega) (by omega)
      generalize t * 2 ^ p = T at *
      generalize (t - 1) * (v % 2 ^ p) = X at *
      generalize a * 2 ^ p = D at *
      generalize 2 ^ p = P at *
      omega
  have e1 : (t - 1) * (a * 2 ^ p) + a * 2 ^ p = t * (a * 2 ^ p) := by
    rw [← Nat.succ_mul]
    congr 1
    omega
  have e3 : (t - 1) * v = (t - 1) * (a * 2 ^ p) + (t - 1) * (v % 2 ^ p) := by
    rw [← Nat.mul_add, dm]
  omega
theorem j0_eq (k : Nat) (x10 a b c d : Int) : uint128_Uint128_QuoRem.j0 (k + 1) x10 a b c d = (uint128_From64.f x10).bind fun bt322 => ((uint128_Uint128_Mul64.f c d x10).bind fun bt324 => ((uint128_Uint128_Sub.f a b bt324.1 bt324.2).bind fun bt326 => ((uint128_Uint128_Cmp.f bt326.1 bt326.2 c d).bind fun t328 => (if t328 ≥ 0 then ((uint128_Uint128_Add64.f bt322.1 bt322.2 1).bind fun bt329 => ((uint128_Uint128_Sub.f bt326.1 bt326.2 c d).bind fun bt331 => (some (bt329.1, bt329.2, bt331.1, bt331.2)))) else (some (bt322.1, bt322.2, bt326.1, bt326.2)))))) := by
  rw [uint128_Uint128_QuoRem.j0]
theorem from_n (n : Nat) : uint128_From64.f (n : Int) = some ((n : Int), 0) := rfl
theorem mul64_n (vlo vhi t : Nat) (h1 : vlo < 18446744073709551616) (h2 : vhi < 18446744073709551616) (h3 : t < 18446744073709551616) (h : (vlo + vhi * 18446744073709551616) * t < 340282366920938463463374607431768211456) : uint128_Uint128_Mul64.f (vlo : Int) (vhi : Int) (t : Int) = some (halves ((vlo + vhi * 18446744073709551616) * t)) := by
  have e : N128 (vlo : Int) (vhi : Int) = vlo + vhi * 18446744073709551616 := by unfold N128; rw [Int.toNat_natCast, Int.toNat_natCast]
  unfold uint128_Uint128_Mul64.f
  rw [e, Int.toNat_natCast, if_pos ⟨⟨⟨by omega, by omega⟩, ⟨by omega, by omega⟩, ⟨by omega, by omega⟩⟩, h⟩]
theorem sub_n (a b c d : Int) (x y : Nat) (ha : U64 a) (hb : U64 b) (hc : U64 c) (hd : U64 d) (hx : N128 a b = x) (hy : N128 c d = y) (h : y ≤ x) : uint128_Uint128_Sub.f a b c d = some (halves (x - y)) := by
  unfold uint128_Uint128_Sub.f
  rw [hx, hy, if_pos ⟨ha, hb, hc, hd, h⟩]
theorem cmp_n (a b c d : Int) (x y : Nat) (ha : U64 a) (hb : U64 b) (hc : U64 c) (hd : U64 d) (hx : N128 a b = x) (hy : N128 c d = y) : ∃ t, uint128_Uint128_Cmp.f a b c d = some t ∧ (t ≥ 0 ↔ y ≤ x) := by
  refine ⟨_, rfl, ?_⟩
  obtain ⟨h1, h2⟩ := ha
  obtain ⟨h3, h4⟩ := hb
  obtain ⟨h5, h6⟩ := hc
  obtain ⟨h7, h8⟩ := hd
  unfold N128 at hx hy
  split <;> (try split) <;> omega
/-- Behind the trial quotient. -/
theorem j0_law (k t ulo uhi vlo vhi : Nat) (h1 : ulo < 18446744073709551616) (h2 : uhi < 18446744073709551616) (h3 : vlo < 18446744073709551616) (h4 : vhi < 18446744073709551616) (h0 : 0 < vhi)
    (ht : t ≤ (ulo + uhi * 18446744073709551616) / (vlo + vhi * 18446744073709551616)) (ht2 : (ulo + uhi * 18446744073709551616) / (vlo + vhi * 18446744073709551616) ≤ t + 1) :
    uint128_Uint128_QuoRem.j0 (k + 1) (t : Int) (ulo : Int) (uhi : Int) (vlo : Int) (vhi : Int) = some ((halves ((ulo + uhi * 18446744073709551616) / (vlo + vhi * 18446744073709551616))).1, (halves ((ulo + uhi * 18446744073709551616) / (vlo + vhi * 18446744073709551616))).2, (halves ((ulo + uhi * 18446744073709551616) % (vlo + vhi * 18446744073709551616))).1, (halves ((ulo + uhi * 18446744073709551616) % (vlo + vhi * 18446744073709551616))).2) := by
  have eu : N128 (ulo : Int) (uhi : Int) = ulo + uhi * 18446744073709551616 := by unfold N128; rw [Int.toNat_natCast, Int.toNat_natCast]
  have ev : N128 (vlo : Int) (vhi : Int) = vlo + vhi * 18446744073709551616 := by unfold N128; rw [Int.toNat_natCast, Int.toNat_natCast]
  have hu : ulo + uhi * 18446744073709551616 < 340282366920938463463374607431768211456 := by omega
  have hv : 18446744073709551616 ≤ vlo + vhi * 18446744073709551616 := by omega
  have hv2 : vlo + vhi * 18446744073709551616 < 340282366920938463463374607431768211456 := by omega
  have m64 := mul64_n vlo vhi t h3 h4
  have ua : U64 (ulo : Int) := ⟨by omega, by omega⟩
  have ub : U64 (uhi : Int) := ⟨by omega, by omega⟩
  have uc : U64 (vlo : Int) := ⟨by omega, by omega⟩
  have ud : U64 (vhi : Int) := ⟨by omega, by omega⟩
  generalize ulo + uhi * 18446744073709551616 = u at *
  generalize vlo + vhi * 18446744073709551616 = v at *
  have dm := Nat.div_add_mod u v
  have ml := Nat.mod_lt u (show 0 < v by omega)
  have q64 : u / v < 18446744073709551616 := Nat.div_lt_of_lt_mul (by
    have : 18446744073709551616 * 18446744073709551616 ≤ v * 18446744073709551616 := Nat.mul_le_mul_right _ hv
    omega)
  have tv : v * t ≤ v * (u / v) := Nat.mul_le_mul_left _ ht
  obtain ⟨p1, p2, p3⟩ := halves_128 (v * t) (by omega)
  obtain ⟨r1, r2, r3⟩ := halves_128 (u - v * t) (by omega)
  obtain ⟨c, c1, c2⟩ := cmp_n _ _ (vlo : Int) (vhi : Int) (u - v * t) v r1 r2 uc ud r3 ev
  have e1 : uint128_Uint128_Sub.f (ulo : Int) (uhi : Int) (halves (v * t)).1 (halves (v * t)).2 = some (halves (u - v * t)) := sub_n _ _ _ _ u (v * t) ua ub p1 p2 eu p3 (by omega)
  rw [j0_eq, bnd (from_n t), bnd (m64 (by omega) (by omega)), bnd e1, bnd c1]
  rcases (by omega : u / v = t ∨ u / v = t + 1) with hq | hq
  · have hr : u % v = u - v * t := by rw [← hq]; omega
    rw [if_neg (by rw [c2, ← hr]; omega), hq, hr, halves_small t (by omega)]
  · have e3 : v * (u / v) = v * t + v := by rw [hq, Nat.mul_add, Nat.mul_one]
    have hr : u % v = u - v * t - v := by omega
    have e2 : uint128_Uint128_Sub.f (halves (u - v * t)).1 (halves (u - v * t)).2 (vlo : Int) (vhi : Int) = some (halves (u - v * t - v)) := sub_n _ _ _ _ _ v r1 r2 uc ud r3 ev (by omega)
    have e4 : uint128_Uint128_Add64.f (t : Int) 0 1 = some (halves (t + 1)) := by
      unfold uint128_Uint128_Add64.f N128
      rw [Int.toNat_natCast, show (0 : Int).toNat = 0 from rfl, show (1 : Int).toNat = 1 from rfl, if_pos ⟨⟨by omega, by omega⟩, ⟨by omega, by omega⟩, ⟨by omega, by omega⟩, by omega⟩]
    rw [if_pos (c2.2 (by omega)), bnd e4, bnd e2, hq, hr]
set_option maxHeartbeats 1000000 in
theorem quorem_law (k ulo uhi vlo vhi : Nat) (h1 : ulo < 18446744073709551616) (h2 : uhi < 18446744073709551616) (h3 : vlo < 18446744073709551616) (h4 : vhi < 18446744073709551616) (h0 : vlo + vhi * 18446744073709551616 ≠ 0) :
    uint128_Uint128_QuoRem.f (k + 12) (ulo : Int) (uhi : Int) (vlo : Int) (vhi : Int) = some ((halves ((ulo + uhi * 18446744073709551616) / (vlo + vhi * 18446744073709551616))).1, (halves ((ulo + uhi * 18446744073709551616) / (vlo + vhi * 18446744073709551616))).2, (halves ((ulo + uhi * 18446744073709551616) % (vlo + vhi * 18446744073709551616))).1, (halves ((ulo + uhi * 18446744073709551616) % (vlo + vhi * 18446744073709551616))).2) := by
  unfold uint128_Uint128_QuoRem.f
  by_cases hz : vhi = 0
  · subst hz
    have q := quorem64_law k ulo uhi vlo h1 h2 h3 (by omega)
    rw [if_pos (show ((0 : Nat) : Int) = 0 from rfl), bnd q]
    show ((uint128_From64.f (((uhi * 18446744073709551616 + ulo) % vlo : Nat) : Int)).bind fun bt311 => (some ((((uhi * 18446744073709551616 + ulo) / vlo % 18446744073709551616 : Nat) : Int), (((uhi * 18446744073709551616 + ulo) / vlo / 18446744073709551616 : Nat) : Int), bt311.1, bt311.2))) = _
    rw [bnd (from_n _), Nat.zero_mul, Nat.add_zero, Nat.add_comm ulo]
    have ml := Nat.mod_lt (uhi * 18446744073709551616 + ulo) (show 0 < vlo by omega)
    have ql := Nat.div_le_self (uhi * 18446744073709551616 + ulo) vlo
    rw [halves_small ((uhi * 18446744073709551616 + ulo) % vlo) (by omega)]
    unfold halves
    rw [Nat.mod_eq_of_lt (show (uhi * 18446744073709551616 + ulo) / vlo / 18446744073709551616 < 18446744073709551616 by omega)]
  · rw [if_neg (by omega), bnd (lead_n vhi h4)]
    obtain ⟨n, en, hn, y1, y2⟩ := norm_y vhi hz h4
    rw [← en, wu n (by omega)]
    have hp : 0 < 2 ^ n := Nat.pow_pos (by decide)
    have hpn : 2 ^ n * 2 ^ (64 - n) = 18446744073709551616 := by rw [← Nat.pow_add, show n + (64 - n) = 64 by omega]
    have e64 : IntKind.u64.wrap (64 - (n : Int)) = ((64 - n : Nat) : Int) := by
      have := wu_sub 64 n (by omega) (by decide)
      rw [show ((64 : Nat) : Int) = 64 from rfl] at this
      exact this
    have e63 : IntKind.u64.wrap (63 - (n : Int)) = ((63 - n : Nat) : Int) := by
      have := wu_sub 63 n (by omega) (by decide)
      rw [show ((63 : Nat) : Int) = 63 from rfl] at this
      exact this
    have hl : vlo / 2 ^ (64 - n) < 2 ^ n := Nat.div_lt_of_lt_mul (by rw [Nat.mul_comm, hpn]; exact h3)
    have ev : vhi * 2 ^ n + vlo / 2 ^ (64 - n) = (vlo + vhi * 18446744073709551616) / 2 ^ (64 - n) := by
      rw [← hpn, ← Nat.mul_assoc, Nat.add_mul_div_right _ _ (Nat.pow_pos (by decide)), Nat.add_comm]
    have eor : Go.bits .or .u64 ((vhi * 2 ^ n : Nat) : Int) ((vlo / 2 ^ (64 - n) : Nat) : Int) = ((vhi * 2 ^ n + vlo / 2 ^ (64 - n) : Nat) : Int) := by
      have o := u64_or_nat (vhi * 2 ^ n) (vlo / 2 ^ (64 - n)) y2 (Nat.lt_of_le_of_lt (Nat.div_le_self _ _) h3)
      rw [o, Nat.mul_comm vhi, ← Nat.two_pow_add_eq_or_of_lt hl]
    have eL : uint128_Uint128_Lsh.f (vlo : Int) (vhi : Int) (n : Int) = some (((vlo * 2 ^ n % 18446744073709551616 : Nat) : Int), (((vlo + vhi * 18446744073709551616) / 2 ^ (64 - n) : Nat) : Int)) := by
      unfold uint128_Uint128_Lsh.f
      rw [if_neg (by omega), if_pos (by omega), e64, if_pos (by omega), shl_n, shl_n, shr_n vlo _ h3, Nat.mod_eq_of_lt y2, eor, ev]
    have eR : uint128_Uint128_Rsh.f (ulo : Int) (uhi : Int) 1 = some (((ulo / 2 + uhi % 2 * 9223372036854775808 : Nat) : Int), ((uhi / 2 : Nat) : Int)) := by
      have w1 : IntKind.u64.wrap (64 - (1 : Int)) = ((63 : Nat) : Int) := by decide
      have a := shl_n uhi 63
      have b := shr_n ulo 1 h1
      have c := shr_n uhi 1 h2
      rw [Nat.pow_one, show ((1 : Nat) : Int) = 1 from rfl] at b c
      have d : uhi * 2 ^ 63 % 18446744073709551616 = 2 ^ 63 * (uhi % 2) := by
        rw [show (2 : Nat) ^ 63 = 9223372036854775808 from rfl]
        omega
      rw [d] at a
      unfold uint128_Uint128_Rsh.f
      rw [if_neg (by decide), if_pos (by decide), w1, if_pos (by decide), a, b, c, u64_or_nat (ulo / 2) (2 ^ 63 * (uhi % 2)) (by omega) (by omega), Nat.or_comm, ← Nat.two_pow_add_eq_or_of_lt (by omega), show (2 : Nat) ^ 63 = 9223372036854775808 from rfl]
      congr 2
      congr 1
      omega
    have hv1 : 9223372036854775808 ≤ (vlo + vhi * 18446744073709551616) / 2 ^ (64 - n) := by rw [← ev]; exact Nat.le_trans y1 (Nat.le_add_right _ _)
    have hv2 : (vlo + vhi * 18446744073709551616) / 2 ^ (64 - n) < 18446744073709551616 := by
      rw [← ev]
      have : (vhi + 1) * 2 ^ n ≤ 18446744073709551616 := by
        rw [← hpn, Nat.mul_comm (2 ^ n)]
        have hvh : vhi < 2 ^ (64 - n) := Nat.lt_of_mul_lt_mul_right (a := 2 ^ n) (by rw [Nat.mul_comm (2 ^ (64 - n)), hpn]; exact y2)
        exact Nat.mul_le_mul_right _ hvh
      rw [Nat.add_mul] at this
      omega
    rw [bnd eL, bnd eR]
    have uh63 : uhi / 2 < 9223372036854775808 := by omega
    have ul64 : ulo / 2 + uhi % 2 * 9223372036854775808 < 18446744073709551616 := by omega
    have dv := div64_law k (uhi / 2) (ulo / 2 + uhi % 2 * 9223372036854775808) _ hv2 ul64 (Nat.lt_of_lt_of_le uh63 hv1)
    have eU : uhi / 2 * 18446744073709551616 + (ulo / 2 + uhi % 2 * 9223372036854775808) = (ulo + uhi * 18446744073709551616) / 2 := by omega
    rw [eU] at dv
    have tr := trial (ulo + uhi * 18446744073709551616) (vlo + vhi * 18446744073709551616) (64 - n) (by omega) (by omega) hv1
    have eT : (ulo + uhi * 18446744073709551616) / 2 / ((vlo + vhi * 18446744073709551616) / 2 ^ (64 - n)) / 2 ^ (63 - n) = (ulo + uhi * 18446744073709551616) / ((vlo + vhi * 18446744073709551616) / 2 ^ (64 - n) * 2 ^ (64 - n)) := by
      rw [Nat.div_div_eq_div_mul, Nat.div_div_eq_div_mul]
      congr 1
      rw [show 64 - n = (63 - n) + 1 by omega, Nat.pow_succ]
      rw [Nat.mul_comm 2, Nat.mul_assoc]
    show ((gobits_Div64.f (k + 12) ((uhi / 2 : Nat) : Int) ((ulo / 2 + uhi % 2 * 9223372036854775808 : Nat) : Int) (((vlo + vhi * 18446744073709551616) / 2 ^ (64 - n) : Nat) : Int)).bind fun bt320 => _) = _
    rw [bnd dv]
    have tq0 : (ulo + uhi * 18446744073709551616) / 2 / ((vlo + vhi * 18446744073709551616) / 2 ^ (64 - n)) < 18446744073709551616 := by
      refine Nat.div_lt_of_lt_mul ?_
      have : 9223372036854775808 * 18446744073709551616 ≤ (vlo + vhi * 18446744073709551616) / 2 ^ (64 - n) * 18446744073709551616 := Nat.mul_le_mul_right _ hv1
      omega
    have sh : shr .u64 (((ulo + uhi * 18446744073709551616) / 2 / ((vlo + vhi * 18446744073709551616) / 2 ^ (64 - n)) : Nat) : Int) ((63 - n : Nat) : Int) = (((ulo + uhi * 18446744073709551616) / ((vlo + vhi * 18446744073709551616) / 2 ^ (64 - n) * 2 ^ (64 - n)) : Nat) : Int) := by
      rw [shr_n _ _ tq0, eT]
    rw [e63, if_pos (by omega), sh]
    obtain ⟨tr1, tr2⟩ := tr
    have tl : (ulo + uhi * 18446744073709551616) / ((vlo + vhi * 18446744073709551616) / 2 ^ (64 - n) * 2 ^ (64 - n)) < 18446744073709551616 := by
      rw [← eT]
      exact Nat.lt_of_le_of_lt (Nat.div_le_self _ _) tq0
    clear sh tq0 eT dv hv2 hv1 eR eL eor ev hl e63 e64 hpn hp y1 y2 en eU
    generalize (ulo + uhi * 18446744073709551616) / ((vlo + vhi * 18446744073709551616) / 2 ^ (64 - n) * 2 ^ (64 - n)) = t at *
    have tr3 : t - 1 ≤ (ulo + uhi * 18446744073709551616) / (vlo + vhi * 18446744073709551616) := (Nat.le_div_iff_mul_le (by omega)).2 tr2
    by_cases ht : t = 0
    · rw [if_pos (by omega)]
      exact j0_law (k + 11) t ulo uhi vlo vhi h1 h2 h3 h4 (by omega) (by omega) (by omega)
    · rw [if_neg (by omega), wu_suc t (by omega) tl]
      exact j0_law (k + 11) (t - 1) ulo uhi vlo vhi h1 h2 h3 h4 (by omega) tr3 (by omega)
end Go.Proofs.YtiifnofghicnaaaDoor.PAll
