/- FnWideQuoRem64: the law's function answers true, if the package's variable for a division by 0 holds an error. -/
import Derived.Test.YtiifnofghicnaaaDoorDivLaw
import Derived.Test.YtiifnofghicnaaaDoorDivided
import Derived.Test.YtiifnofghicnaaaDoorQBase
import Derived.Test.YtiifnofghicnaaaDoorQAllx10
import Derived.Test.YtiifnofghicnaaaDoorErrGlobS
namespace Go.Proofs.YtiifnofghicnaaaDoor.PAll
open Go.RowKit Go.Proofs.YtiifnofghicnaaaDoorW.PrintWords Go.Proofs.YtiifnofghicnaaaDoorW.PrintLast Go.Proofs.YtiifnofghicnaaaDoorW.PrintMore
theorem qr64_some (k a b c : Nat) (ha : a < 18446744073709551616) (hb : b < 18446744073709551616) (hc : c < 18446744073709551616) (h0 : c ≠ 0) :
    impl_WideQuoRem64.f (k + 12) (a : Int) (b : Int) (c : Int) = some ((halves ((a + b * 18446744073709551616) / c)).1, (halves ((a + b * 18446744073709551616) / c)).2, (((a + b * 18446744073709551616) % c : Nat) : Int), true) ∧
    impl_WideDiv64.f (k + 12) (a : Int) (b : Int) (c : Int) = some ((halves ((a + b * 18446744073709551616) / c)).1, (halves ((a + b * 18446744073709551616) / c)).2, true) ∧
    impl_WideMod64.f (k + 12) (a : Int) (b : Int) (c : Int) = some ((((a + b * 18446744073709551616) % c : Nat) : Int), true) := by
  have hl := quorem64_law k a b c ha hb hc h0
  have e : b * 18446744073709551616 + a = a + b * 18446744073709551616 := Nat.add_comm _ _
  rw [e] at hl
  have hq : (a + b * 18446744073709551616) / c / 18446744073709551616 % 18446744073709551616 = (a + b * 18446744073709551616) / c / 18446744073709551616 := by
    have := Nat.div_le_self (a + b * 18446744073709551616) c
    generalize (a + b * 18446744073709551616) / c = q at this ⊢
    omega
  have hh : halves ((a + b * 18446744073709551616) / c) = (((((a + b * 18446744073709551616) / c % 18446744073709551616 : Nat)) : Int), (((a + b * 18446744073709551616) / c / 18446744073709551616 : Nat) : Int)) := by
    unfold halves
    rw [hq]
  rw [hh]
  have hz : ¬ ((c : Int) = 0) := by omega
  refine ⟨?_, ?_, ?_⟩
  · unfold impl_WideQuoRem64.f
    rw [if_neg hz, bnd hl]
  · unfold impl_WideDiv64.f uint128_Uint128_Div64.f
    rw [if_neg hz, bnd hl]
    rfl
  · unfold impl_WideMod64.f uint128_Uint128_Mod64.f
    rw [if_neg hz, bnd hl]
    rfl
theorem halves_small64 (n : Nat) (h : n < 18446744073709551616) : halves n = ((n : Int), 0) := by
  unfold halves
  rw [Nat.mod_eq_of_lt h, Nat.div_eq_of_lt h]
  rfl
theorem quorem64s_law (a b c : Nat) (ha : a < 18446744073709551616) (hb : b < 18446744073709551616) (hc : c < 18446744073709551616) : laws_FnWideQuoRem64.f (488 + 12) (a : Int) (b : Int) (c : Int) = some true := by
  have wa := whole_law (u64_nat ha) (u64_nat hb)
  have wc := small_law (u64_nat hc)
  rw [n128] at wa
  rw [Int.toNat_natCast] at wc
  unfold laws_FnWideQuoRem64.f
  by_cases h0 : c = 0
  · subst h0
    have z1 : impl_WideQuoRem64.f (488 + 12) (a : Int) (b : Int) ((0 : Nat) : Int) = some (0, 0, 0, false) := by
      unfold impl_WideQuoRem64.f
      rw [if_pos (show ((0 : Nat) : Int) = 0 from rfl), if_pos (by omega)]
    have z2 : impl_WideDiv64.f (488 + 12) (a : Int) (b : Int) ((0 : Nat) : Int) = some (0, 0, false) := by
      unfold impl_WideDiv64.f
      rw [if_pos (show ((0 : Nat) : Int) = 0 from rfl), if_pos (by omega)]
    have z3 : impl_WideMod64.f (488 + 12) (a : Int) (b : Int) ((0 : Nat) : Int) = some (0, false) := by
      unfold impl_WideMod64.f
      rw [if_pos (show ((0 : Nat) : Int) = 0 from rfl), if_pos (by omega)]
    have o1 := (qr64_some 488 a b 1 ha hb (by decide) (by decide)).1
    rw [show ((1 : Nat) : Int) = 1 from rfl] at o1
    rw [bnd z1, bnd z2, bnd z3, if_pos (show ((0 : Nat) : Int) = 0 from rfl), bnd o1]
    rfl
  · obtain ⟨q1, q2, q3⟩ := qr64_some 488 a b c ha hb hc h0
    have dv := divided_law (a + b * 18446744073709551616) c 500 (by omega) (by omega) (by omega) (by decide) (by decide)
    have i1 := is_self ((a + b * 18446744073709551616) / c) 500 (by decide)
    have i2 := is_self ((a + b * 18446744073709551616) % c) 500 (by decide)
    have hm : (a + b * 18446744073709551616) % c < 18446744073709551616 := Nat.lt_trans (Nat.mod_lt _ (by omega)) hc
    rw [halves_small64 _ hm] at i2
    rw [bnd q1, bnd q2, bnd q3, if_neg (by omega), bnd wa, bnd wc, show 488 + 12 = 500 from rfl, bnd dv, if_pos rfl, if_pos rfl, if_pos rfl, bnd i1, if_pos rfl, if_pos (by simp), bnd i2, if_pos rfl, beq_self_eq_true]
theorem quorem64_walk (a b c : Int) (ha : 0 ≤ a ∧ a ≤ 18446744073709551615) (hb : 0 ≤ b ∧ b ≤ 18446744073709551615) (hc : 0 ≤ c ∧ c ≤ 18446744073709551615) (w : World) (hL : laidMetH Tryd.prog Rows.fnWideQuoRem64Row.laid w) :
    Calls Tryd.prog 6 #[.agg #[.int .u64 a, .int .u64 b], .int .u64 c] w fun e w' => e = .returned (.bool true) ∧ Below w.heap.size w w' := by
  obtain ⟨x, rfl⟩ := Int.eq_ofNat_of_zero_le ha.1
  obtain ⟨y, rfl⟩ := Int.eq_ofNat_of_zero_le hb.1
  obtain ⟨z, rfl⟩ := Int.eq_ofNat_of_zero_le hc.1
  exact laws_FnWideQuoRem64.calls _ _ _ _ true w (quorem64s_law x y z (by omega) (by omega) (by omega)) (globE_of hL)
end Go.Proofs.YtiifnofghicnaaaDoor.PAll
