/- FnWideBack: the law's function answers true, if the package's variable for a division by 0 holds an error. -/
import Derived.Test.YtiifnofghicnaaaDoorQuoRem
import Derived.Test.YtiifnofghicnaaaDoorQBase
import Derived.Test.YtiifnofghicnaaaDoorQAllx12
import Derived.Test.YtiifnofghicnaaaDoorErrGlobB
namespace Go.Proofs.YtiifnofghicnaaaDoor.PAll
open Go.RowKit Go.Proofs.YtiifnofghicnaaaDoorW.PrintWords Go.Proofs.YtiifnofghicnaaaDoorW.PrintLast Go.Proofs.YtiifnofghicnaaaDoorW.PrintMore
theorem qr_some (k a b c d : Nat) (ha : a < 18446744073709551616) (hb : b < 18446744073709551616) (hc : c < 18446744073709551616) (hd : d < 18446744073709551616) (h0 : c + d * 18446744073709551616 ≠ 0) :
    impl_WideQuoRem.f (k + 12) (a : Int) (b : Int) (c : Int) (d : Int) = some ((halves ((a + b * 18446744073709551616) / (c + d * 18446744073709551616))).1, (halves ((a + b * 18446744073709551616) / (c + d * 18446744073709551616))).2, (halves ((a + b * 18446744073709551616) % (c + d * 18446744073709551616))).1, (halves ((a + b * 18446744073709551616) % (c + d * 18446744073709551616))).2, true) := by
  unfold impl_WideQuoRem.f
  rw [if_neg (by omega), bnd (quorem_law k a b c d ha hb hc hd h0)]
theorem halves_back (a b : Nat) (ha : a < 18446744073709551616) (hb : b < 18446744073709551616) : halves (a + b * 18446744073709551616) = ((a : Int), (b : Int)) := by
  unfold halves
  rw [show (a + b * 18446744073709551616) % 18446744073709551616 = a by omega, show (a + b * 18446744073709551616) / 18446744073709551616 % 18446744073709551616 = b by omega]
theorem back_cmp (r c d : Nat) (hc : c < 18446744073709551616) (hd : d < 18446744073709551616) (hr : r < c + d * 18446744073709551616) :
    ∃ t, impl_WideCmp.f (halves r).1 (halves r).2 (c : Int) (d : Int) = some t ∧ t < 0 := by
  obtain ⟨u1, u2, u3⟩ := halves_128 r (by omega)
  obtain ⟨t, h1, h2⟩ := cmp_n _ _ _ _ r (c + d * 18446744073709551616) u1 u2 (u64_nat hc) (u64_nat hd) u3 (n128 c d)
  refine ⟨t, ?_, ?_⟩
  · unfold impl_WideCmp.f impl_Wide_u.f
    simp only [Option.bind_some]
    rw [h1]
    rfl
  · have := mt h2.1 (by omega)
    omega
theorem back_law (a b c d : Nat) (ha : a < 18446744073709551616) (hb : b < 18446744073709551616) (hc : c < 18446744073709551616) (hd : d < 18446744073709551616) : laws_FnWideBack.f (488 + 12) (a : Int) (b : Int) (c : Int) (d : Int) = some true := by
  have wc := whole_law (u64_nat hc) (u64_nat hd)
  rw [n128] at wc
  unfold laws_FnWideBack.f
  by_cases h0 : c + d * 18446744073709551616 = 0
  · rw [bnd wc, if_pos ((dg_len0 _).2 h0)]
  · have hq := Nat.div_le_self (a + b * 18446744073709551616) (c + d * 18446744073709551616)
    have hr := Nat.mod_lt (a + b * 18446744073709551616) (show 0 < c + d * 18446744073709551616 by omega)
    have hm := Nat.div_add_mod' (a + b * 18446744073709551616) (c + d * 18446744073709551616)
    have q1 := qr_some 488 a b c d ha hb hc hd h0
    generalize hQ : (a + b * 18446744073709551616) / (c + d * 18446744073709551616) = q at hq hm q1
    generalize hR : (a + b * 18446744073709551616) % (c + d * 18446744073709551616) = r at hr hm q1
    have hp : q * (c + d * 18446744073709551616) < 340282366920938463463374607431768211456 := by omega
    obtain ⟨u1, u2, u3⟩ := halves_128 q (by omega)
    obtain ⟨v1, v2, v3⟩ := halves_128 r (by omega)
    obtain ⟨m1, m2, m3⟩ := halves_128 _ hp
    have p1 : impl_WideMul.f (halves q).1 (halves q).2 (c : Int) (d : Int) = some ((halves (q * (c + d * 18446744073709551616))).1, (halves (q * (c + d * 18446744073709551616))).2, true) := by
      unfold impl_WideMul.f
      rw [if_pos ⟨u1, u2, u64_nat hc, u64_nat hd⟩, u3, n128, if_pos hp]
    have p2 : impl_WideAdd.f (halves (q * (c + d * 18446744073709551616))).1 (halves (q * (c + d * 18446744073709551616))).2 (halves r).1 (halves r).2 = some ((a : Int), (b : Int), true) := by
      unfold impl_WideAdd.f
      rw [if_pos ⟨m1, m2, v1, v2⟩, m3, v3, hm, if_pos (by omega), halves_back a b ha hb]
    obtain ⟨t, c1, c2⟩ := back_cmp r c d hc hd hr
    rw [bnd wc, if_neg (fun h => h0 ((dg_len0 _).1 h)), bnd q1, bnd p1, bnd p2, if_pos rfl, if_pos rfl, if_pos rfl, if_pos (by simp), bnd c1, decide_eq_true c2]
theorem back_walk (a b c d : Int) (ha : 0 ≤ a ∧ a ≤ 18446744073709551615) (hb : 0 ≤ b ∧ b ≤ 18446744073709551615) (hc : 0 ≤ c ∧ c ≤ 18446744073709551615) (hd : 0 ≤ d ∧ d ≤ 18446744073709551615) (w : World) (hL : laidMetH Tryd.prog Rows.fnWideBackRow.laid w) :
    Calls Tryd.prog 9 #[.agg #[.int .u64 a, .int .u64 b], .agg #[.int .u64 c, .int .u64 d]] w fun e w' => e = .returned (.bool true) ∧ Below w.heap.size w w' := by
  obtain ⟨x, rfl⟩ := Int.eq_ofNat_of_zero_le ha.1
  obtain ⟨y, rfl⟩ := Int.eq_ofNat_of_zero_le hb.1
  obtain ⟨z, rfl⟩ := Int.eq_ofNat_of_zero_le hc.1
  obtain ⟨t, rfl⟩ := Int.eq_ofNat_of_zero_le hd.1
  exact laws_FnWideBack.calls _ _ _ _ _ true w (back_law x y z t (by omega) (by omega) (by omega) (by omega)) (globE_of hL)
end Go.Proofs.YtiifnofghicnaaaDoor.PAll
