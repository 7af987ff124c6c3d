/- FnWideQuoRem: the law's function answers true, if the package's variable for a division by 0 holds an error. -/
import Derived.Test.YtiifnofghicnaaaDoorQuoRem
import Derived.Test.YtiifnofghicnaaaDoorDivided
import Derived.Test.YtiifnofghicnaaaDoorQBase
import Derived.Test.YtiifnofghicnaaaDoorQAllx13
import Derived.Test.YtiifnofghicnaaaDoorErrGlobQ
namespace Go.Proofs.YtiifnofghicnaaaDoor.PAll
open Go.RowKit Go.Proofs.YtiifnofghicnaaaDoorW.PrintWords Go.Proofs.YtiifnofghicnaaaDoorW.PrintLast Go.Proofs.YtiifnofghicnaaaDoorW.PrintMore
theorem qr_some (k a b c d : Nat) (ha : a < 18446744073709551616) (hb : b < 18446744073709551616) (hc : c < 18446744073709551616) (hd : d < 18446744073709551616) (h0 : c + d * 18446744073709551616 ≠ 0) :
    impl_WideQuoRem.f (k + 12) (a : Int) (b : Int) (c : Int) (d : Int) = some ((halves ((a + b * 18446744073709551616) / (c + d * 18446744073709551616))).1, (halves ((a + b * 18446744073709551616) / (c + d * 18446744073709551616))).2, (halves ((a + b * 18446744073709551616) % (c + d * 18446744073709551616))).1, (halves ((a + b * 18446744073709551616) % (c + d * 18446744073709551616))).2, true) := by
  unfold impl_WideQuoRem.f
  rw [if_neg (by omega), bnd (quorem_law k a b c d ha hb hc hd h0)]
theorem quorems_law (a b c d : Nat) (ha : a < 18446744073709551616) (hb : b < 18446744073709551616) (hc : c < 18446744073709551616) (hd : d < 18446744073709551616) : laws_FnWideQuoRem.f (488 + 12) (a : Int) (b : Int) (c : Int) (d : Int) = some true := by
  have wa := whole_law (u64_nat ha) (u64_nat hb)
  have wc := whole_law (u64_nat hc) (u64_nat hd)
  rw [n128] at wa wc
  unfold laws_FnWideQuoRem.f
  by_cases h0 : c + d * 18446744073709551616 = 0
  · have hc0 : c = 0 := by omega
    have hd0 : d = 0 := by omega
    subst hc0 hd0
    have z1 : impl_WideQuoRem.f (488 + 12) (a : Int) (b : Int) ((0 : Nat) : Int) ((0 : Nat) : Int) = some (0, 0, 0, 0, false) := by
      unfold impl_WideQuoRem.f
      rw [if_pos ⟨rfl, rfl⟩, if_pos (by omega)]
    have o1 := qr_some 488 a b 1 0 ha hb (by decide) (by decide) (by decide)
    rw [show ((1 : Nat) : Int) = 1 from rfl, show ((0 : Nat) : Int) = 0 from rfl] at o1
    rw [bnd z1, bnd wc, if_pos ((dg_len0 _).2 h0), bnd o1]
    rfl
  · have dv := divided_law (a + b * 18446744073709551616) (c + d * 18446744073709551616) 500 (by omega) (by omega) (by omega) (by decide) (by decide)
    have i1 := is_self ((a + b * 18446744073709551616) / (c + d * 18446744073709551616)) 500 (by decide)
    have i2 := is_self ((a + b * 18446744073709551616) % (c + d * 18446744073709551616)) 500 (by decide)
    rw [bnd (qr_some 488 a b c d ha hb hc hd h0), bnd wc, if_neg (fun h => h0 ((dg_len0 _).1 h)), bnd wa, bnd wc, show 488 + 12 = 500 from rfl, bnd dv, if_pos rfl, bnd i1, if_pos rfl, bnd i2]
theorem quorem_walk (a b c d : Int) (ha : 0 ≤ a ∧ a ≤ 18446744073709551615) (hb : 0 ≤ b ∧ b ≤ 18446744073709551615) (hc : 0 ≤ c ∧ c ≤ 18446744073709551615) (hd : 0 ≤ d ∧ d ≤ 18446744073709551615) (w : World) (hL : laidMetH Tryd.prog Rows.fnWideQuoRemRow.laid w) :
    Calls Tryd.prog 7 #[.agg #[.int .u64 a, .int .u64 b], .agg #[.int .u64 c, .int .u64 d]] w fun e w' => e = .returned (.bool true) ∧ Below w.heap.size w w' := by
  obtain ⟨x, rfl⟩ := Int.eq_ofNat_of_zero_le ha.1
  obtain ⟨y, rfl⟩ := Int.eq_ofNat_of_zero_le hb.1
  obtain ⟨z, rfl⟩ := Int.eq_ofNat_of_zero_le hc.1
  obtain ⟨t, rfl⟩ := Int.eq_ofNat_of_zero_le hd.1
  exact laws_FnWideQuoRem.calls _ _ _ _ _ true w (quorems_law x y z t (by omega) (by omega) (by omega) (by omega)) (globE_of hL)
end Go.Proofs.YtiifnofghicnaaaDoor.PAll
