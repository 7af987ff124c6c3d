/- FnHalfFacts: the law's function answers true. -/
import Derived.Test.YtdepcnaiobfpkaaHFacts
namespace Go.Proofs.Ytdepcnaiobfpkaa.PAll
open Go.RowKit Go.Proofs.YtdepcnaiobfpkaaW.PrintWords Go.Proofs.YtdepcnaiobfpkaaW.PrintLast Go.Proofs.YtdepcnaiobfpkaaW.PrintMore Go.Proofs.Ytdepcnaiobfpkaa.HN
theorem bool_iff {a b : Bool} {p q : Prop} (ha : a = true ↔ p) (hb : b = true ↔ q) (h : p ↔ q) : a = b := by
  rw [Bool.eq_iff_iff, ha, hb, h]
theorem quiet_is (h : Nat) (hh : h < 65536) : (Go.bits .and .u16 (h : Int) 512 != 0) = (Go.bits .and .u16 ((h : Int) / 512) 1 == 1) := by
  have e1 := and16 h 512 hh (by decide)
  rw [show ((512 : Nat) : Int) = 512 from rfl] at e1
  have e2 : Go.bits .and .u16 ((h : Int) / 512) 1 = ((h / 512 % 2 : Nat) : Int) := by
    rw [show ((h : Int) / 512) = ((h / 512 : Nat) : Int) by omega]
    exact low16 (h / 512) 1 (by omega) (by decide)
  have p := and_pow_ne h 9
  rw [show (2 : Nat) ^ 9 = 512 from rfl] at p
  rw [e1, e2]
  refine bool_iff (p := (h &&& 512) ≠ 0) (q := h / 512 % 2 = 1) ?_ ?_ ?_
  · rw [bne_iff_ne]
    omega
  · rw [beq_iff_eq]
    omega
  · rw [← bne_iff_ne, p, beq_iff_eq]
theorem sign_is (h : Nat) (hh : h < 65536) : (Go.bits .and .u16 (h : Int) 32768 != 0) = ((h : Int) / 32768 == 1) := by
  rw [sgn16 h hh]
  refine bool_iff (p := h / 32768 = 1) (q := h / 32768 = 1) ?_ ?_ Iff.rfl
  · rw [bne_iff_ne]
    omega
  · rw [beq_iff_eq]
    omega
theorem facts_open (h : Nat) (a1 : Int) (r1 r2 r3 r4 r5 r6 : Bool) (e1 : float16_Float16_IsNaN.f (h : Int) = some r1) (e2 : float16_Float16_IsQuietNaN.f (h : Int) = some r2) (e3 : float16_Float16_IsInf.f (h : Int) a1 = some r3) (e4 : float16_Float16_IsFinite.f (h : Int) = some r4) (e5 : float16_Float16_IsNormal.f (h : Int) = some r5) (e6 : float16_Float16_Signbit.f (h : Int) = some r6) :
    impl_HalfFacts.f (h : Int) a1 = some (r1, r2, r3, r4, r5, r6, (h : Int)) := by
  unfold impl_HalfFacts.f
  have b1 : float16_Frombits.f (h : Int) = some (h : Int) := rfl
  have b2 : float16_Float16_Bits.f (h : Int) = some (h : Int) := rfl
  rw [bnd b1, bnd e1, bnd e2, bnd e3, bnd e4, bnd e5, bnd e6, bnd b2]
theorem facts_all (h : Nat) (hh : h < 65536) (a1 : Int) (w : World) :
    Calls Try.prog 4 #[.int .u16 (h : Int), .int .i64 a1] w fun e w' => e = .returned (.bool true) ∧ Below w.heap.size w w' := by
  have ex := exp16 h hh
  have lo := l16_1023 h hh
  have k := kindH h hh
  have e6 : float16_Float16_Signbit.f (h : Int) = some ((h : Int) / 32768 == 1) := by
    unfold float16_Float16_Signbit.f
    rw [sign_is h hh]
  by_cases c1 : h / 1024 % 32 = 31
  · have x31 : ((h / 1024 % 32 * 1024 : Nat) : Int) = 31744 := by omega
    rw [if_pos c1] at k
    have e4 : float16_Float16_IsFinite.f (h : Int) = some false := by
      unfold float16_Float16_IsFinite.f
      rw [ex, x31]
      rfl
    have e5 : float16_Float16_IsNormal.f (h : Int) = some false := by
      unfold float16_Float16_IsNormal.f
      rw [ex, x31, if_pos rfl]
    by_cases c2 : h % 1024 = 0
    · rw [if_pos c2] at k
      have e1 : float16_Float16_IsNaN.f (h : Int) = some false := by
        unfold float16_Float16_IsNaN.f
        rw [ex, lo, x31, if_pos rfl, c2]
        rfl
      have e2 : float16_Float16_IsQuietNaN.f (h : Int) = some false := by
        unfold float16_Float16_IsQuietNaN.f
        rw [ex, lo, x31, if_pos rfl, if_pos (show ((h % 1024 : Nat) : Int) = 0 by omega)]
      have hv : ((h : Int) = 31744 ∧ ((h : Int) / 32768 == 1) = false) ∨ ((h : Int) = 64512 ∧ ((h : Int) / 32768 == 1) = true) := by
        have : h = 31744 ∨ h = 64512 := by omega
        rcases this with rfl | rfl
        · exact Or.inl ⟨rfl, rfl⟩
        · exact Or.inr ⟨rfl, rfl⟩
      rcases Int.lt_trichotomy a1 0 with g | g | g
      · have e3 : float16_Float16_IsInf.f (h : Int) a1 = some ((h : Int) / 32768 == 1) := by
          unfold float16_Float16_IsInf.f
          rcases hv with ⟨v1, v2⟩ | ⟨v1, v2⟩
          · rw [v2, v1, if_pos rfl, if_neg (by omega), if_neg (by decide)]
          · rw [v2, v1, if_neg (by decide), if_pos rfl, decide_eq_true (by omega)]
        exact facts_1n (h : Int) a1 _ w (Lib.hid (facts_open h a1 _ _ _ _ _ _ e1 e2 e3 e4 e5 e6)) (Lib.hid k) rfl (beq_eq_false_iff_ne.mpr (by omega)) (decide_eq_false (by omega)) (decide_eq_true g)
      · have e3 : float16_Float16_IsInf.f (h : Int) a1 = some true := by
          unfold float16_Float16_IsInf.f
          rcases hv with ⟨v1, v2⟩ | ⟨v1, v2⟩
          · rw [v1, if_pos rfl, if_pos (by omega)]
          · rw [v1, if_neg (by decide), if_pos rfl, decide_eq_true (by omega)]
        exact facts_1z (h : Int) a1 _ w (Lib.hid (facts_open h a1 _ _ _ _ _ _ e1 e2 e3 e4 e5 e6)) (Lib.hid k) rfl (beq_iff_eq.mpr g)
      · have e3 : float16_Float16_IsInf.f (h : Int) a1 = some (!((h : Int) / 32768 == 1)) := by
          unfold float16_Float16_IsInf.f
          rcases hv with ⟨v1, v2⟩ | ⟨v1, v2⟩
          · rw [v2, v1, if_pos rfl, if_pos (by omega)]
            rfl
          · rw [v2, v1, if_neg (by decide), if_pos rfl, decide_eq_false (by omega)]
            rfl
        exact facts_1p (h : Int) a1 _ w (Lib.hid (facts_open h a1 _ _ _ _ _ _ e1 e2 e3 e4 e5 e6)) (Lib.hid k) rfl (beq_eq_false_iff_ne.mpr (by omega)) (decide_eq_true (by omega)) (decide_eq_false (by omega))
    · rw [if_neg c2] at k
      have e1 : float16_Float16_IsNaN.f (h : Int) = some true := by
        unfold float16_Float16_IsNaN.f
        rw [ex, lo, x31, if_pos rfl, bne_iff_ne.mpr (show ((h % 1024 : Nat) : Int) ≠ 0 by omega)]
      have e2 : float16_Float16_IsQuietNaN.f (h : Int) = some (Go.bits .and .u16 ((h : Int) / 512) 1 == 1) := by
        unfold float16_Float16_IsQuietNaN.f
        rw [quiet_is h hh, ex, lo, x31, if_pos rfl, if_neg (show ¬ ((h % 1024 : Nat) : Int) = 0 by omega)]
      have e3 : float16_Float16_IsInf.f (h : Int) a1 = some false := by
        unfold float16_Float16_IsInf.f
        rw [if_neg (by omega), if_neg (by omega)]
      exact facts_2 (h : Int) a1 _ _ w (Lib.hid (facts_open h a1 _ _ _ _ _ _ e1 e2 e3 e4 e5 e6)) (Lib.hid k) rfl rfl
  · have x31 : ((h / 1024 % 32 * 1024 : Nat) : Int) ≠ 31744 := by omega
    rw [if_neg c1] at k
    have e1 : float16_Float16_IsNaN.f (h : Int) = some false := by
      unfold float16_Float16_IsNaN.f
      rw [ex, if_neg x31]
    have e2 : float16_Float16_IsQuietNaN.f (h : Int) = some false := by
      unfold float16_Float16_IsQuietNaN.f
      rw [ex, if_neg x31]
    have e3 : float16_Float16_IsInf.f (h : Int) a1 = some false := by
      unfold float16_Float16_IsInf.f
      rw [if_neg (by omega), if_neg (by omega)]
    have e4 : float16_Float16_IsFinite.f (h : Int) = some true := by
      unfold float16_Float16_IsFinite.f
      rw [ex, bne_iff_ne.mpr x31]
    have e5 : float16_Float16_IsNormal.f (h : Int) = some (Go.bits .and .u16 (h : Int) 31744 != 0) := by
      unfold float16_Float16_IsNormal.f
      rw [ex, if_neg x31]
    exact facts_0 (h : Int) a1 _ _ w (Lib.hid (facts_open h a1 _ _ _ _ _ _ e1 e2 e3 e4 e5 e6)) (Lib.hid k) rfl rfl
theorem facts_walk (a b : Int) (h : 0 ≤ a ∧ a ≤ 65535) (_ : -9223372036854775808 ≤ b ∧ b ≤ 9223372036854775807) (w : World) :
    Calls Try.prog 4 #[.int .u16 a, .int .i64 b] w fun e w' => e = .returned (.bool true) ∧ Below w.heap.size w w' := by
  obtain ⟨n, rfl⟩ := Int.eq_ofNat_of_zero_le h.1
  exact facts_all n (by omega) b w
end Go.Proofs.Ytdepcnaiobfpkaa.PAll
