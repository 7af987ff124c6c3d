/- FnHalfBack: the law's function answers true. -/
import Derived.Test.YtdepcnaiobfpkaaHBase
import Derived.Test.YtdepcnaiobfpkaaPAllx4
namespace Go.Proofs.Ytdepcnaiobfpkaa.PAll
open Go.RowKit Go.Proofs.YtdepcnaiobfpkaaW.PrintWords Go.Proofs.YtdepcnaiobfpkaaW.PrintLast Go.Proofs.YtdepcnaiobfpkaaW.PrintMore Go.Proofs.Ytdepcnaiobfpkaa.HN
theorem back_g (y : Nat) (hy : y < 32768) : g (tf y) = if y / 1024 = 31 then (if y % 1024 = 0 then y else y ||| 512) else y :=
  Nat.eq_of_beq_eq_true (allB_of 15 0 back_all y (Nat.zero_le _) (by simpa using hy))
theorem back_law (h : Nat) (hh : h < 65536) : f16 (t32 h) = if h / 1024 % 32 = 31 ∧ h % 1024 ≠ 0 then h ||| 512 else h := by
  obtain ⟨t1, t2⟩ := t32_lt h hh
  rw [f16_g _ t1]
  have e1 : t32 h / 2147483648 = h / 32768 := by unfold t32; omega
  have e2 : t32 h % 2147483648 = tf (h % 32768) := by unfold t32; omega
  rw [e1, e2, back_g _ (by omega)]
  have hx : h / 1024 % 32 = h % 32768 / 1024 := by omega
  have hc : h % 1024 = h % 32768 % 1024 := by omega
  have hd : h = h / 32768 * 32768 + h % 32768 := by omega
  rw [hx, hc]
  have hy : h % 32768 < 32768 := by omega
  generalize h % 32768 = y at *
  generalize h / 32768 = s at *
  subst hd
  clear t1 t2 e1 e2 hx hc hh
  by_cases h1 : y / 1024 = 31
  · rw [if_pos h1]
    by_cases h2 : y % 1024 = 0
    · rw [if_pos h2, if_neg (by omega)]
    · rw [if_neg h2, if_pos ⟨h1, h2⟩, ← add15 _ _ (Nat.or_lt_two_pow (n := 15) hy (by decide)), ← add15 _ _ hy, Nat.or_assoc]
  · rw [if_neg h1, if_neg (by omega)]
theorem or16_512 (h : Nat) (hh : h < 65536) : Go.bits .or .u16 (h : Int) 512 = ((h ||| 512 : Nat) : Int) := u16_or_nat h 512 hh (by decide)
theorem back_pure : laws_FnHalfBack.Pure := by
  intro a w
  simp only [Lit.wf, Bool.and_eq_true, decide_eq_true_eq] at w
  obtain ⟨w1, w2⟩ := w
  have w2 : a < 65536 := by
    have : IntKind.u16.max = 65535 := by decide
    omega
  have w1 : 0 ≤ a := by
    have : IntKind.u16.min = 0 := by decide
    omega
  obtain ⟨h, rfl⟩ := Int.eq_ofNat_of_zero_le w1
  have hh : h < 65536 := by omega
  refine ⟨12, ?_⟩
  unfold laws_FnHalfBack.f
  rw [bnd (toH h hh 0), bnd (fromH _ (t32_lt h hh).1), bnd (kindH h hh), back_law h hh, or16_512 h hh]
  by_cases h1 : h / 1024 % 32 = 31
  · by_cases h2 : h % 1024 = 0
    · simp [h1, h2]
    · simp [h1, h2]
  · simp [h1]
theorem back_walk (a : Int) (h : 0 ≤ a ∧ a ≤ 65535) (w : World) :
    Calls Try.prog 11 #[.int .u16 a] w fun e w' => e = .returned (.bool true) ∧ Below w.heap.size w w' :=
  laws_FnHalfBack.walk back_pure a w (by simp only [Lit.wf, Bool.and_eq_true, decide_eq_true_eq]; exact h)
end Go.Proofs.Ytdepcnaiobfpkaa.PAll
