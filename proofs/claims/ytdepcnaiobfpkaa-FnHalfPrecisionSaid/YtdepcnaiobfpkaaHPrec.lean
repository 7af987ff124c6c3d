/- FnHalfPrecision: the law's function answers true. -/
import Derived.Test.YtdepcnaiobfpkaaHBase
import Derived.Test.YtdepcnaiobfpkaaPAllx4
namespace Go.Proofs.Ytdepcnaiobfpkaa.PAll
open Go.RowKit Go.Proofs.YtdepcnaiobfpkaaW.PrintWords Go.Proofs.YtdepcnaiobfpkaaW.PrintLast Go.Proofs.YtdepcnaiobfpkaaW.PrintMore Go.Proofs.Ytdepcnaiobfpkaa.HN
theorem prec_S (a : Nat) (ha : a < 4294967296) : impl_HalfPrecision.f (a : Int) = some ((prec a : Nat) : Int) := by
  unfold impl_HalfPrecision.f
  rw [if_pos (by omega), Int.toNat_natCast]
theorem report_l0 (k : Nat) (x0 x3 x5 x6 : Int) : spec_HalfReport.l0 (k + 1) x0 x3 x5 x6 = if x6 > 1 then (spec_HalfReport.l0 k x0 x3 (wrap64 (x5 + 1)) (wrap64 (Int.tdiv x6 2))) else ((spec_SingleKind.f x0).bind fun t167 => (if t167 = 0 then (spec_HalfReport.j1 k x0 x5 (x3 == 0)) else (spec_HalfReport.j1 k x0 x5 true))) := by
  rw [spec_HalfReport.l0]
theorem report_j1 (k : Nat) (x0 x5 : Int) (b : Bool) : spec_HalfReport.j1 (k + 1) x0 x5 b = if b = true then (some 0) else (if x5 < (-24) then (some 3) else (if x5 > 15 then (some 4) else (if (Go.bits .and .u32 x0 8191) = 0 then (if x5 < (-14) then (some 1) else (some 0)) else (some 2)))) := by
  rw [spec_HalfReport.j1]
/-- The loop that finds the topmost bit's place. -/
theorem report_top (x0 x3 : Int) : ∀ (l k : Nat) (x5 : Int) (m : Nat), -1000 < x5 → x5 + l < 1000 → 2 ^ l ≤ m → m < 2 ^ (l + 1) → m < 16777216 →
    spec_HalfReport.l0 (k + l + 1) x0 x3 x5 (m : Int) = spec_HalfReport.l0 (k + 1) x0 x3 (x5 + l) 1 := by
  intro l
  induction l with
  | zero =>
    intro k x5 m h1 h2 h3 h4 h5
    have : m = 1 := by simp at h3 h4; omega
    subst this
    simp
  | succ l ih =>
    intro k x5 m h1 h2 h3 h4 h5
    rw [Nat.pow_succ] at h3
    rw [Nat.pow_succ] at h4
    have h0 : 0 < 2 ^ l := Nat.pow_pos (by decide)
    rw [show k + (l + 1) + 1 = (k + l + 1) + 1 by omega, report_l0, if_pos (by omega)]
    have e1 : wrap64 (x5 + 1) = x5 + 1 := w64_small _ (by omega)
    have e2 : wrap64 (Int.tdiv (m : Int) 2) = ((m / 2 : Nat) : Int) := by
      rw [Int.tdiv_eq_ediv_of_nonneg (by omega)]
      rw [w64_small _ (by omega)]
      omega
    rw [e1, e2, ih k (x5 + 1) (m / 2) (by omega) (by omega) (by omega) (by omega) (by omega)]
    congr 1
    omega
theorem report_zero (k : Nat) (x0 x3 x5 : Int) (m : Nat) (h : m ≤ 1) : spec_HalfReport.l0 (k + 1) x0 x3 x5 (m : Int) = ((spec_SingleKind.f x0).bind fun t167 => (if t167 = 0 then (spec_HalfReport.j1 k x0 x5 (x3 == 0)) else (spec_HalfReport.j1 k x0 x5 true))) := by
  rw [report_l0, if_neg (by omega)]
theorem report_law (n : Nat) (hn : n < 4294967296) : spec_HalfReport.f 30 (n : Int) = some ((prec n : Nat) : Int) := by
  unfold spec_HalfReport.f
  rw [bnd (valueS n hn)]
  have hc : n % 8388608 < 8388608 := by omega
  by_cases hx : n / 8388608 % 256 = 0
  · rw [if_pos hx]
    simp only []
    by_cases h0 : n % 8388608 = 0
    · rw [h0, report_zero 29 _ _ _ 0 (by decide), bnd (kindS n hn), if_neg (show ¬ n / 8388608 % 256 = 255 by omega), if_pos rfl, report_j1 28, if_pos (by decide)]
      unfold prec
      rw [if_pos (show n = 0 ∨ n = 2147483648 by omega)]
      rfl
    · have l1 := Nat.log2_self_le h0
      have l2 := Nat.lt_log2_self (n := n % 8388608)
      have l3 : (n % 8388608).log2 < 23 := (Nat.log2_lt h0).mpr (by omega)
      generalize hl : (n % 8388608).log2 = l at *
      have t := report_top (n : Int) ((n % 8388608 : Nat) : Int) l (29 - l) (-149) (n % 8388608) (by omega) (by omega) l1 l2 (by omega)
      rw [show 29 - l + l + 1 = 30 by omega] at t
      rw [t, show (1 : Int) = ((1 : Nat) : Int) from rfl, report_zero _ _ _ _ 1 (by decide), bnd (kindS n hn), if_neg (show ¬ n / 8388608 % 256 = 255 by omega), if_pos rfl, show 29 - l = (28 - l) + 1 by omega, report_j1]
      have b : (((n % 8388608 : Nat) : Int) == 0) = false := by
        rw [beq_eq_false_iff_ne]
        omega
      rw [b, if_neg (by decide), if_pos (by omega)]
      unfold prec
      rw [if_neg (by omega), if_neg (by omega), if_pos (by omega)]
      rfl
  · rw [if_neg hx]
    simp only []
    have t := report_top (n : Int) ((8388608 + n % 8388608 : Nat) : Int) 23 6 (((n / 8388608 % 256 : Nat) : Int) - 150) (8388608 + n % 8388608) (by omega) (by omega) (by omega) (by omega) (by omega)
    rw [t, show (1 : Int) = ((1 : Nat) : Int) from rfl, report_zero _ _ _ _ 1 (by decide), bnd (kindS n hn)]
    have b : (((8388608 + n % 8388608 : Nat) : Int) == 0) = false := by
      rw [beq_eq_false_iff_ne]
      omega
    rw [b, report_j1 5, report_j1 5, l32_8191 n hn]
    have h8 : n % 8192 = n % 8388608 % 8192 := by omega
    unfold prec
    rw [if_neg (show ¬ (n = 0 ∨ n = 2147483648) by omega)]
    by_cases h1 : n / 8388608 % 256 = 255
    · rw [if_pos h1, if_pos h1]
      by_cases h2 : n % 8388608 = 0
      · rw [if_pos h2, if_neg (by decide)]
        rfl
      · rw [if_neg h2, if_neg (by decide)]
        rfl
    · rw [if_neg h1, if_neg h1, if_pos rfl, if_neg (by decide)]
      by_cases h3 : n / 8388608 % 256 < 103
      · rw [if_pos (by omega), if_pos h3]
        rfl
      · rw [if_neg (by omega), if_neg h3]
        by_cases h4 : 142 < n / 8388608 % 256
        · rw [if_pos (by omega), if_pos h4]
          rfl
        · rw [if_neg (by omega), if_neg h4]
          by_cases h5 : n % 8192 = 0
          · rw [if_pos (show ((n % 8192 : Nat) : Int) = 0 by omega), if_neg (show ¬ (n % 8192 ≠ 0) by omega)]
            by_cases h6 : n / 8388608 % 256 < 113
            · rw [if_pos (by omega), if_pos h6]
              rfl
            · rw [if_neg (by omega), if_neg h6]
              rfl
          · rw [if_neg (show ¬ ((n % 8192 : Nat) : Int) = 0 by omega), if_pos (show n % 8192 ≠ 0 from h5)]
            rfl
theorem precision_pure : laws_FnHalfPrecision.Pure := by
  intro a w
  simp only [Lit.wf, Bool.and_eq_true, decide_eq_true_eq] at w
  obtain ⟨w1, w2⟩ := w
  have w2 : a < 4294967296 := by
    have : IntKind.u32.max = 4294967295 := by decide
    omega
  have w1 : 0 ≤ a := by
    have : IntKind.u32.min = 0 := by decide
    omega
  obtain ⟨n, rfl⟩ := Int.eq_ofNat_of_zero_le w1
  have hn : n < 4294967296 := by omega
  refine ⟨30, ?_⟩
  unfold laws_FnHalfPrecision.f
  rw [bnd (prec_S n hn), bnd (report_law n hn)]
  simp
theorem precision_walk (a : Int) (h : 0 ≤ a ∧ a ≤ 4294967295) (w : World) :
    Calls Try.prog 9 #[.int .u32 a] w fun e w' => e = .returned (.bool true) ∧ Below w.heap.size w w' :=
  laws_FnHalfPrecision.walk precision_pure a w (by simp only [Lit.wf, Bool.and_eq_true, decide_eq_true_eq]; exact h)
end Go.Proofs.Ytdepcnaiobfpkaa.PAll
