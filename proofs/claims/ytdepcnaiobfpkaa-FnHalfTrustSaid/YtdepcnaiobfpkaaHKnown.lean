/- FnHalfKnown: the law's function answers true. -/
import Derived.Test.YtdepcnaiobfpkaaHBase
import Derived.Test.YtdepcnaiobfpkaaPAllx4
namespace Go.Proofs.Ytdepcnaiobfpkaa.PAll
open Go.RowKit Go.Proofs.YtdepcnaiobfpkaaW.PrintWords Go.Proofs.YtdepcnaiobfpkaaW.PrintLast Go.Proofs.YtdepcnaiobfpkaaW.PrintMore Go.Proofs.Ytdepcnaiobfpkaa.HN
theorem precS (a : Nat) (ha : a < 4294967296) : impl_HalfPrecision.f (a : Int) = some ((prec a : Nat) : Int) := by
  unfold impl_HalfPrecision.f
  rw [if_pos (by omega), Int.toNat_natCast]
def knownB (h : Nat) : Bool := Nat.beq (prec (t32 h)) (if h / 1024 % 32 = 0 then (if h % 1024 = 0 then 0 else 1) else 0)
theorem known_all : allB knownB 16 0 = true := by decide +kernel
theorem known_law (h : Nat) (hh : h < 65536) : prec (t32 h) = if h / 1024 % 32 = 0 then (if h % 1024 = 0 then 0 else 1) else 0 :=
  Nat.eq_of_beq_eq_true (allB_of 16 0 known_all h (Nat.zero_le _) (by simpa using hh))
theorem known_j0 (k : Nat) (x0 x3 : Int) (b : Bool) : laws_FnHalfKnown.j0 (k + 1) x0 x3 b = if b = true then ((impl_HalfTo.f k x0).bind fun t173 => ((impl_HalfPrecision.f t173).bind fun t174 => (some (t174 == 1)))) else ((impl_HalfTo.f k x0).bind fun t175 => ((impl_HalfPrecision.f t175).bind fun t176 => (some (t176 == x3)))) := rfl
theorem known_pure : laws_FnHalfKnown.Pure := by
  intro a w
  simp only [Lit.wf, Bool.and_eq_true, decide_eq_true_eq] at w
  obtain ⟨w1, w2⟩ := w
  have w2 : a < 65536 := by
    have : IntKind.u16.max = 65535 := by decide
    omega
  have w1 : 0 ≤ a := by
    have : IntKind.u16.min = 0 := by decide
    omega
  obtain ⟨h, rfl⟩ := Int.eq_ofNat_of_zero_le w1
  have hh : h < 65536 := by omega
  refine ⟨12 + 1, ?_⟩
  have q := known_law h hh
  unfold laws_FnHalfKnown.f
  rw [exp16 h hh, l16_1023 h hh, known_j0, known_j0]
  by_cases h1 : h / 1024 % 32 = 0
  · rw [if_pos (by omega)]
    rw [if_pos h1] at q
    by_cases h2 : h % 1024 = 0
    · rw [if_pos h2] at q
      rw [if_neg (by simp [h2]), bnd (toH h hh 0), bnd (precS _ (t32_lt h hh).1), q]
      rfl
    · rw [if_neg h2] at q
      rw [if_pos (by simp; omega), bnd (toH h hh 0), bnd (precS _ (t32_lt h hh).1), q]
      rfl
  · rw [if_neg (by omega)]
    rw [if_neg h1] at q
    rw [if_neg (by decide), bnd (toH h hh 0), bnd (precS _ (t32_lt h hh).1), q]
    rfl
theorem known_walk (a : Int) (h : 0 ≤ a ∧ a ≤ 65535) (w : World) :
    Calls Try.prog 12 #[.int .u16 a] w fun e w' => e = .returned (.bool true) ∧ Below w.heap.size w w' :=
  laws_FnHalfKnown.walk known_pure a w (by simp only [Lit.wf, Bool.and_eq_true, decide_eq_true_eq]; exact h)
end Go.Proofs.Ytdepcnaiobfpkaa.PAll
