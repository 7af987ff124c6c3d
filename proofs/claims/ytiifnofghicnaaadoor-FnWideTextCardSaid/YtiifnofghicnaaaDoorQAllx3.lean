/- Printed by the kit's print.py, called for several laws at once: functions as plain Lean, and the walks' contracts. -/
import Derived.Test.YtiifnofghicnaaaDoorQAllx0
import Derived.Test.YtiifnofghicnaaaDoorQAllx1
import Derived.Test.YtiifnofghicnaaaDoorQAllx2
namespace Go.Proofs.YtiifnofghicnaaaDoor.PAll
open Go.RowKit Go.Proofs.YtiifnofghicnaaaDoorW.PrintWords Go.Proofs.YtiifnofghicnaaaDoorW.PrintLast Go.Proofs.YtiifnofghicnaaaDoorW.PrintMore
attribute [local go_sem] max2_int min2_int max_two min_two max_three min_three max_four min_four   -- for this text's walks alone
set_option linter.unusedVariables false
set_option linter.unusedSimpArgs false
attribute [local go_sem high] eqA24 eqA65
/-! ### gobits_Div64: function 104 -/
mutual
def gobits_Div64.j0 : Nat → Int → Int → Int → Option (Int × Int)
  | 0, _, _, _ => none
  | k + 1, x0, x1, x2 => if x2 ≤ x0 then (if 0 = 0 then (none) else (gobits_Div64.j1 k x0 x1 x2)) else (gobits_Div64.j1 k x0 x1 x2)
def gobits_Div64.j1 : Nat → Int → Int → Int → Option (Int × Int)
  | 0, _, _, _ => none
  | k + 1, x0, x1, x2 => if x0 = 0 then (if x2 = 0 then (none) else (some (IntKind.u64.wrap (Int.tdiv x1 x2), Int.tmod x1 x2))) else ((bits_LeadingZeros64.f x2).bind fun t177 => (if 0 ≤ (IntKind.u64.wrap (t177)) then (if 0 ≤ (IntKind.u64.wrap (64 - (IntKind.u64.wrap (t177)))) then (if ((shl .u64 x2 (IntKind.u64.wrap (t177))) / 4294967296) = 0 then (none) else (gobits_Div64.l0 k (shl .u64 x2 (IntKind.u64.wrap (t177))) (IntKind.u64.wrap (t177)) ((shl .u64 x2 (IntKind.u64.wrap (t177))) / 4294967296) (Go.bits .and .u64 (shl .u64 x2 (IntKind.u64.wrap (t177))) 4294967295) (Go.bits .or .u64 (shl .u64 x0 (IntKind.u64.wrap (t177))) (shr .u64 x1 (IntKind.u64.wrap (64 - (IntKind.u64.wrap (t177)))))) ((shl .u64 x1 (IntKind.u64.wrap (t177))) / 4294967296) (Go.bits .and .u64 (shl .u64 x1 (IntKind.u64.wrap (t177))) 4294967295) (IntKind.u64.wrap (Int.tdiv (Go.bits .or .u64 (shl .u64 x0 (IntKind.u64.wrap (t177))) (shr .u64 x1 (IntKind.u64.wrap (64 - (IntKind.u64.wrap (t177)))))) ((shl .u64 x2 (IntKind.u64.wrap (t177))) / 4294967296))) (IntKind.u64.wrap ((Go.bits .or .u64 (shl .u64 x0 (IntKind.u64.wrap (t177))) (shr .u64 x1 (IntKind.u64.wrap (64 - (IntKind.u64.wrap (t177)))))) - (IntKind.u64.wrap ((IntKind.u64.wrap (Int.tdiv (Go.bits .or .u64 (shl .u64 x0 (IntKind.u64.wrap (t177))) (shr .u64 x1 (IntKind.u64.wrap (64 - (IntKind.u64.wrap (t177)))))) ((shl .u64 x2 (IntKind.u64.wrap (t177))) / 4294967296))) * ((shl .u64 x2 (IntKind.u64.wrap (t177))) / 4294967296))))))) else (none)) else (none)))
def gobits_Div64.j4 : Nat → Int → Int → Int → Int → Int → Int → Int → Int → Option (Int × Int)
  | 0, _, _, _, _, _, _, _, _ => none
  | k + 1, x2, x8, x9, x10, x11, x13, x14, x15 => if x9 = 0 then (none) else (gobits_Div64.l1 k x2 x8 x9 x10 x14 x15 (IntKind.u64.wrap ((IntKind.u64.wrap ((IntKind.u64.wrap ((IntKind.u64.wrap (x11 * 4294967296)) + x13)) - (IntKind.u64.wrap (x15 * x2)))) - (IntKind.u64.wrap ((IntKind.u64.wrap (Int.tdiv (IntKind.u64.wrap ((IntKind.u64.wrap ((IntKind.u64.wrap (x11 * 4294967296)) + x13)) - (IntKind.u64.wrap (x15 * x2)))) x9)) * x9)))) (IntKind.u64.wrap ((IntKind.u64.wrap ((IntKind.u64.wrap (x11 * 4294967296)) + x13)) - (IntKind.u64.wrap (x15 * x2)))) (IntKind.u64.wrap (Int.tdiv (IntKind.u64.wrap ((IntKind.u64.wrap ((IntKind.u64.wrap (x11 * 4294967296)) + x13)) - (IntKind.u64.wrap (x15 * x2)))) x9)))
def gobits_Div64.l1 : Nat → Int → Int → Int → Int → Int → Int → Int → Int → Int → Option (Int × Int)
  | 0, _, _, _, _, _, _, _, _, _ => none
  | k + 1, x2, x8, x9, x10, x14, x15, x16, x17, x18 => if x18 ≥ 4294967296 then (gobits_Div64.j6 k x2 x8 x9 x10 x14 x15 x16 x17 x18 true) else (gobits_Div64.j6 k x2 x8 x9 x10 x14 x15 x16 x17 x18 (decide ((IntKind.u64.wrap (x18 * x10)) > (IntKind.u64.wrap ((IntKind.u64.wrap (4294967296 * x16)) + x14)))))
def gobits_Div64.j6 : Nat → Int → Int → Int → Int → Int → Int → Int → Int → Int → Bool → Option (Int × Int)
  | 0, _, _, _, _, _, _, _, _, _, _ => none
  | k + 1, x2, x8, x9, x10, x14, x15, x16, x17, x18, x113 => if x113 = true then (if (IntKind.u64.wrap (x16 + x9)) ≥ 4294967296 then (if 0 ≤ x8 then (some (IntKind.u64.wrap ((IntKind.u64.wrap (x15 * 4294967296)) + (IntKind.u64.wrap (x18 - 1))), shr .u64 (IntKind.u64.wrap ((IntKind.u64.wrap ((IntKind.u64.wrap (x17 * 4294967296)) + x14)) - (IntKind.u64.wrap ((IntKind.u64.wrap (x18 - 1)) * x2)))) x8)) else (none)) else (gobits_Div64.l1 k x2 x8 x9 x10 x14 x15 (IntKind.u64.wrap (x16 + x9)) x17 (IntKind.u64.wrap (x18 - 1)))) else (if 0 ≤ x8 then (some (IntKind.u64.wrap ((IntKind.u64.wrap (x15 * 4294967296)) + x18), shr .u64 (IntKind.u64.wrap ((IntKind.u64.wrap ((IntKind.u64.wrap (x17 * 4294967296)) + x14)) - (IntKind.u64.wrap (x18 * x2)))) x8)) else (none))
def gobits_Div64.l0 : Nat → Int → Int → Int → Int → Int → Int → Int → Int → Int → Option (Int × Int)
  | 0, _, _, _, _, _, _, _, _, _ => none
  | k + 1, x2, x8, x9, x10, x11, x13, x14, x15, x16 => if x15 ≥ 4294967296 then (gobits_Div64.j3 k x2 x8 x9 x10 x11 x13 x14 x15 x16 true) else (gobits_Div64.j3 k x2 x8 x9 x10 x11 x13 x14 x15 x16 (decide ((IntKind.u64.wrap (x15 * x10)) > (IntKind.u64.wrap ((IntKind.u64.wrap (4294967296 * x16)) + x13)))))
def gobits_Div64.j3 : Nat → Int → Int → Int → Int → Int → Int → Int → Int → Int → Bool → Option (Int × Int)
  | 0, _, _, _, _, _, _, _, _, _, _ => none
  | k + 1, x2, x8, x9, x10, x11, x13, x14, x15, x16, x78 => if x78 = true then (if (IntKind.u64.wrap (x16 + x9)) ≥ 4294967296 then (gobits_Div64.j4 k x2 x8 x9 x10 x11 x13 x14 (IntKind.u64.wrap (x15 - 1))) else (gobits_Div64.l0 k x2 x8 x9 x10 x11 x13 x14 (IntKind.u64.wrap (x15 - 1)) (IntKind.u64.wrap (x16 + x9)))) else (gobits_Div64.j4 k x2 x8 x9 x10 x11 x13 x14 x15)
end
def gobits_Div64.f (k : Nat) (a0 : Int) (a1 : Int) (a2 : Int) : Option (Int × Int) := if a2 = 0 then (if 0 = 0 then (none) else (gobits_Div64.j0 k a0 a1 a2)) else (gobits_Div64.j0 k a0 a1 a2)
theorem gobits_Div64.mono_l : ∀ k, (∀ y0 y1 y2, LeO (gobits_Div64.j0 k y0 y1 y2) (gobits_Div64.j0 (k + 1) y0 y1 y2)) ∧ (∀ y0 y1 y2, LeO (gobits_Div64.j1 k y0 y1 y2) (gobits_Div64.j1 (k + 1) y0 y1 y2)) ∧ (∀ y0 y1 y2 y3 y4 y5 y6 y7, LeO (gobits_Div64.j4 k y0 y1 y2 y3 y4 y5 y6 y7) (gobits_Div64.j4 (k + 1) y0 y1 y2 y3 y4 y5 y6 y7)) ∧ (∀ y0 y1 y2 y3 y4 y5 y6 y7 y8, LeO (gobits_Div64.l1 k y0 y1 y2 y3 y4 y5 y6 y7 y8) (gobits_Div64.l1 (k + 1) y0 y1 y2 y3 y4 y5 y6 y7 y8)) ∧ (∀ y0 y1 y2 y3 y4 y5 y6 y7 y8 y9, LeO (gobits_Div64.j6 k y0 y1 y2 y3 y4 y5 y6 y7 y8 y9) (gobits_Div64.j6 (k + 1) y0 y1 y2 y3 y4 y5 y6 y7 y8 y9)) ∧ (∀ y0 y1 y2 y3 y4 y5 y6 y7 y8, LeO (gobits_Div64.l0 k y0 y1 y2 y3 y4 y5 y6 y7 y8) (gobits_Div64.l0 (k + 1) y0 y1 y2 y3 y4 y5 y6 y7 y8)) ∧ (∀ y0 y1 y2 y3 y4 y5 y6 y7 y8 y9, LeO (gobits_Div64.j3 k y0 y1 y2 y3 y4 y5 y6 y7 y8 y9) (gobits_Div64.j3 (k + 1) y0 y1 y2 y3 y4 y5 y6 y7 y8 y9))
  | 0 => ⟨fun _ _ _ r h => by simp [gobits_Div64.j0] at h, fun _ _ _ r h => by simp [gobits_Div64.j1] at h, fun _ _ _ _ _ _ _ _ r h => by simp [gobits_Div64.j4] at h, fun _ _ _ _ _ _ _ _ _ r h => by simp [gobits_Div64.l1] at h, fun _ _ _ _ _ _ _ _ _ _ r h => by simp [gobits_Div64.j6] at h, fun _ _ _ _ _ _ _ _ _ r h => by simp [gobits_Div64.l0] at h, fun _ _ _ _ _ _ _ _ _ _ r h => by simp [gobits_Div64.j3] at h⟩
  | k + 1 => by
    obtain ⟨ih0, ih1, ih2, ih3, ih4, ih5, ih6⟩ := gobits_Div64.mono_l k
    refine ⟨?_, ?_, ?_, ?_, ?_, ?_, ?_⟩
    · intro y0 y1 y2
      unfold gobits_Div64.j0
      repeat' first
      | (with_reducible exact ih0 _ _ _)
      | (with_reducible exact ih1 _ _ _)
      | (with_reducible exact ih2 _ _ _ _ _ _ _ _)
      | (with_reducible exact ih3 _ _ _ _ _ _ _ _ _)
      | (with_reducible exact ih4 _ _ _ _ _ _ _ _ _ _)
      | (with_reducible exact ih5 _ _ _ _ _ _ _ _ _)
      | (with_reducible exact ih6 _ _ _ _ _ _ _ _ _ _)
      | (with_reducible exact LeO.refl _)
      | (with_reducible exact LeO.none _)
      | (with_reducible refine LeO.ite ?_ ?_)
      | (with_reducible refine LeO.bind ?_ (fun _ => ?_))
      | exact ih0 _ _ _
      | exact ih1 _ _ _
      | exact ih2 _ _ _ _ _ _ _ _
      | exact ih3 _ _ _ _ _ _ _ _ _
      | exact ih4 _ _ _ _ _ _ _ _ _ _
      | exact ih5 _ _ _ _ _ _ _ _ _
      | exact ih6 _ _ _ _ _ _ _ _ _ _
      | exact LeO.none _
      | refine LeO.ite ?_ ?_
      | refine LeO.bind ?_ (fun _ => ?_)
    · intro y0 y1 y2
      unfold gobits_Div64.j1
      repeat' first
      | (with_reducible exact ih0 _ _ _)
      | (with_reducible exact ih1 _ _ _)
      | (with_reducible exact ih2 _ _ _ _ _ _ _ _)
      | (with_reducible exact ih3 _ _ _ _ _ _ _ _ _)
      | (with_reducible exact ih4 _ _ _ _ _ _ _ _ _ _)
      | (with_reducible exact ih5 _ _ _ _ _ _ _ _ _)
      | (with_reducible exact ih6 _ _ _ _ _ _ _ _ _ _)
      | (with_reducible exact LeO.refl _)
      | (with_reducible exact LeO.none _)
      | (with_reducible refine LeO.ite ?_ ?_)
      | (with_reducible refine LeO.bind ?_ (fun _ => ?_))
      | exact ih0 _ _ _
      | exact ih1 _ _ _
      | exact ih2 _ _ _ _ _ _ _ _
      | exact ih3 _ _ _ _ _ _ _ _ _
      | exact ih4 _ _ _ _ _ _ _ _ _ _
      | exact ih5 _ _ _ _ _ _ _ _ _
      | exact ih6 _ _ _ _ _ _ _ _ _ _
      | exact LeO.none _
      | refine LeO.ite ?_ ?_
      | refine LeO.bind ?_ (fun _ => ?_)
    · intro y0 y1 y2 y3 y4 y5 y6 y7
      unfold gobits_Div64.j4
      repeat' first
      | (with_reducible exact ih0 _ _ _)
      | (with_reducible exact ih1 _ _ _)
      | (with_reducible exact ih2 _ _ _ _ _ _ _ _)
      | (with_reducible exact ih3 _ _ _ _ _ _ _ _ _)
      | (with_reducible exact ih4 _ _ _ _ _ _ _ _ _ _)
      | (with_reducible exact ih5 _ _ _ _ _ _ _ _ _)
      | (with_reducible exact ih6 _ _ _ _ _ _ _ _ _ _)
      | (with_reducible exact LeO.refl _)
      | (with_reducible exact LeO.none _)
      | (with_reducible refine LeO.ite ?_ ?_)
      | (with_reducible refine LeO.bind ?_ (fun _ => ?_))
      | exact ih0 _ _ _
      | exact ih1 _ _ _
      | exact ih2 _ _ _ _ _ _ _ _
      | exact ih3 _ _ _ _ _ _ _ _ _
      | exact ih4 _ _ _ _ _ _ _ _ _ _
      | exact ih5 _ _ _ _ _ _ _ _ _
      | exact ih6 _ _ _ _ _ _ _ _ _ _
      | exact LeO.none _
      | refine LeO.ite ?_ ?_
      | refine LeO.bind ?_ (fun _ => ?_)
    · intro y0 y1 y2 y3 y4 y5 y6 y7 y8
      unfold gobits_Div64.l1
      repeat' first
      | (with_reducible exact ih0 _ _ _)
      | (with_reducible exact ih1 _ _ _)
      | (with_reducible exact ih2 _ _ _ _ _ _ _ _)
      | (with_reducible exact ih3 _ _ _ _ _ _ _ _ _)
      | (with_reducible exact ih4 _ _ _ _ _ _ _ _ _ _)
      | (with_reducible exact ih5 _ _ _ _ _ _ _ _ _)
      | (with_reducible exact ih6 _ _ _ _ _ _ _ _ _ _)
      | (with_reducible exact LeO.refl _)
      | (with_reducible exact LeO.none _)
      | (with_reducible refine LeO.ite ?_ ?_)
      | (with_reducible refine LeO.bind ?_ (fun _ => ?_))
      | exact ih0 _ _ _
      | exact ih1 _ _ _
      | exact ih2 _ _ _ _ _ _ _ _
      | exact ih3 _ _ _ _ _ _ _ _ _
      | exact ih4 _ _ _ _ _ _ _ _ _ _
      | exact ih5 _ _ _ _ _ _ _ _ _
      | exact ih6 _ _ _ _ _ _ _ _ _ _
      | exact LeO.none _
      | refine LeO.ite ?_ ?_
      | refine LeO.bind ?_ (fun _ => ?_)
    · intro y0 y1 y2 y3 y4 y5 y6 y7 y8 y9
      unfold gobits_Div64.j6
      repeat' first
      | (with_reducible exact ih0 _ _ _)
      | (with_reducible exact ih1 _ _ _)
      | (with_reducible exact ih2 _ _ _ _ _ _ _ _)
      | (with_reducible exact ih3 _ _ _ _ _ _ _ _ _)
      | (with_reducible exact ih4 _ _ _ _ _ _ _ _ _ _)
      | (with_reducible exact ih5 _ _ _ _ _ _ _ _ _)
      | (with_reducible exact ih6 _ _ _ _ _ _ _ _ _ _)
      | (with_reducible exact LeO.refl _)
      | (with_reducible exact LeO.none _)
      | (with_reducible refine LeO.ite ?_ ?_)
      | (with_reducible refine LeO.bind ?_ (fun _ => ?_))
      | exact ih0 _ _ _
      | exact ih1 _ _ _
      | exact ih2 _ _ _ _ _ _ _ _
      | exact ih3 _ _ _ _ _ _ _ _ _
      | exact ih4 _ _ _ _ _ _ _ _ _ _
      | exact ih5 _ _ _ _ _ _ _ _ _
      | exact ih6 _ _ _ _ _ _ _ _ _ _
      | exact LeO.none _
      | refine LeO.ite ?_ ?_
      | refine LeO.bind ?_ (fun _ => ?_)
    · intro y0 y1 y2 y3 y4 y5 y6 y7 y8
      unfold gobits_Div64.l0
      repeat' first
      | (with_reducible exact ih0 _ _ _)
      | (with_reducible exact ih1 _ _ _)
      | (with_reducible exact ih2 _ _ _ _ _ _ _ _)
      | (with_reducible exact ih3 _ _ _ _ _ _ _ _ _)
      | (with_reducible exact ih4 _ _ _ _ _ _ _ _ _ _)
      | (with_reducible exact ih5 _ _ _ _ _ _ _ _ _)
      | (with_reducible exact ih6 _ _ _ _ _ _ _ _ _ _)
      | (with_reducible exact LeO.refl _)
      | (with_reducible exact LeO.none _)
      | (with_reducible refine LeO.ite ?_ ?_)
      | (with_reducible refine LeO.bind ?_ (fun _ => ?_))
      | exact ih0 _ _ _
      | exact ih1 _ _ _
      | exact ih2 _ _ _ _ _ _ _ _
      | exact ih3 _ _ _ _ _ _ _ _ _
      | exact ih4 _ _ _ _ _ _ _ _ _ _
      | exact ih5 _ _ _ _ _ _ _ _ _
      | exact ih6 _ _ _ _ _ _ _ _ _ _
      | exact LeO.none _
      | refine LeO.ite ?_ ?_
      | refine LeO.bind ?_ (fun _ => ?_)
    · intro y0 y1 y2 y3 y4 y5 y6 y7 y8 y9
      unfold gobits_Div64.j3
      repeat' first
      | (with_reducible exact ih0 _ _ _)
      | (with_reducible exact ih1 _ _ _)
      | (with_reducible exact ih2 _ _ _ _ _ _ _ _)
      | (with_reducible exact ih3 _ _ _ _ _ _ _ _ _)
      | (with_reducible exact ih4 _ _ _ _ _ _ _ _ _ _)
      | (with_reducible exact ih5 _ _ _ _ _ _ _ _ _)
      | (with_reducible exact ih6 _ _ _ _ _ _ _ _ _ _)
      | (with_reducible exact LeO.refl _)
      | (with_reducible exact LeO.none _)
      | (with_reducible refine LeO.ite ?_ ?_)
      | (with_reducible refine LeO.bind ?_ (fun _ => ?_))
      | exact ih0 _ _ _
      | exact ih1 _ _ _
      | exact ih2 _ _ _ _ _ _ _ _
      | exact ih3 _ _ _ _ _ _ _ _ _
      | exact ih4 _ _ _ _ _ _ _ _ _ _
      | exact ih5 _ _ _ _ _ _ _ _ _
      | exact ih6 _ _ _ _ _ _ _ _ _ _
      | exact LeO.none _
      | refine LeO.ite ?_ ?_
      | refine LeO.bind ?_ (fun _ => ?_)
theorem gobits_Div64.mono : ∀ a0 a1 a2 k, LeO (gobits_Div64.f k a0 a1 a2) (gobits_Div64.f (k + 1) a0 a1 a2) := by
  intro a0 a1 a2 k
  obtain ⟨ih0, ih1, ih2, ih3, ih4, ih5, ih6⟩ := gobits_Div64.mono_l k
  unfold gobits_Div64.f
  repeat' first
      | (with_reducible exact ih0 _ _ _)
      | (with_reducible exact ih1 _ _ _)
      | (with_reducible exact ih2 _ _ _ _ _ _ _ _)
      | (with_reducible exact ih3 _ _ _ _ _ _ _ _ _)
      | (with_reducible exact ih4 _ _ _ _ _ _ _ _ _ _)
      | (with_reducible exact ih5 _ _ _ _ _ _ _ _ _)
      | (with_reducible exact ih6 _ _ _ _ _ _ _ _ _ _)
      | (with_reducible exact LeO.refl _)
      | (with_reducible exact LeO.none _)
      | (with_reducible refine LeO.ite ?_ ?_)
      | (with_reducible refine LeO.bind ?_ (fun _ => ?_))
      | exact ih0 _ _ _
      | exact ih1 _ _ _
      | exact ih2 _ _ _ _ _ _ _ _
      | exact ih3 _ _ _ _ _ _ _ _ _
      | exact ih4 _ _ _ _ _ _ _ _ _ _
      | exact ih5 _ _ _ _ _ _ _ _ _
      | exact ih6 _ _ _ _ _ _ _ _ _ _
      | exact LeO.none _
      | refine LeO.ite ?_ ?_
      | refine LeO.bind ?_ (fun _ => ?_)
set_option maxHeartbeats 8000000 in
set_option maxRecDepth 100000 in
theorem gobits_Div64.calls (k : Nat) (a0 : Int) (a1 : Int) (a2 : Int) (r1 : Int) (r2 : Int) (w : World) (h : gobits_Div64.f k a0 a1 a2 = some (r1, r2)) :
    Calls Tryd.prog 104 #[.int .u64 a0, .int .u64 a1, .int .u64 a2] w fun e w' => e = .returned (.tuple #[.int .u64 r1, .int .u64 r2]) ∧ Drawn0 w w' := by
  have H : (if a2 = 0 then (if 0 = 0 then (none) else (gobits_Div64.j0 k a0 a1 a2)) else (gobits_Div64.j0 k a0 a1 a2)) = some (r1, r2) := h
  clear h
  have HC4 := Aside0.mk H
  clear H
  go_enter Tryd.func104, Tryd.ntmps104
  go_upto_if 20 with (fail)
  repeat (go_quiet (fail); go_upto_if 20 with (fail))
  go_cut [] (fun wc => ∃ (kq : Nat), Aside0 (gobits_Div64.j0 kq a0 a1 a2 = some (r1, r2)) ∧ Aside0 (kq ≤ k) ∧ Drawn0 w wc)
  case first =>
    have H := HC4.out
    clear HC4
    by_cases c5 : a2 = 0
    · rw [if_pos c5] at H
      have c5b0 : (a2 == 0) = true := beq_iff_eq.mpr c5
      have c5b1 : (a2 != 0) = false := bne_eq_false_iff_eq.mpr c5
      clear c5
      (first | rw [c5b0] | (simp only [i64_w, i32_w]; rw [c5b0]) | skip)
      exact absurd H (by simp)
    · rw [if_neg c5] at H
      have c5b0 : (a2 == 0) = false := beq_eq_false_iff_ne.mpr c5
      have c5b1 : (a2 != 0) = true := bne_iff_ne.mpr c5
      (first | rw [c5b0] | (simp only [i64_w, i32_w]; rw [c5b0]) | skip)
      have H' := Aside0.mk H
      clear H
      go_wp2
      repeat (go_quiet (fail); try go_wp2)
      go_meet
      case rel => exact ⟨_, H', ⟨by first | omega | exact Nat.le_refl _⟩, by repeat (first | exact Drawn0.refl _ | apply Drawn0.step)⟩
  case rest =>
    clear HC4
    try clear c1
    try clear p2
    try clear c5
    try clear c5b0
    try clear c5b1
    try clear c6
    try clear c6b0
    try clear c6b1
    obtain ⟨kq, HA, HJ3, ⟨mc3, rfl⟩⟩ := hcut
    cases kq with
    | zero => exact absurd HA.out (by simp [gobits_Div64.j0])
    | succ kj3 =>
      have H := HA.out
      clear HA
      simp only [gobits_Div64.j0] at H
      have HC7 := Aside0.mk H
      clear H
      go_upto_if 24 with (fail)
      repeat (go_quiet (fail); go_upto_if 24 with (fail))
      go_cut [] (fun wc => ∃ (kq : Nat), Aside0 (gobits_Div64.j1 kq a0 a1 a2 = some (r1, r2)) ∧ Aside0 (kq ≤ kj3) ∧ Drawn0 w wc)
      case first =>
        have H := HC7.out
        clear HC7
        by_cases c8 : a2 ≤ a0
        · rw [if_pos c8] at H
          have c8b0 : decide (a2 ≤ a0) = true := decide_eq_true c8
          clear c8
          (first | rw [c8b0] | (simp only [i64_w, i32_w]; rw [c8b0]) | skip)
          exact absurd H (by simp)
        · rw [if_neg c8] at H
          have c8b0 : decide (a2 ≤ a0) = false := decide_eq_false c8
          clear c8
          (first | rw [c8b0] | (simp only [i64_w, i32_w]; rw [c8b0]) | skip)
          have H' := Aside0.mk H
          clear H
          go_wp2
          repeat (go_quiet (fail); try go_wp2)
          go_meet
          case rel => exact ⟨_, H', ⟨by have := HJ3.out; first | omega | exact Nat.le_refl _⟩, by repeat (first | exact Drawn0.refl _ | apply Drawn0.step)⟩
      case rest =>
        clear HC7
        try clear c1
        try clear p2
        try clear c3
        try clear c5
        try clear c5b0
        try clear c5b1
        try clear c6
        try clear c6b0
        try clear c6b1
        try clear c8
        try clear c8b0
        try clear c9
        try clear c9b0
        try clear c9b1
        try clear p2
        obtain ⟨kq, HA, HJ6, ⟨mc6, rfl⟩⟩ := hcut
        cases kq with
        | zero => exact absurd HA.out (by simp [gobits_Div64.j1])
        | succ kj6 =>
          have H := HA.out
          clear HA
          simp only [gobits_Div64.j1] at H
          by_cases c10 : a0 = 0
          · rw [if_pos c10] at H
            have c10b0 : (a0 == 0) = true := beq_iff_eq.mpr c10
            have c10b1 : (a0 != 0) = false := bne_eq_false_iff_eq.mpr c10
            clear c10
            by_cases c11 : a2 = 0
            · rw [if_pos c11] at H
              exact absurd H (by simp)
            · rw [if_neg c11] at H
              have c11b0 : (a2 == 0) = false := beq_eq_false_iff_ne.mpr c11
              have c11b1 : (a2 != 0) = true := bne_iff_ne.mpr c11
              simp only [Option.some.injEq, Prod.mk.injEq] at H
              obtain ⟨rfl, rfl⟩ := H
              go_wp2
              repeat (go_quiet (fail); try go_wp2)
              go_ret2
              exact ⟨by first | rfl | (simp; done) | (simp [*]; done), by repeat (first | exact Drawn0.refl _ | apply Drawn0.step)⟩
          · rw [if_neg c10] at H
            have c10b0 : (a0 == 0) = false := beq_eq_false_iff_ne.mpr c10
            have c10b1 : (a0 != 0) = true := bne_iff_ne.mpr c10
            replace H := Option.bind_eq_some_iff.mp H
            obtain ⟨t177, A120, H⟩ := H
            replace H : (if 0 ≤ (IntKind.u64.wrap (t177)) then (if 0 ≤ (IntKind.u64.wrap (64 - (IntKind.u64.wrap (t177)))) then (if ((shl .u64 a2 (IntKind.u64.wrap (t177))) / 4294967296) = 0 then (none) else (gobits_Div64.l0 kj6 (shl .u64 a2 (IntKind.u64.wrap (t177))) (IntKind.u64.wrap (t177)) ((shl .u64 a2 (IntKind.u64.wrap (t177))) / 4294967296) (Go.bits .and .u64 (shl .u64 a2 (IntKind.u64.wrap (t177))) 4294967295) (Go.bits .or .u64 (shl .u64 a0 (IntKind.u64.wrap (t177))) (shr .u64 a1 (IntKind.u64.wrap (64 - (IntKind.u64.wrap (t177)))))) ((shl .u64 a1 (IntKind.u64.wrap (t177))) / 4294967296) (Go.bits .and .u64 (shl .u64 a1 (IntKind.u64.wrap (t177))) 4294967295) (IntKind.u64.wrap (Int.tdiv (Go.bits .or .u64 (shl .u64 a0 (IntKind.u64.wrap (t177))) (shr .u64 a1 (IntKind.u64.wrap (64 - (IntKind.u64.wrap (t177)))))) ((shl .u64 a2 (IntKind.u64.wrap (t177))) / 4294967296))) (IntKind.u64.wrap ((Go.bits .or .u64 (shl .u64 a0 (IntKind.u64.wrap (t177))) (shr .u64 a1 (IntKind.u64.wrap (64 - (IntKind.u64.wrap (t177)))))) - (IntKind.u64.wrap ((IntKind.u64.wrap (Int.tdiv (Go.bits .or .u64 (shl .u64 a0 (IntKind.u64.wrap (t177))) (shr .u64 a1 (IntKind.u64.wrap (64 - (IntKind.u64.wrap (t177)))))) ((shl .u64 a2 (IntKind.u64.wrap (t177))) / 4294967296))) * ((shl .u64 a2 (IntKind.u64.wrap (t177))) / 4294967296))))))) else (none)) else (none)) = some (r1, r2) := H
            have A12 := Aside0.mk A120
            clear A120
            obtain ⟨ji13, hji13⟩ : ∃ j_ : Int, (IntKind.u64.wrap (t177)) = j_ := ⟨_, rfl⟩
            replace H : (if 0 ≤ (ji13) then (if 0 ≤ (IntKind.u64.wrap (64 - (ji13))) then (if ((shl .u64 a2 (ji13)) / 4294967296) = 0 then (none) else (gobits_Div64.l0 kj6 (shl .u64 a2 (ji13)) ji13 ((shl .u64 a2 (ji13)) / 4294967296) (Go.bits .and .u64 (shl .u64 a2 (ji13)) 4294967295) (Go.bits .or .u64 (shl .u64 a0 (ji13)) (shr .u64 a1 (IntKind.u64.wrap (64 - (ji13))))) ((shl .u64 a1 (ji13)) / 4294967296) (Go.bits .and .u64 (shl .u64 a1 (ji13)) 4294967295) (IntKind.u64.wrap (Int.tdiv (Go.bits .or .u64 (shl .u64 a0 (ji13)) (shr .u64 a1 (IntKind.u64.wrap (64 - (ji13))))) ((shl .u64 a2 (ji13)) / 4294967296))) (IntKind.u64.wrap ((Go.bits .or .u64 (shl .u64 a0 (ji13)) (shr .u64 a1 (IntKind.u64.wrap (64 - (ji13))))) - (IntKind.u64.wrap ((IntKind.u64.wrap (Int.tdiv (Go.bits .or .u64 (shl .u64 a0 (ji13)) (shr .u64 a1 (IntKind.u64.wrap (64 - (ji13))))) ((shl .u64 a2 (ji13)) / 4294967296))) * ((shl .u64 a2 (ji13)) / 4294967296))))))) else (none)) else (none)) = some (r1, r2) := by first | (rw [hji13] at H; exact H) | (simp only [hji13] at H ⊢; exact H)
            (try rw [hji13] at A12)
            by_cases c14 : 0 ≤ (ji13)
            · rw [if_pos c14] at H
              have c14b0 := eq_true c14
              have c14b1 : decide (0 ≤ (ji13)) = true := decide_eq_true c14
              clear c14
              obtain ⟨ji15, hji15⟩ : ∃ j_ : Int, (shl .u64 a2 (ji13)) = j_ := ⟨_, rfl⟩
              replace H : (if 0 ≤ (IntKind.u64.wrap (64 - (ji13))) then (if ((ji15) / 4294967296) = 0 then (none) else (gobits_Div64.l0 kj6 ji15 ji13 ((ji15) / 4294967296) (Go.bits .and .u64 (ji15) 4294967295) (Go.bits .or .u64 (shl .u64 a0 (ji13)) (shr .u64 a1 (IntKind.u64.wrap (64 - (ji13))))) ((shl .u64 a1 (ji13)) / 4294967296) (Go.bits .and .u64 (shl .u64 a1 (ji13)) 4294967295) (IntKind.u64.wrap (Int.tdiv (Go.bits .or .u64 (shl .u64 a0 (ji13)) (shr .u64 a1 (IntKind.u64.wrap (64 - (ji13))))) ((ji15) / 4294967296))) (IntKind.u64.wrap ((Go.bits .or .u64 (shl .u64 a0 (ji13)) (shr .u64 a1 (IntKind.u64.wrap (64 - (ji13))))) - (IntKind.u64.wrap ((IntKind.u64.wrap (Int.tdiv (Go.bits .or .u64 (shl .u64 a0 (ji13)) (shr .u64 a1 (IntKind.u64.wrap (64 - (ji13))))) ((ji15) / 4294967296))) * ((ji15) / 4294967296))))))) else (none)) = some (r1, r2) := by first | (rw [hji15] at H; exact H) | (simp only [hji15] at H ⊢; exact H)
              (try rw [hji15] at A12)
              have hji15_ : (IntKind.u64.wrap (a2 * 2 ^ min (ji13).toNat 64)) = ji15 := hji15
              have hji15z : (ji13) ≤ 64 → (IntKind.u64.wrap (a2 * 2 ^ (ji13).toNat)) = ji15 := shl_small hji15
              have c16b0 := eq_true (of_decide_eq_true (by first | (with_reducible assumption) | assumption) : 0 ≤ (ji13))
              obtain ⟨ji17, hji17⟩ : ∃ j_ : Int, (shl .u64 a0 (ji13)) = j_ := ⟨_, rfl⟩
              replace H : (if 0 ≤ (IntKind.u64.wrap (64 - (ji13))) then (if ((ji15) / 4294967296) = 0 then (none) else (gobits_Div64.l0 kj6 ji15 ji13 ((ji15) / 4294967296) (Go.bits .and .u64 (ji15) 4294967295) (Go.bits .or .u64 (ji17) (shr .u64 a1 (IntKind.u64.wrap (64 - (ji13))))) ((shl .u64 a1 (ji13)) / 4294967296) (Go.bits .and .u64 (shl .u64 a1 (ji13)) 4294967295) (IntKind.u64.wrap (Int.tdiv (Go.bits .or .u64 (ji17) (shr .u64 a1 (IntKind.u64.wrap (64 - (ji13))))) ((ji15) / 4294967296))) (IntKind.u64.wrap ((Go.bits .or .u64 (ji17) (shr .u64 a1 (IntKind.u64.wrap (64 - (ji13))))) - (IntKind.u64.wrap ((IntKind.u64.wrap (Int.tdiv (Go.bits .or .u64 (ji17) (shr .u64 a1 (IntKind.u64.wrap (64 - (ji13))))) ((ji15) / 4294967296))) * ((ji15) / 4294967296))))))) else (none)) = some (r1, r2) := by first | (rw [hji17] at H; exact H) | (simp only [hji17] at H ⊢; exact H)
              (try rw [hji17] at A12)
              have hji17_ : (IntKind.u64.wrap (a0 * 2 ^ min (ji13).toNat 64)) = ji17 := hji17
              have hji17z : (ji13) ≤ 64 → (IntKind.u64.wrap (a0 * 2 ^ (ji13).toNat)) = ji17 := shl_small hji17
              obtain ⟨ji18, hji18⟩ : ∃ j_ : Int, (IntKind.u64.wrap (64 - (ji13))) = j_ := ⟨_, rfl⟩
              replace H : (if 0 ≤ (ji18) then (if ((ji15) / 4294967296) = 0 then (none) else (gobits_Div64.l0 kj6 ji15 ji13 ((ji15) / 4294967296) (Go.bits .and .u64 (ji15) 4294967295) (Go.bits .or .u64 (ji17) (shr .u64 a1 (ji18))) ((shl .u64 a1 (ji13)) / 4294967296) (Go.bits .and .u64 (shl .u64 a1 (ji13)) 4294967295) (IntKind.u64.wrap (Int.tdiv (Go.bits .or .u64 (ji17) (shr .u64 a1 (ji18))) ((ji15) / 4294967296))) (IntKind.u64.wrap ((Go.bits .or .u64 (ji17) (shr .u64 a1 (ji18))) - (IntKind.u64.wrap ((IntKind.u64.wrap (Int.tdiv (Go.bits .or .u64 (ji17) (shr .u64 a1 (ji18))) ((ji15) / 4294967296))) * ((ji15) / 4294967296))))))) else (none)) = some (r1, r2) := by first | (rw [hji18] at H; exact H) | (simp only [hji18] at H ⊢; exact H)
              (try rw [hji18] at A12)
              by_cases c19 : 0 ≤ (ji18)
              · rw [if_pos c19] at H
                have c19b0 := eq_true c19
                have c19b1 : decide (0 ≤ (ji18)) = true := decide_eq_true c19
                clear c19
                obtain ⟨ji20, hji20⟩ : ∃ j_ : Int, (shr .u64 a1 (ji18)) = j_ := ⟨_, rfl⟩
                replace H : (if ((ji15) / 4294967296) = 0 then (none) else (gobits_Div64.l0 kj6 ji15 ji13 ((ji15) / 4294967296) (Go.bits .and .u64 (ji15) 4294967295) (Go.bits .or .u64 (ji17) (ji20)) ((shl .u64 a1 (ji13)) / 4294967296) (Go.bits .and .u64 (shl .u64 a1 (ji13)) 4294967295) (IntKind.u64.wrap (Int.tdiv (Go.bits .or .u64 (ji17) (ji20)) ((ji15) / 4294967296))) (IntKind.u64.wrap ((Go.bits .or .u64 (ji17) (ji20)) - (IntKind.u64.wrap ((IntKind.u64.wrap (Int.tdiv (Go.bits .or .u64 (ji17) (ji20)) ((ji15) / 4294967296))) * ((ji15) / 4294967296))))))) = some (r1, r2) := by first | (rw [hji20] at H; exact H) | (simp only [hji20] at H ⊢; exact H)
                (try rw [hji20] at A12)
                have hji20_ : (a1 / 2 ^ min (ji18).toNat 64) = ji20 := hji20
                have hji20z : (ji18) ≤ 64 → (a1 / 2 ^ (ji18).toNat) = ji20 := shr_small hji20
                have c21b0 := eq_true (of_decide_eq_true (by first | (with_reducible assumption) | assumption) : 0 ≤ (ji13))
                obtain ⟨ji22, hji22⟩ : ∃ j_ : Int, (shl .u64 a1 (ji13)) = j_ := ⟨_, rfl⟩
                replace H : (if ((ji15) / 4294967296) = 0 then (none) else (gobits_Div64.l0 kj6 ji15 ji13 ((ji15) / 4294967296) (Go.bits .and .u64 (ji15) 4294967295) (Go.bits .or .u64 (ji17) (ji20)) ((ji22) / 4294967296) (Go.bits .and .u64 (ji22) 4294967295) (IntKind.u64.wrap (Int.tdiv (Go.bits .or .u64 (ji17) (ji20)) ((ji15) / 4294967296))) (IntKind.u64.wrap ((Go.bits .or .u64 (ji17) (ji20)) - (IntKind.u64.wrap ((IntKind.u64.wrap (Int.tdiv (Go.bits .or .u64 (ji17) (ji20)) ((ji15) / 4294967296))) * ((ji15) / 4294967296))))))) = some (r1, r2) := by first | (rw [hji22] at H; exact H) | (simp only [hji22] at H ⊢; exact H)
                (try rw [hji22] at A12)
                have hji22_ : (IntKind.u64.wrap (a1 * 2 ^ min (ji13).toNat 64)) = ji22 := hji22
                have hji22z : (ji13) ≤ 64 → (IntKind.u64.wrap (a1 * 2 ^ (ji13).toNat)) = ji22 := shl_small hji22
                by_cases c23 : ((ji15) / 4294967296) = 0
                · rw [if_pos c23] at H
                  exact absurd H (by simp)
                · rw [if_neg c23] at H
                  have c23b0 : (((ji15) / 4294967296) == 0) = false := beq_eq_false_iff_ne.mpr c23
                  have c23b1 : (((ji15) / 4294967296) != 0) = true := bne_iff_ne.mpr c23
                  have HC24 := Aside0.mk H
                  clear H
                  go_upto_block 0 with (first | (go_at_call 100; (with_reducible refine (bits_LeadingZeros64.calls a2 t177 _ A12.out).mono ?_); rintro e w' ⟨rfl, ⟨nd, rfl⟩⟩; (try first | exact ⟨rfl, _, World.drewN_drewN _ _ _⟩ | exact ⟨rfl, _, Eq.trans (World.drewN_drewN _ _ _) (congrArg (World.drewN _) (Nat.add_assoc _ _ _))⟩)))
                  repeat (go_quiet (first | (go_at_call 100; (with_reducible refine (bits_LeadingZeros64.calls a2 t177 _ A12.out).mono ?_); rintro e w' ⟨rfl, ⟨nd, rfl⟩⟩; (try first | exact ⟨rfl, _, World.drewN_drewN _ _ _⟩ | exact ⟨rfl, _, Eq.trans (World.drewN_drewN _ _ _) (congrArg (World.drewN _) (Nat.add_assoc _ _ _))⟩))); go_upto_block 0 with (first | (go_at_call 100; (with_reducible refine (bits_LeadingZeros64.calls a2 t177 _ A12.out).mono ?_); rintro e w' ⟨rfl, ⟨nd, rfl⟩⟩; (try first | exact ⟨rfl, _, World.drewN_drewN _ _ _⟩ | exact ⟨rfl, _, Eq.trans (World.drewN_drewN _ _ _) (congrArg (World.drewN _) (Nat.add_assoc _ _ _))⟩))))
                  (try simp only [Act.put, List.setIfInBounds_toArray, List.set_cons_zero, List.set_cons_succ])
                  go_cut [15] (fun v15 wc => ∃ (kq : Nat) (x15_23 : Int), v15 = .int .u64 x15_23 ∧ Aside0 (gobits_Div64.j4 kq ji15 ji13 ((ji15) / 4294967296) (Go.bits .and .u64 (ji15) 4294967295) (Go.bits .or .u64 (ji17) (ji20)) ((ji22) / 4294967296) (Go.bits .and .u64 (ji22) 4294967295) x15_23 = some (r1, r2)) ∧ Aside0 (kq ≤ kj6) ∧ Drawn0 w wc)
                  case first =>
                    have H := HC24.out
                    clear HC24
                    have H' := Aside0.mk H
                    clear H
                    go_wp2
                    repeat (go_quiet (fail); try go_wp2)
                    go_loopg [15, 16] kj6 (fun kq v15 v16 w' => ∃ (x15_3 : Int) (x16_3 : Int), v15 = .int .u64 x15_3 ∧ v16 = .int .u64 x16_3 ∧ Aside0 (gobits_Div64.l0 kq ji15 ji13 ((ji15) / 4294967296) (Go.bits .and .u64 (ji15) 4294967295) (Go.bits .or .u64 (ji17) (ji20)) ((ji22) / 4294967296) (Go.bits .and .u64 (ji22) 4294967295) x15_3 x16_3 = some (r1, r2)) ∧ Aside0 (kq ≤ kj6) ∧ Drawn0 w w')
                    case atStart => exact ⟨(IntKind.u64.wrap (Int.tdiv (Go.bits .or .u64 (ji17) (ji20)) ((ji15) / 4294967296))), (IntKind.u64.wrap ((Go.bits .or .u64 (ji17) (ji20)) - (IntKind.u64.wrap ((IntKind.u64.wrap (Int.tdiv (Go.bits .or .u64 (ji17) (ji20)) ((ji15) / 4294967296))) * ((ji15) / 4294967296))))), (by first | rfl | (simp; done) | (simp only [← hji15, ← hji17, ← hji20] <;> (first | rfl | simp)) | (simp [*]; done)), (by first | rfl | (simp; done) | (simp only [← hji15, ← hji17, ← hji20] <;> (first | rfl | simp)) | (simp [*]; done)), H', ⟨Nat.le_refl _⟩, by repeat (first | exact Drawn0.refl _ | apply Drawn0.step)⟩
                    case round =>
                      clear H'
                      try clear c1
                      try clear c2
                      try clear p2
                      try clear c3
                      try clear c5
                      try clear c5b0
                      try clear c5b1
                      try clear c6
                      try clear c6b0
                      try clear c6b1
                      try clear c8
                      try clear c8b0
                      try clear c9
                      try clear c9b0
                      try clear c9b1
                      try clear c10
                      try clear c10b0
                      try clear c10b1
                      try clear c11
                      try clear c11b0
                      try clear c11b1
                      try clear c14
                      try clear c14b0
                      try clear c14b1
                      try clear c16
                      try clear c16b0
                      try clear c19
                      try clear c19b0
                      try clear c19b1
                      try clear c21
                      try clear c21b0
                      try clear c23
                      try clear c23b0
                      try clear c23b1
                      try clear p2
                      obtain ⟨x15_3, x16_3, rfl, rfl, HA, HK3, ⟨m3, rfl⟩⟩ := hrel
                      cases gk with
                      | zero => exact absurd HA.out (by simp [gobits_Div64.l0])
                      | succ k3 =>
                        have H := HA.out
                        clear HA
                        simp only [gobits_Div64.l0] at H
                        have HC25 := Aside0.mk H
                        clear H
                        go_upto_region 17 with (fail)
                        repeat (go_quiet (fail); go_upto_region 17 with (fail))
                        go_cut [78] (fun v78 wc => ∃ (kq : Nat) (x78_24 : Bool), v78 = .bool x78_24 ∧ Aside0 (gobits_Div64.j3 kq ji15 ji13 ((ji15) / 4294967296) (Go.bits .and .u64 (ji15) 4294967295) (Go.bits .or .u64 (ji17) (ji20)) ((ji22) / 4294967296) (Go.bits .and .u64 (ji22) 4294967295) x15_3 x16_3 x78_24 = some (r1, r2)) ∧ Aside0 (kq ≤ k3) ∧ Drawn0 w wc)
                        case first =>
                          have H := HC25.out
                          clear HC25
                          by_cases c26 : x15_3 ≥ 4294967296
                          · rw [if_pos c26] at H
                            have c26b0 : decide (4294967296 ≤ x15_3) = true := decide_eq_true c26
                            clear c26
                            (first | rw [c26b0] | (simp only [i64_w, i32_w]; rw [c26b0]) | skip)
                            have H' := Aside0.mk H
                            clear H
                            go_wp2
                            repeat (go_quiet (fail); try go_wp2)
                            go_meet
                            case rel => exact ⟨_, (true), (by first | rfl | (simp; done) | (simp [*]; done)), H', ⟨by have := HJ3.out; have := HJ6.out; have := HK3.out; first | omega | exact Nat.le_refl _⟩, by repeat (first | exact Drawn0.refl _ | apply Drawn0.step)⟩
                          · rw [if_neg c26] at H
                            have c26b0 : decide (4294967296 ≤ x15_3) = false := decide_eq_false c26
                            clear c26
                            (first | rw [c26b0] | (simp only [i64_w, i32_w]; rw [c26b0]) | skip)
                            have H' := Aside0.mk H
                            clear H
                            go_wp2
                            repeat (go_quiet (fail); try go_wp2)
                            go_meet
                            case rel => exact ⟨_, (decide ((IntKind.u64.wrap (x15_3 * (Go.bits .and .u64 (ji15) 4294967295))) > (IntKind.u64.wrap ((IntKind.u64.wrap (4294967296 * x16_3)) + ((ji22) / 4294967296))))), (by first | rfl | (simp; done) | (simp only [← hji15, ← hji22] <;> (first | rfl | simp)) | (simp [*]; done)), H', ⟨by have := HJ3.out; have := HJ6.out; have := HK3.out; first | omega | exact Nat.le_refl _⟩, by repeat (first | exact Drawn0.refl _ | apply Drawn0.step)⟩
                        case rest =>
                          clear HC25
                          try clear c1
                          try clear c2
                          try clear p2
                          try clear c3
                          try clear c5
                          try clear c5b0
                          try clear c5b1
                          try clear c6
                          try clear c6b0
                          try clear c6b1
                          try clear c8
                          try clear c8b0
                          try clear c9
                          try clear c9b0
                          try clear c9b1
                          try clear c10
                          try clear c10b0
                          try clear c10b1
                          try clear c11
                          try clear c11b0
                          try clear c11b1
                          try clear c14
                          try clear c14b0
                          try clear c14b1
                          try clear c16
                          try clear c16b0
                          try clear c19
                          try clear c19b0
                          try clear c19b1
                          try clear c21
                          try clear c21b0
                          try clear c23
                          try clear c23b0
                          try clear c23b1
                          try clear c26
                          try clear c26b0
                          try clear p2
                          obtain ⟨kq, x78_24, rfl, HA, HJ24, ⟨mc24, rfl⟩⟩ := hcut
                          cases kq with
                          | zero => exact absurd HA.out (by simp [gobits_Div64.j3])
                          | succ kj24 =>
                            have H := HA.out
                            clear HA
                            simp only [gobits_Div64.j3] at H
                            by_cases c27 : x78_24 = true
                            · subst c27
                              have H1 : (if (IntKind.u64.wrap (x16_3 + ((ji15) / 4294967296))) ≥ 4294967296 then (gobits_Div64.j4 kj24 ji15 ji13 ((ji15) / 4294967296) (Go.bits .and .u64 (ji15) 4294967295) (Go.bits .or .u64 (ji17) (ji20)) ((ji22) / 4294967296) (Go.bits .and .u64 (ji22) 4294967295) (IntKind.u64.wrap (x15_3 - 1))) else (gobits_Div64.l0 kj24 ji15 ji13 ((ji15) / 4294967296) (Go.bits .and .u64 (ji15) 4294967295) (Go.bits .or .u64 (ji17) (ji20)) ((ji22) / 4294967296) (Go.bits .and .u64 (ji22) 4294967295) (IntKind.u64.wrap (x15_3 - 1)) (IntKind.u64.wrap (x16_3 + ((ji15) / 4294967296))))) = some (r1, r2) := by rw [if_pos rfl] at H; exact H
                              clear H
                              have H := H1
                              clear H1
                              by_cases c28 : (IntKind.u64.wrap (x16_3 + ((ji15) / 4294967296))) ≥ 4294967296
                              · rw [if_pos c28] at H
                                have c28b0 : decide (4294967296 ≤ (IntKind.u64.wrap (x16_3 + ((ji15) / 4294967296)))) = true := decide_eq_true c28
                                clear c28
                                have H' := Aside0.mk H
                                clear H
                                go_wp2
                                repeat (go_quiet (fail); try go_wp2)
                                go_meet
                                case rel => exact ⟨_, (IntKind.u64.wrap (x15_3 - 1)), (by first | rfl | (simp; done) | (simp [*]; done)), H', ⟨by have := HJ3.out; have := HJ6.out; have := HK3.out; have := HJ24.out; first | omega | exact Nat.le_refl _⟩, by repeat (first | exact Drawn0.refl _ | apply Drawn0.step)⟩
                              · rw [if_neg c28] at H
                                have c28b0 : decide (4294967296 ≤ (IntKind.u64.wrap (x16_3 + ((ji15) / 4294967296)))) = false := decide_eq_false c28
                                clear c28
                                have H' := Aside0.mk H
                                clear H
                                go_wp2
                                repeat (go_quiet (fail); try go_wp2)
                                go_roundg kj24
                                case measure => have := HJ3.out; have := HJ6.out; have := HK3.out; have := HJ24.out; omega
                                case rel => exact ⟨(IntKind.u64.wrap (x15_3 - 1)), (IntKind.u64.wrap (x16_3 + ((ji15) / 4294967296))), (by first | rfl | (simp; done) | (simp [*]; done)), (by first | rfl | (simp; done) | (simp only [← hji15] <;> (first | rfl | simp)) | (simp [*]; done)), H', ⟨by have := HJ3.out; have := HJ6.out; have := HK3.out; have := HJ24.out; omega⟩, by repeat (first | exact Drawn0.refl _ | apply Drawn0.step)⟩
                            · replace c27 := Bool.eq_false_iff.mpr c27
                              subst c27
                              have H1 : (gobits_Div64.j4 kj24 ji15 ji13 ((ji15) / 4294967296) (Go.bits .and .u64 (ji15) 4294967295) (Go.bits .or .u64 (ji17) (ji20)) ((ji22) / 4294967296) (Go.bits .and .u64 (ji22) 4294967295) x15_3) = some (r1, r2) := by rw [if_neg (show ¬ (false = true) by decide)] at H; exact H
                              clear H
                              have H := H1
                              clear H1
                              have H' := Aside0.mk H
                              clear H
                              go_wp2
                              repeat (go_quiet (fail); try go_wp2)
                              go_meet
                              case rel => exact ⟨_, (x15_3), (by first | rfl | (simp; done) | (simp [*]; done)), H', ⟨by have := HJ3.out; have := HJ6.out; have := HK3.out; have := HJ24.out; first | omega | exact Nat.le_refl _⟩, by repeat (first | exact Drawn0.refl _ | apply Drawn0.step)⟩
                  case rest =>
                    clear HC24
                    try clear c1
                    try clear c2
                    try clear p2
                    try clear c3
                    try clear c5
                    try clear c5b0
                    try clear c5b1
                    try clear c6
                    try clear c6b0
                    try clear c6b1
                    try clear c8
                    try clear c8b0
                    try clear c9
                    try clear c9b0
                    try clear c9b1
                    try clear c10
                    try clear c10b0
                    try clear c10b1
                    try clear c11
                    try clear c11b0
                    try clear c11b1
                    try clear c14
                    try clear c14b0
                    try clear c14b1
                    try clear c16
                    try clear c16b0
                    try clear c19
                    try clear c19b0
                    try clear c19b1
                    try clear c21
                    try clear c21b0
                    try clear c23
                    try clear c23b0
                    try clear c23b1
                    try clear c24
                    try clear c26
                    try clear c26b0
                    try clear c27
                    try clear c28
                    try clear c28b0
                    try clear p2
                    obtain ⟨kq, x15_23, rfl, HA, HJ23, ⟨mc23, rfl⟩⟩ := hcut
                    cases kq with
                    | zero => exact absurd HA.out (by simp [gobits_Div64.j4])
                    | succ kj23 =>
                      have H := HA.out
                      clear HA
                      simp only [gobits_Div64.j4] at H
                      by_cases c29 : ((ji15) / 4294967296) = 0
                      · rw [if_pos c29] at H
                        exact absurd H (by simp)
                      · rw [if_neg c29] at H
                        have c29b0 : (((ji15) / 4294967296) == 0) = false := beq_eq_false_iff_ne.mpr c29
                        have c29b1 : (((ji15) / 4294967296) != 0) = true := bne_iff_ne.mpr c29
                        have H' := Aside0.mk H
                        clear H
                        go_wp2
                        repeat (go_quiet (fail); try go_wp2)
                        go_loopg [16, 18] kj23 (fun kq v16 v18 w' => ∃ (x16_4 : Int) (x18_4 : Int), v16 = .int .u64 x16_4 ∧ v18 = .int .u64 x18_4 ∧ Aside0 (gobits_Div64.l1 kq ji15 ji13 ((ji15) / 4294967296) (Go.bits .and .u64 (ji15) 4294967295) (Go.bits .and .u64 (ji22) 4294967295) x15_23 x16_4 (IntKind.u64.wrap ((IntKind.u64.wrap ((IntKind.u64.wrap ((Go.bits .or .u64 (ji17) (ji20)) * 4294967296)) + ((ji22) / 4294967296))) - (IntKind.u64.wrap (x15_23 * ji15)))) x18_4 = some (r1, r2)) ∧ Aside0 (kq ≤ kj23) ∧ Drawn0 w w')
                        case atStart => exact ⟨(IntKind.u64.wrap ((IntKind.u64.wrap ((IntKind.u64.wrap ((IntKind.u64.wrap ((Go.bits .or .u64 (ji17) (ji20)) * 4294967296)) + ((ji22) / 4294967296))) - (IntKind.u64.wrap (x15_23 * ji15)))) - (IntKind.u64.wrap ((IntKind.u64.wrap (Int.tdiv (IntKind.u64.wrap ((IntKind.u64.wrap ((IntKind.u64.wrap ((Go.bits .or .u64 (ji17) (ji20)) * 4294967296)) + ((ji22) / 4294967296))) - (IntKind.u64.wrap (x15_23 * ji15)))) ((ji15) / 4294967296))) * ((ji15) / 4294967296))))), (IntKind.u64.wrap (Int.tdiv (IntKind.u64.wrap ((IntKind.u64.wrap ((IntKind.u64.wrap ((Go.bits .or .u64 (ji17) (ji20)) * 4294967296)) + ((ji22) / 4294967296))) - (IntKind.u64.wrap (x15_23 * ji15)))) ((ji15) / 4294967296))), (by first | rfl | (simp; done) | (simp only [← hji15, ← hji17, ← hji20, ← hji22] <;> (first | rfl | simp)) | (simp [*]; done)), (by first | rfl | (simp; done) | (simp only [← hji15, ← hji17, ← hji20, ← hji22] <;> (first | rfl | simp)) | (simp [*]; done)), H', ⟨Nat.le_refl _⟩, by repeat (first | exact Drawn0.refl _ | apply Drawn0.step)⟩
                        case round =>
                          clear H'
                          try clear c1
                          try clear c2
                          try clear p2
                          try clear c3
                          try clear c5
                          try clear c5b0
                          try clear c5b1
                          try clear c6
                          try clear c6b0
                          try clear c6b1
                          try clear c8
                          try clear c8b0
                          try clear c9
                          try clear c9b0
                          try clear c9b1
                          try clear c10
                          try clear c10b0
                          try clear c10b1
                          try clear c11
                          try clear c11b0
                          try clear c11b1
                          try clear c14
                          try clear c14b0
                          try clear c14b1
                          try clear c16
                          try clear c16b0
                          try clear c19
                          try clear c19b0
                          try clear c19b1
                          try clear c21
                          try clear c21b0
                          try clear c23
                          try clear c23b0
                          try clear c23b1
                          try clear c24
                          try clear c26
                          try clear c26b0
                          try clear c27
                          try clear c28
                          try clear c28b0
                          try clear c29
                          try clear c29b0
                          try clear c29b1
                          try clear p2
                          obtain ⟨x16_4, x18_4, rfl, rfl, HA, HK4, ⟨m4, rfl⟩⟩ := hrel
                          cases gk with
                          | zero => exact absurd HA.out (by simp [gobits_Div64.l1])
                          | succ k4 =>
                            have H := HA.out
                            clear HA
                            simp only [gobits_Div64.l1] at H
                            have HC30 := Aside0.mk H
                            clear H
                            go_upto_region 24 with (fail)
                            repeat (go_quiet (fail); go_upto_region 24 with (fail))
                            go_cut [113] (fun v113 wc => ∃ (kq : Nat) (x113_29 : Bool), v113 = .bool x113_29 ∧ Aside0 (gobits_Div64.j6 kq ji15 ji13 ((ji15) / 4294967296) (Go.bits .and .u64 (ji15) 4294967295) (Go.bits .and .u64 (ji22) 4294967295) x15_23 x16_4 (IntKind.u64.wrap ((IntKind.u64.wrap ((IntKind.u64.wrap ((Go.bits .or .u64 (ji17) (ji20)) * 4294967296)) + ((ji22) / 4294967296))) - (IntKind.u64.wrap (x15_23 * ji15)))) x18_4 x113_29 = some (r1, r2)) ∧ Aside0 (kq ≤ k4) ∧ Drawn0 w wc)
                            case first =>
                              have H := HC30.out
                              clear HC30
                              by_cases c31 : x18_4 ≥ 4294967296
                              · rw [if_pos c31] at H
                                have c31b0 : decide (4294967296 ≤ x18_4) = true := decide_eq_true c31
                                clear c31
                                (first | rw [c31b0] | (simp only [i64_w, i32_w]; rw [c31b0]) | skip)
                                have H' := Aside0.mk H
                                clear H
                                go_wp2
                                repeat (go_quiet (fail); try go_wp2)
                                go_meet
                                case rel => exact ⟨_, (true), (by first | rfl | (simp; done) | (simp [*]; done)), H', ⟨by have := HJ3.out; have := HJ6.out; have := HJ23.out; have := HK4.out; first | omega | exact Nat.le_refl _⟩, by repeat (first | exact Drawn0.refl _ | apply Drawn0.step)⟩
                              · rw [if_neg c31] at H
                                have c31b0 : decide (4294967296 ≤ x18_4) = false := decide_eq_false c31
                                clear c31
                                (first | rw [c31b0] | (simp only [i64_w, i32_w]; rw [c31b0]) | skip)
                                have H' := Aside0.mk H
                                clear H
                                go_wp2
                                repeat (go_quiet (fail); try go_wp2)
                                go_meet
                                case rel => exact ⟨_, (decide ((IntKind.u64.wrap (x18_4 * (Go.bits .and .u64 (ji15) 4294967295))) > (IntKind.u64.wrap ((IntKind.u64.wrap (4294967296 * x16_4)) + (Go.bits .and .u64 (ji22) 4294967295))))), (by first | rfl | (simp; done) | (simp only [← hji15, ← hji22] <;> (first | rfl | simp)) | (simp [*]; done)), H', ⟨by have := HJ3.out; have := HJ6.out; have := HJ23.out; have := HK4.out; first | omega | exact Nat.le_refl _⟩, by repeat (first | exact Drawn0.refl _ | apply Drawn0.step)⟩
                            case rest =>
                              clear HC30
                              try clear c1
                              try clear c2
                              try clear p2
                              try clear c3
                              try clear c5
                              try clear c5b0
                              try clear c5b1
                              try clear c6
                              try clear c6b0
                              try clear c6b1
                              try clear c8
                              try clear c8b0
                              try clear c9
                              try clear c9b0
                              try clear c9b1
                              try clear c10
                              try clear c10b0
                              try clear c10b1
                              try clear c11
                              try clear c11b0
                              try clear c11b1
                              try clear c14
                              try clear c14b0
                              try clear c14b1
                              try clear c16
                              try clear c16b0
                              try clear c19
                              try clear c19b0
                              try clear c19b1
                              try clear c21
                              try clear c21b0
                              try clear c23
                              try clear c23b0
                              try clear c23b1
                              try clear c24
                              try clear c26
                              try clear c26b0
                              try clear c27
                              try clear c28
                              try clear c28b0
                              try clear c29
                              try clear c29b0
                              try clear c29b1
                              try clear c31
                              try clear c31b0
                              try clear p2
                              obtain ⟨kq, x113_29, rfl, HA, HJ29, ⟨mc29, rfl⟩⟩ := hcut
                              cases kq with
                              | zero => exact absurd HA.out (by simp [gobits_Div64.j6])
                              | succ kj29 =>
                                have H := HA.out
                                clear HA
                                simp only [gobits_Div64.j6] at H
                                by_cases c32 : x113_29 = true
                                · subst c32
                                  have H1 : (if (IntKind.u64.wrap (x16_4 + ((ji15) / 4294967296))) ≥ 4294967296 then (if 0 ≤ ji13 then (some (IntKind.u64.wrap ((IntKind.u64.wrap (x15_23 * 4294967296)) + (IntKind.u64.wrap (x18_4 - 1))), shr .u64 (IntKind.u64.wrap ((IntKind.u64.wrap ((IntKind.u64.wrap ((IntKind.u64.wrap ((IntKind.u64.wrap ((IntKind.u64.wrap ((Go.bits .or .u64 (ji17) (ji20)) * 4294967296)) + ((ji22) / 4294967296))) - (IntKind.u64.wrap (x15_23 * ji15)))) * 4294967296)) + (Go.bits .and .u64 (ji22) 4294967295))) - (IntKind.u64.wrap ((IntKind.u64.wrap (x18_4 - 1)) * ji15)))) ji13)) else (none)) else (gobits_Div64.l1 kj29 ji15 ji13 ((ji15) / 4294967296) (Go.bits .and .u64 (ji15) 4294967295) (Go.bits .and .u64 (ji22) 4294967295) x15_23 (IntKind.u64.wrap (x16_4 + ((ji15) / 4294967296))) (IntKind.u64.wrap ((IntKind.u64.wrap ((IntKind.u64.wrap ((Go.bits .or .u64 (ji17) (ji20)) * 4294967296)) + ((ji22) / 4294967296))) - (IntKind.u64.wrap (x15_23 * ji15)))) (IntKind.u64.wrap (x18_4 - 1)))) = some (r1, r2) := by rw [if_pos rfl] at H; exact H
                                  clear H
                                  have H := H1
                                  clear H1
                                  by_cases c33 : (IntKind.u64.wrap (x16_4 + ((ji15) / 4294967296))) ≥ 4294967296
                                  · rw [if_pos c33] at H
                                    have c33b0 : decide (4294967296 ≤ (IntKind.u64.wrap (x16_4 + ((ji15) / 4294967296)))) = true := decide_eq_true c33
                                    clear c33
                                    by_cases c34 : 0 ≤ ji13
                                    · rw [if_pos c34] at H
                                      have c34b0 := eq_true c34
                                      have c34b1 : decide (0 ≤ ji13) = true := decide_eq_true c34
                                      clear c34
                                      obtain ⟨ji35, hji35⟩ : ∃ j_ : Int, (shr .u64 (IntKind.u64.wrap ((IntKind.u64.wrap ((IntKind.u64.wrap ((IntKind.u64.wrap ((IntKind.u64.wrap ((IntKind.u64.wrap ((Go.bits .or .u64 (ji17) (ji20)) * 4294967296)) + ((ji22) / 4294967296))) - (IntKind.u64.wrap (x15_23 * ji15)))) * 4294967296)) + (Go.bits .and .u64 (ji22) 4294967295))) - (IntKind.u64.wrap ((IntKind.u64.wrap (x18_4 - 1)) * ji15)))) ji13) = j_ := ⟨_, rfl⟩
                                      replace H : (some (IntKind.u64.wrap ((IntKind.u64.wrap (x15_23 * 4294967296)) + (IntKind.u64.wrap (x18_4 - 1))), ji35)) = some (r1, r2) := by first | (rw [hji35] at H; exact H) | (simp only [hji35] at H ⊢; exact H)
                                      have hji35_ : ((IntKind.u64.wrap ((IntKind.u64.wrap ((IntKind.u64.wrap ((IntKind.u64.wrap ((IntKind.u64.wrap ((IntKind.u64.wrap ((Go.bits .or .u64 (ji17) (ji20)) * 4294967296)) + ((ji22) / 4294967296))) - (IntKind.u64.wrap (x15_23 * ji15)))) * 4294967296)) + (Go.bits .and .u64 (ji22) 4294967295))) - (IntKind.u64.wrap ((IntKind.u64.wrap (x18_4 - 1)) * ji15)))) / 2 ^ min ji13.toNat 64) = ji35 := hji35
                                      have hji35z : ji13 ≤ 64 → ((IntKind.u64.wrap ((IntKind.u64.wrap ((IntKind.u64.wrap ((IntKind.u64.wrap ((IntKind.u64.wrap ((IntKind.u64.wrap ((Go.bits .or .u64 (ji17) (ji20)) * 4294967296)) + ((ji22) / 4294967296))) - (IntKind.u64.wrap (x15_23 * ji15)))) * 4294967296)) + (Go.bits .and .u64 (ji22) 4294967295))) - (IntKind.u64.wrap ((IntKind.u64.wrap (x18_4 - 1)) * ji15)))) / 2 ^ ji13.toNat) = ji35 := shr_small hji35
                                      simp only [Option.some.injEq, Prod.mk.injEq] at H
                                      obtain ⟨rfl, rfl⟩ := H
                                      go_wp2
                                      repeat (go_quiet (fail); try go_wp2)
                                      go_ret2
                                      exact ⟨by first | rfl | (simp; done) | (simp only [← hji13, ← hji15, ← hji17, ← hji18, ← hji20, ← hji22, ← hji35] <;> (first | rfl | simp)) | (simp [*]; done), by repeat (first | exact Drawn0.refl _ | apply Drawn0.step)⟩
                                    · rw [if_neg c34] at H
                                      exact absurd H (by simp)
                                  · rw [if_neg c33] at H
                                    have c33b0 : decide (4294967296 ≤ (IntKind.u64.wrap (x16_4 + ((ji15) / 4294967296)))) = false := decide_eq_false c33
                                    clear c33
                                    have H' := Aside0.mk H
                                    clear H
                                    go_wp2
                                    repeat (go_quiet (fail); try go_wp2)
                                    go_roundg kj29
                                    case measure => have := HJ3.out; have := HJ6.out; have := HJ23.out; have := HK4.out; have := HJ29.out; omega
                                    case rel => exact ⟨(IntKind.u64.wrap (x16_4 + ((ji15) / 4294967296))), (IntKind.u64.wrap (x18_4 - 1)), (by first | rfl | (simp; done) | (simp only [← hji15] <;> (first | rfl | simp)) | (simp [*]; done)), (by first | rfl | (simp; done) | (simp [*]; done)), H', ⟨by have := HJ3.out; have := HJ6.out; have := HJ23.out; have := HK4.out; have := HJ29.out; omega⟩, by repeat (first | exact Drawn0.refl _ | apply Drawn0.step)⟩
                                · replace c32 := Bool.eq_false_iff.mpr c32
                                  subst c32
                                  have H1 : (if 0 ≤ ji13 then (some (IntKind.u64.wrap ((IntKind.u64.wrap (x15_23 * 4294967296)) + x18_4), shr .u64 (IntKind.u64.wrap ((IntKind.u64.wrap ((IntKind.u64.wrap ((IntKind.u64.wrap ((IntKind.u64.wrap ((IntKind.u64.wrap ((Go.bits .or .u64 (ji17) (ji20)) * 4294967296)) + ((ji22) / 4294967296))) - (IntKind.u64.wrap (x15_23 * ji15)))) * 4294967296)) + (Go.bits .and .u64 (ji22) 4294967295))) - (IntKind.u64.wrap (x18_4 * ji15)))) ji13)) else (none)) = some (r1, r2) := by rw [if_neg (show ¬ (false = true) by decide)] at H; exact H
                                  clear H
                                  have H := H1
                                  clear H1
                                  by_cases c36 : 0 ≤ ji13
                                  · rw [if_pos c36] at H
                                    have c36b0 := eq_true c36
                                    have c36b1 : decide (0 ≤ ji13) = true := decide_eq_true c36
                                    clear c36
                                    obtain ⟨ji37, hji37⟩ : ∃ j_ : Int, (shr .u64 (IntKind.u64.wrap ((IntKind.u64.wrap ((IntKind.u64.wrap ((IntKind.u64.wrap ((IntKind.u64.wrap ((IntKind.u64.wrap ((Go.bits .or .u64 (ji17) (ji20)) * 4294967296)) + ((ji22) / 4294967296))) - (IntKind.u64.wrap (x15_23 * ji15)))) * 4294967296)) + (Go.bits .and .u64 (ji22) 4294967295))) - (IntKind.u64.wrap (x18_4 * ji15)))) ji13) = j_ := ⟨_, rfl⟩
                                    replace H : (some (IntKind.u64.wrap ((IntKind.u64.wrap (x15_23 * 4294967296)) + x18_4), ji37)) = some (r1, r2) := by first | (rw [hji37] at H; exact H) | (simp only [hji37] at H ⊢; exact H)
                                    have hji37_ : ((IntKind.u64.wrap ((IntKind.u64.wrap ((IntKind.u64.wrap ((IntKind.u64.wrap ((IntKind.u64.wrap ((IntKind.u64.wrap ((Go.bits .or .u64 (ji17) (ji20)) * 4294967296)) + ((ji22) / 4294967296))) - (IntKind.u64.wrap (x15_23 * ji15)))) * 4294967296)) + (Go.bits .and .u64 (ji22) 4294967295))) - (IntKind.u64.wrap (x18_4 * ji15)))) / 2 ^ min ji13.toNat 64) = ji37 := hji37
                                    have hji37z : ji13 ≤ 64 → ((IntKind.u64.wrap ((IntKind.u64.wrap ((IntKind.u64.wrap ((IntKind.u64.wrap ((IntKind.u64.wrap ((IntKind.u64.wrap ((Go.bits .or .u64 (ji17) (ji20)) * 4294967296)) + ((ji22) / 4294967296))) - (IntKind.u64.wrap (x15_23 * ji15)))) * 4294967296)) + (Go.bits .and .u64 (ji22) 4294967295))) - (IntKind.u64.wrap (x18_4 * ji15)))) / 2 ^ ji13.toNat) = ji37 := shr_small hji37
                                    simp only [Option.some.injEq, Prod.mk.injEq] at H
                                    obtain ⟨rfl, rfl⟩ := H
                                    go_wp2
                                    repeat (go_quiet (fail); try go_wp2)
                                    go_ret2
                                    exact ⟨by first | rfl | (simp; done) | (simp only [← hji13, ← hji15, ← hji17, ← hji18, ← hji20, ← hji22, ← hji37] <;> (first | rfl | simp)) | (simp [*]; done), by repeat (first | exact Drawn0.refl _ | apply Drawn0.step)⟩
                                  · rw [if_neg c36] at H
                                    exact absurd H (by simp)
              · rw [if_neg c19] at H
                exact absurd H (by simp)
            · rw [if_neg c14] at H
              exact absurd H (by simp)
/-! ### uint128_Uint128_QuoRem64: function 54 -/
def uint128_Uint128_QuoRem64.f (k : Nat) (a0_0 : Int) (a0_1 : Int) (a1 : Int) : Option (Int × Int × Int) := if a0_1 < a1 then ((gobits_Div64.f k a0_1 a0_0 a1).bind fun bt180 => (some (bt180.1, 0, bt180.2))) else ((gobits_Div64.f k 0 a0_1 a1).bind fun bt182 => ((gobits_Div64.f k bt182.2 a0_0 a1).bind fun bt184 => (some (bt184.1, bt182.1, bt184.2))))
theorem uint128_Uint128_QuoRem64.mono : ∀ a0 a1 a2 k, LeO (uint128_Uint128_QuoRem64.f k a0 a1 a2) (uint128_Uint128_QuoRem64.f (k + 1) a0 a1 a2) := by
  intro a0 a1 a2 k
  unfold uint128_Uint128_QuoRem64.f
  repeat' first
      | (with_reducible exact gobits_Div64.mono _ _ _ _)
      | (with_reducible exact LeO.refl _)
      | (with_reducible exact LeO.none _)
      | (with_reducible refine LeO.ite ?_ ?_)
      | (with_reducible refine LeO.bind ?_ (fun _ => ?_))
      | exact gobits_Div64.mono _ _ _ _
      | exact LeO.none _
      | refine LeO.ite ?_ ?_
      | refine LeO.bind ?_ (fun _ => ?_)
set_option maxHeartbeats 8000000 in
set_option maxRecDepth 100000 in
theorem uint128_Uint128_QuoRem64.calls (k : Nat) (a0_0 : Int) (a0_1 : Int) (a1 : Int) (r1 : Int) (r2 : Int) (r3 : Int) (w : World) (h : uint128_Uint128_QuoRem64.f k a0_0 a0_1 a1 = some (r1, r2, r3)) :
    Calls Tryd.prog 54 #[.agg #[.int .u64 a0_0, .int .u64 a0_1], .int .u64 a1] w fun e w' => e = .returned (.tuple #[.agg #[.int .u64 r1, .int .u64 r2], .int .u64 r3]) ∧ Below w.heap.size w w' := by
  have hu65 := Tryd.underlying65
  have HB := Aside0.mk (Below.refl w.heap.size w)
  have H : (if a0_1 < a1 then ((gobits_Div64.f k a0_1 a0_0 a1).bind fun bt180 => (some (bt180.1, 0, bt180.2))) else ((gobits_Div64.f k 0 a0_1 a1).bind fun bt182 => ((gobits_Div64.f k bt182.2 a0_0 a1).bind fun bt184 => (some (bt184.1, bt182.1, bt184.2))))) = some (r1, r2, r3) := h
  clear h
  by_cases c3 : a0_1 < a1
  · rw [if_pos c3] at H
    have c3b0 : decide (a0_1 < a1) = true := decide_eq_true c3
    clear c3
    replace H := Option.bind_eq_some_iff.mp H
    obtain ⟨⟨t180, t181⟩, A40, H⟩ := H
    replace H : (some (t180, 0, t181)) = some (r1, r2, r3) := H
    have A4 := Aside0.mk A40
    clear A40
    simp only [Option.some.injEq, Prod.mk.injEq] at H
    obtain ⟨rfl, rfl, rfl⟩ := H
    go_enter Tryd.func54, Tryd.ntmps54
    go_wp2_with (first | ((with_reducible refine gate_dst (N := 2) rfl ?_); refine box_event ?hg (N := 2) ?hd (cs := #[.int .u64 a0_0, .int .u64 a0_1]) (t := 65) ?hr ?_; (case hd => rfl); (case hg => rfl); (case hr => first | (go_simp; done) | (go_simp; rfl)); intro gb178 hg w5 hbox hb; have n0_ := Aside0.mk (below_step (by repeat (first | (with_reducible first | exact HB.out | apply below_alloc | apply pw_below_drewN | apply below_drew1) | exact HB.out)) hb); have n1_ := Aside0.mk (hbox); have n2_ := Aside0.mk ((by rw [hg]; exact (below_size (by repeat (first | (with_reducible first | exact HB.out | apply below_alloc | apply pw_below_drewN | apply below_drew1) | exact HB.out))) : w.heap.size ≤ gb178)); have n3_ := Aside0.mk ((by rw [hg]; exact (below_size (by repeat (first | (with_reducible first | exact HB.out | apply below_alloc | apply pw_below_drewN | apply below_drew1) | exact HB.out))) : w.heap.size ≤ gb178)); clear HB; have HB := n0_; have BK178 := n1_; have GW178 := n2_; have GE178 := n3_; clear n0_ n1_ n2_ n3_; clear hb hbox hg) | ((with_reducible refine gate_dst (N := 4) rfl ?_); refine box_event ?hg (N := 4) ?hd (cs := #[.int .u64 0, .int .u64 0]) (t := 65) ?hr ?_; (case hd => rfl); (case hg => rfl); (case hr => first | (go_simp; done) | (go_simp; rfl)); intro gb179 hg w6 hbox hb; have n0_ := Aside0.mk (blk_below (g := gb178) (o := .cells #[.int .u64 a0_0, .int .u64 a0_1] 65 (0, 0)) (by exact BK178.out) hb); have n1_ := Aside0.mk (below_step (by repeat (first | (with_reducible first | exact HB.out | apply below_alloc | apply pw_below_drewN | apply below_drew1 | refine below_set ?_ GE178.out) | exact HB.out)) hb); have n2_ := Aside0.mk (hbox); have n3_ := Aside0.mk ((by rw [hg]; exact (below_size (by repeat (first | (with_reducible first | exact HB.out | apply below_alloc | apply pw_below_drewN | apply below_drew1 | refine below_set ?_ GE178.out) | exact HB.out))) : w.heap.size ≤ gb179)); have n4_ := Aside0.mk ((by rw [hg]; exact (below_size (by repeat (first | (with_reducible first | exact HB.out | apply below_alloc | apply pw_below_drewN | apply below_drew1 | refine below_set ?_ GE178.out) | exact HB.out))) : w.heap.size ≤ gb179)); have n5_ := Aside0.mk ((by rw [hg]; exact Nat.ne_of_lt (blk_lt (g := gb178) (o := .cells #[.int .u64 a0_0, .int .u64 a0_1] 65 (0, 0)) (by exact BK178.out)) : gb178 ≠ gb179)); have n6_ := Aside0.mk ((by rw [hg]; exact Nat.ne_of_gt (blk_lt (g := gb178) (o := .cells #[.int .u64 a0_0, .int .u64 a0_1] 65 (0, 0)) (by exact BK178.out)) : gb179 ≠ gb178)); clear BK178; clear HB; have BK178 := n0_; have HB := n1_; have BK179 := n2_; have GW179 := n3_; have GE179 := n4_; have NB178_179 := n5_; have NB179_178 := n6_; clear n0_ n1_ n2_ n3_ n4_ n5_ n6_; clear hb hbox hg; have hnb7 := NB178_179.out; have hnc7 := NB179_178.out; have hcz8_0 : w6.cell? ⟨gb178, 0, none⟩ = some (.int .u64 a0_0) := (blk_cell BK178.out 0).trans rfl; have hcz8_1 : w6.cell? ⟨gb178, 1, none⟩ = some (.int .u64 a0_1) := (blk_cell BK178.out 1).trans rfl; have hfz8_0 := blk_frozen BK178.out 0; have hfz8_1 := blk_frozen BK178.out 1) | ((with_reducible refine gate_callee (f := 104) rfl ?_); refine goesL_ (some 16) rfl rfl Tryd.func104 (by kernel_rfl) rfl #[.int .u64 a0_1, .int .u64 a0_0, .int .u64 a1] rfl (by (try simp only [List.map_toArray, List.map_cons, List.map_nil]); first | done | rfl | (simp only [List.length_drop, List.length_take]; rfl)) ?_; (with_reducible refine (gobits_Div64.calls k a0_1 a0_0 a1 t180 t181 _ A4.out).mono ?_); rintro e w' ⟨rfl, ⟨nd, rfl⟩⟩; refine ⟨_, rfl, ?_⟩; (try (rw [drewN_self w6]; generalize hq_ : World.drewN w6 _ = w6; have n0_ : Aside0 (w6.heap[gb178]? = some (.cells #[.int .u64 a0_0, .int .u64 a0_1] 65 (0, 0))) := ⟨by rw [← hq_]; exact (by exact BK178.out)⟩; have n1_ : Aside0 (w6.heap[gb179]? = some (.cells #[.int .u64 0, .int .u64 0] 65 (0, 0))) := ⟨by rw [← hq_]; exact (by exact BK179.out)⟩; have n2_ : Aside0 (Below w.heap.size w w6) := ⟨by rw [← hq_]; exact (by repeat (first | (with_reducible first | exact HB.out | apply below_alloc | apply pw_below_drewN | apply below_drew1 | refine below_set ?_ GE178.out | refine below_set ?_ GE179.out) | exact HB.out))⟩; clear BK178 BK179 HB hq_; have BK178 := n0_; have BK179 := n1_; have HB := n2_; clear n0_ n1_ n2_)); have hcy178_0 : w6.cell? ⟨gb178, 0, none⟩ = some (.int .u64 a0_0) := (blk_cell BK178.out 0).trans rfl; have hfy178_0 := blk_frozen BK178.out 0; have hcy178_1 : w6.cell? ⟨gb178, 1, none⟩ = some (.int .u64 a0_1) := (blk_cell BK178.out 1).trans rfl; have hfy178_1 := blk_frozen BK178.out 1; have hcy179_0 : w6.cell? ⟨gb179, 0, none⟩ = some (.int .u64 0) := (blk_cell BK179.out 0).trans rfl; have hfy179_0 := blk_frozen BK179.out 0; have hcy179_1 : w6.cell? ⟨gb179, 1, none⟩ = some (.int .u64 0) := (blk_cell BK179.out 1).trans rfl; have hfy179_1 := blk_frozen BK179.out 1; have hcz9_0 : w6.cell? ⟨gb179, 0, none⟩ = some (.int .u64 0) := (blk_cell BK179.out 0).trans rfl; have hcz9_1 : w6.cell? ⟨gb179, 1, none⟩ = some (.int .u64 0) := (blk_cell BK179.out 1).trans rfl; have hfz9_0 := blk_frozen BK179.out 0; have hfz9_1 := blk_frozen BK179.out 1))
    refine bodyPost_ret (results_ct rfl _ _ gb179 65 #[.int .u64 t180, .int .u64 0] (0, 0) _ rfl (by (with_reducible repeat (first | refine blk_drewN ?_ _ | refine blk_drew ?_ | refine blk_alloc ?_ _)); refine blk_put (cs := #[.int .u64 0, .int .u64 0]) ?_ 0 _ rfl; (with_reducible repeat (first | refine blk_drewN ?_ _ | refine blk_drew ?_ | refine blk_alloc ?_ _)); exact BK179.out) Tryd.underlying65 rfl (by kernel_rfl)) rfl ?_
    exact ⟨by first | rfl | (simp [errW_none, errW_some] <;> rfl) | (simp [*, errW_none, errW_some] <;> rfl), by repeat (first | (with_reducible first | exact HB.out | apply below_alloc | apply pw_below_drewN | apply below_drew1 | refine below_set ?_ GE178.out | refine below_set ?_ GE179.out) | exact HB.out)⟩
  · rw [if_neg c3] at H
    have c3b0 : decide (a0_1 < a1) = false := decide_eq_false c3
    clear c3
    replace H := Option.bind_eq_some_iff.mp H
    obtain ⟨⟨t182, t183⟩, A100, H⟩ := H
    replace H : ((gobits_Div64.f k t183 a0_0 a1).bind fun bt184 => (some (bt184.1, t182, bt184.2))) = some (r1, r2, r3) := H
    have A10 := Aside0.mk A100
    clear A100
    replace H := Option.bind_eq_some_iff.mp H
    obtain ⟨⟨t184, t185⟩, A110, H⟩ := H
    replace H : (some (t184, t182, t185)) = some (r1, r2, r3) := H
    have A11 := Aside0.mk A110
    clear A110
    simp only [Option.some.injEq, Prod.mk.injEq] at H
    obtain ⟨rfl, rfl, rfl⟩ := H
    go_enter Tryd.func54, Tryd.ntmps54
    go_wp2_with (first | ((with_reducible refine gate_dst (N := 2) rfl ?_); refine box_event ?hg (N := 2) ?hd (cs := #[.int .u64 a0_0, .int .u64 a0_1]) (t := 65) ?hr ?_; (case hd => rfl); (case hg => rfl); (case hr => first | (go_simp; done) | (go_simp; rfl)); intro gb178 hg w12 hbox hb; have n0_ := Aside0.mk (below_step (by repeat (first | (with_reducible first | exact HB.out | apply below_alloc | apply pw_below_drewN | apply below_drew1) | exact HB.out)) hb); have n1_ := Aside0.mk (hbox); have n2_ := Aside0.mk ((by rw [hg]; exact (below_size (by repeat (first | (with_reducible first | exact HB.out | apply below_alloc | apply pw_below_drewN | apply below_drew1) | exact HB.out))) : w.heap.size ≤ gb178)); have n3_ := Aside0.mk ((by rw [hg]; exact (below_size (by repeat (first | (with_reducible first | exact HB.out | apply below_alloc | apply pw_below_drewN | apply below_drew1) | exact HB.out))) : w.heap.size ≤ gb178)); clear HB; have HB := n0_; have BK178 := n1_; have GW178 := n2_; have GE178 := n3_; clear n0_ n1_ n2_ n3_; clear hb hbox hg) | ((with_reducible refine gate_dst (N := 4) rfl ?_); refine box_event ?hg (N := 4) ?hd (cs := #[.int .u64 0, .int .u64 0]) (t := 65) ?hr ?_; (case hd => rfl); (case hg => rfl); (case hr => first | (go_simp; done) | (go_simp; rfl)); intro gb179 hg w13 hbox hb; have n0_ := Aside0.mk (blk_below (g := gb178) (o := .cells #[.int .u64 a0_0, .int .u64 a0_1] 65 (0, 0)) (by exact BK178.out) hb); have n1_ := Aside0.mk (below_step (by repeat (first | (with_reducible first | exact HB.out | apply below_alloc | apply pw_below_drewN | apply below_drew1 | refine below_set ?_ GE178.out) | exact HB.out)) hb); have n2_ := Aside0.mk (hbox); have n3_ := Aside0.mk ((by rw [hg]; exact (below_size (by repeat (first | (with_reducible first | exact HB.out | apply below_alloc | apply pw_below_drewN | apply below_drew1 | refine below_set ?_ GE178.out) | exact HB.out))) : w.heap.size ≤ gb179)); have n4_ := Aside0.mk ((by rw [hg]; exact (below_size (by repeat (first | (with_reducible first | exact HB.out | apply below_alloc | apply pw_below_drewN | apply below_drew1 | refine below_set ?_ GE178.out) | exact HB.out))) : w.heap.size ≤ gb179)); have n5_ := Aside0.mk ((by rw [hg]; exact Nat.ne_of_lt (blk_lt (g := gb178) (o := .cells #[.int .u64 a0_0, .int .u64 a0_1] 65 (0, 0)) (by exact BK178.out)) : gb178 ≠ gb179)); have n6_ := Aside0.mk ((by rw [hg]; exact Nat.ne_of_gt (blk_lt (g := gb178) (o := .cells #[.int .u64 a0_0, .int .u64 a0_1] 65 (0, 0)) (by exact BK178.out)) : gb179 ≠ gb178)); clear BK178; clear HB; have BK178 := n0_; have HB := n1_; have BK179 := n2_; have GW179 := n3_; have GE179 := n4_; have NB178_179 := n5_; have NB179_178 := n6_; clear n0_ n1_ n2_ n3_ n4_ n5_ n6_; clear hb hbox hg; have hnb14 := NB178_179.out; have hnc14 := NB179_178.out; have hcz15_0 : w13.cell? ⟨gb178, 0, none⟩ = some (.int .u64 a0_0) := (blk_cell BK178.out 0).trans rfl; have hcz15_1 : w13.cell? ⟨gb178, 1, none⟩ = some (.int .u64 a0_1) := (blk_cell BK178.out 1).trans rfl; have hfz15_0 := blk_frozen BK178.out 0; have hfz15_1 := blk_frozen BK178.out 1) | ((with_reducible refine gate_callee (f := 104) rfl ?_); refine goesL_ (some 24) rfl rfl Tryd.func104 (by kernel_rfl) rfl #[.int .u64 0, .int .u64 a0_1, .int .u64 a1] rfl (by (try simp only [List.map_toArray, List.map_cons, List.map_nil]); first | done | rfl | (simp only [List.length_drop, List.length_take]; rfl)) ?_; (with_reducible refine (gobits_Div64.calls k 0 a0_1 a1 t182 t183 _ A10.out).mono ?_); rintro e w' ⟨rfl, ⟨nd, rfl⟩⟩; refine ⟨_, rfl, ?_⟩; (try (rw [drewN_self w13]; generalize hq_ : World.drewN w13 _ = w13; have n0_ : Aside0 (w13.heap[gb178]? = some (.cells #[.int .u64 a0_0, .int .u64 a0_1] 65 (0, 0))) := ⟨by rw [← hq_]; exact (by exact BK178.out)⟩; have n1_ : Aside0 (w13.heap[gb179]? = some (.cells #[.int .u64 0, .int .u64 0] 65 (0, 0))) := ⟨by rw [← hq_]; exact (by exact BK179.out)⟩; have n2_ : Aside0 (Below w.heap.size w w13) := ⟨by rw [← hq_]; exact (by repeat (first | (with_reducible first | exact HB.out | apply below_alloc | apply pw_below_drewN | apply below_drew1 | refine below_set ?_ GE178.out | refine below_set ?_ GE179.out) | exact HB.out))⟩; clear BK178 BK179 HB hq_; have BK178 := n0_; have BK179 := n1_; have HB := n2_; clear n0_ n1_ n2_)); have hcy178_0 : w13.cell? ⟨gb178, 0, none⟩ = some (.int .u64 a0_0) := (blk_cell BK178.out 0).trans rfl; have hfy178_0 := blk_frozen BK178.out 0; have hcy178_1 : w13.cell? ⟨gb178, 1, none⟩ = some (.int .u64 a0_1) := (blk_cell BK178.out 1).trans rfl; have hfy178_1 := blk_frozen BK178.out 1; have hcy179_0 : w13.cell? ⟨gb179, 0, none⟩ = some (.int .u64 0) := (blk_cell BK179.out 0).trans rfl; have hfy179_0 := blk_frozen BK179.out 0; have hcy179_1 : w13.cell? ⟨gb179, 1, none⟩ = some (.int .u64 0) := (blk_cell BK179.out 1).trans rfl; have hfy179_1 := blk_frozen BK179.out 1; have hcz16_0 : w13.cell? ⟨gb179, 0, none⟩ = some (.int .u64 0) := (blk_cell BK179.out 0).trans rfl; have hcz16_1 : w13.cell? ⟨gb179, 1, none⟩ = some (.int .u64 0) := (blk_cell BK179.out 1).trans rfl; have hfz16_0 := blk_frozen BK179.out 0; have hfz16_1 := blk_frozen BK179.out 1) | ((with_reducible refine gate_callee (f := 104) rfl ?_); refine goesL_ (some 33) rfl rfl Tryd.func104 (by kernel_rfl) rfl #[.int .u64 t183, .int .u64 a0_0, .int .u64 a1] rfl (by (try simp only [List.map_toArray, List.map_cons, List.map_nil]); first | done | rfl | (simp only [List.length_drop, List.length_take]; rfl)) ?_; (with_reducible refine (gobits_Div64.calls k t183 a0_0 a1 t184 t185 _ A11.out).mono ?_); rintro e w' ⟨rfl, ⟨nd, rfl⟩⟩; refine ⟨_, rfl, ?_⟩))
    refine bodyPost_ret (results_ct rfl _ _ gb179 65 #[.int .u64 t184, .int .u64 t182] (0, 0) _ rfl (by (with_reducible repeat (first | refine blk_drewN ?_ _ | refine blk_drew ?_ | refine blk_alloc ?_ _)); refine blk_put (cs := #[.int .u64 0, .int .u64 t182]) ?_ 0 _ rfl; (with_reducible repeat (first | refine blk_drewN ?_ _ | refine blk_drew ?_ | refine blk_alloc ?_ _)); refine blk_put (cs := #[.int .u64 0, .int .u64 0]) ?_ 1 _ rfl; (with_reducible repeat (first | refine blk_drewN ?_ _ | refine blk_drew ?_ | refine blk_alloc ?_ _)); exact BK179.out) Tryd.underlying65 rfl (by kernel_rfl)) rfl ?_
    exact ⟨by first | rfl | (simp [errW_none, errW_some] <;> rfl) | (simp [*, errW_none, errW_some] <;> rfl), by repeat (first | (with_reducible first | exact HB.out | apply below_alloc | apply pw_below_drewN | apply below_drew1 | refine below_set ?_ GE178.out | refine below_set ?_ GE179.out) | exact HB.out)⟩
/-! ### uint128_Uint128_IsZero: function 98 -/
def uint128_Uint128_IsZero.f (a0_0 : Int) (a0_1 : Int) : Option (Bool) := some (a0_0 == 0 && (a0_1 == 0))
set_option maxHeartbeats 8000000 in
set_option maxRecDepth 100000 in
theorem uint128_Uint128_IsZero.calls (a0_0 : Int) (a0_1 : Int) (r : Bool) (w : World) (h : uint128_Uint128_IsZero.f a0_0 a0_1 = some r) :
    Calls Tryd.prog 98 #[.agg #[.int .u64 a0_0, .int .u64 a0_1]] w fun e w' => e = .returned (.bool r) ∧ Below w.heap.size w w' := by
  have hu65 := Tryd.underlying65
  have HB := Aside0.mk (Below.refl w.heap.size w)
  have H : (some (a0_0 == 0 && (a0_1 == 0))) = some r := h
  clear h
  obtain rfl := Option.some.inj H
  go_enter Tryd.func98, Tryd.ntmps98
  go_wp2_with (first | ((with_reducible refine gate_dst (N := 1) rfl ?_); refine box_event ?hg (N := 1) ?hd (cs := #[.int .u64 a0_0, .int .u64 a0_1]) (t := 65) ?hr ?_; (case hd => rfl); (case hg => rfl); (case hr => first | (go_simp; done) | (go_simp; rfl)); intro gb186 hg w2 hbox hb; have n0_ := Aside0.mk (below_step (by repeat (first | (with_reducible first | exact HB.out | apply below_alloc | apply pw_below_drewN | apply below_drew1) | exact HB.out)) hb); have n1_ := Aside0.mk (hbox); have n2_ := Aside0.mk ((by rw [hg]; exact (below_size (by repeat (first | (with_reducible first | exact HB.out | apply below_alloc | apply pw_below_drewN | apply below_drew1) | exact HB.out))) : w.heap.size ≤ gb186)); have n3_ := Aside0.mk ((by rw [hg]; exact (below_size (by repeat (first | (with_reducible first | exact HB.out | apply below_alloc | apply pw_below_drewN | apply below_drew1) | exact HB.out))) : w.heap.size ≤ gb186)); clear HB; have HB := n0_; have BK186 := n1_; have GW186 := n2_; have GE186 := n3_; clear n0_ n1_ n2_ n3_; clear hb hbox hg; have hcz3_0 : w2.cell? ⟨gb186, 0, none⟩ = some (.int .u64 a0_0) := (blk_cell BK186.out 0).trans rfl; have hcz3_1 : w2.cell? ⟨gb186, 1, none⟩ = some (.int .u64 a0_1) := (blk_cell BK186.out 1).trans rfl; have hfz3_0 := blk_frozen BK186.out 0; have hfz3_1 := blk_frozen BK186.out 1))
  go_ret
  exact ⟨by first | rfl | (simp [errW_none, errW_some] <;> rfl) | (simp [*, errW_none, errW_some] <;> rfl), by repeat (first | (with_reducible first | exact HB.out | apply below_alloc | apply pw_below_drewN | apply below_drew1 | refine below_set ?_ GE186.out) | exact HB.out)⟩
/-! ### impl_Wide_u: function 46 -/
def impl_Wide_u.f (a0_0 : Int) (a0_1 : Int) : Option (Int × Int) := some (a0_0, a0_1)
set_option maxHeartbeats 8000000 in
set_option maxRecDepth 100000 in
theorem impl_Wide_u.calls (a0_0 : Int) (a0_1 : Int) (r1 : Int) (r2 : Int) (w : World) (h : impl_Wide_u.f a0_0 a0_1 = some (r1, r2)) :
    Calls Tryd.prog 46 #[.agg #[.int .u64 a0_0, .int .u64 a0_1]] w fun e w' => e = .returned (.agg #[.int .u64 r1, .int .u64 r2]) ∧ Below w.heap.size w w' := by
  have hu24 := Tryd.underlying24
  have hu65 := Tryd.underlying65
  have HB := Aside0.mk (Below.refl w.heap.size w)
  have H : (some (a0_0, a0_1)) = some (r1, r2) := h
  clear h
  simp only [Option.some.injEq, Prod.mk.injEq] at H
  obtain ⟨rfl, rfl⟩ := H
  go_enter Tryd.func46, Tryd.ntmps46
  go_wp2_with (first | ((with_reducible refine gate_dst (N := 1) rfl ?_); refine box_event ?hg (N := 1) ?hd (cs := #[.int .u64 a0_0, .int .u64 a0_1]) (t := 24) ?hr ?_; (case hd => rfl); (case hg => rfl); (case hr => first | (go_simp; done) | (go_simp; rfl)); intro gb187 hg w2 hbox hb; have n0_ := Aside0.mk (below_step (by repeat (first | (with_reducible first | exact HB.out | apply below_alloc | apply pw_below_drewN | apply below_drew1) | exact HB.out)) hb); have n1_ := Aside0.mk (hbox); have n2_ := Aside0.mk ((by rw [hg]; exact (below_size (by repeat (first | (with_reducible first | exact HB.out | apply below_alloc | apply pw_below_drewN | apply below_drew1) | exact HB.out))) : w.heap.size ≤ gb187)); have n3_ := Aside0.mk ((by rw [hg]; exact (below_size (by repeat (first | (with_reducible first | exact HB.out | apply below_alloc | apply pw_below_drewN | apply below_drew1) | exact HB.out))) : w.heap.size ≤ gb187)); clear HB; have HB := n0_; have BK187 := n1_; have GW187 := n2_; have GE187 := n3_; clear n0_ n1_ n2_ n3_; clear hb hbox hg) | ((with_reducible refine gate_dst (N := 2) rfl ?_); refine box_event ?hg (N := 2) ?hd (cs := #[.int .u64 0, .int .u64 0]) (t := 65) ?hr ?_; (case hd => rfl); (case hg => rfl); (case hr => first | (go_simp; done) | (go_simp; rfl)); intro gb188 hg w3 hbox hb; have n0_ := Aside0.mk (blk_below (g := gb187) (o := .cells #[.int .u64 a0_0, .int .u64 a0_1] 24 (0, 0)) (by exact BK187.out) hb); have n1_ := Aside0.mk (below_step (by repeat (first | (with_reducible first | exact HB.out | apply below_alloc | apply pw_below_drewN | apply below_drew1 | refine below_set ?_ GE187.out) | exact HB.out)) hb); have n2_ := Aside0.mk (hbox); have n3_ := Aside0.mk ((by rw [hg]; exact (below_size (by repeat (first | (with_reducible first | exact HB.out | apply below_alloc | apply pw_below_drewN | apply below_drew1 | refine below_set ?_ GE187.out) | exact HB.out))) : w.heap.size ≤ gb188)); have n4_ := Aside0.mk ((by rw [hg]; exact (below_size (by repeat (first | (with_reducible first | exact HB.out | apply below_alloc | apply pw_below_drewN | apply below_drew1 | refine below_set ?_ GE187.out) | exact HB.out))) : w.heap.size ≤ gb188)); have n5_ := Aside0.mk ((by rw [hg]; exact Nat.ne_of_lt (blk_lt (g := gb187) (o := .cells #[.int .u64 a0_0, .int .u64 a0_1] 24 (0, 0)) (by exact BK187.out)) : gb187 ≠ gb188)); have n6_ := Aside0.mk ((by rw [hg]; exact Nat.ne_of_gt (blk_lt (g := gb187) (o := .cells #[.int .u64 a0_0, .int .u64 a0_1] 24 (0, 0)) (by exact BK187.out)) : gb188 ≠ gb187)); clear BK187; clear HB; have BK187 := n0_; have HB := n1_; have BK188 := n2_; have GW188 := n3_; have GE188 := n4_; have NB187_188 := n5_; have NB188_187 := n6_; clear n0_ n1_ n2_ n3_ n4_ n5_ n6_; clear hb hbox hg; have hnb4 := NB187_188.out; have hnc4 := NB188_187.out; have hcz5_0 : w3.cell? ⟨gb187, 0, none⟩ = some (.int .u64 a0_0) := (blk_cell BK187.out 0).trans rfl; have hcz5_1 : w3.cell? ⟨gb187, 1, none⟩ = some (.int .u64 a0_1) := (blk_cell BK187.out 1).trans rfl; have hfz5_0 := blk_frozen BK187.out 0; have hfz5_1 := blk_frozen BK187.out 1; have hcz6_0 : w3.cell? ⟨gb188, 0, none⟩ = some (.int .u64 0) := (blk_cell BK188.out 0).trans rfl; have hcz6_1 : w3.cell? ⟨gb188, 1, none⟩ = some (.int .u64 0) := (blk_cell BK188.out 1).trans rfl; have hfz6_0 := blk_frozen BK188.out 0; have hfz6_1 := blk_frozen BK188.out 1))
  refine bodyPost_ret (results_cell_row rfl _ _ gb188 65 #[.int .u64 a0_0, .int .u64 a0_1] (0, 0) _ rfl (by (with_reducible repeat (first | refine blk_drewN ?_ _ | refine blk_drew ?_ | refine blk_alloc ?_ _)); refine blk_put (cs := #[.int .u64 a0_0, .int .u64 0]) ?_ 1 _ rfl; (with_reducible repeat (first | refine blk_drewN ?_ _ | refine blk_drew ?_ | refine blk_alloc ?_ _)); refine blk_put (cs := #[.int .u64 0, .int .u64 0]) ?_ 0 _ rfl; (with_reducible repeat (first | refine blk_drewN ?_ _ | refine blk_drew ?_ | refine blk_alloc ?_ _)); exact BK188.out) Tryd.underlying65 rfl (by kernel_rfl)) rfl ?_
  exact ⟨by first | rfl | (simp [errW_none, errW_some] <;> rfl) | (simp [*, errW_none, errW_some] <;> rfl), by repeat (first | (with_reducible first | exact HB.out | apply below_alloc | apply pw_below_drewN | apply below_drew1 | refine below_set ?_ GE187.out | refine below_set ?_ GE188.out) | exact HB.out)⟩
/-! ### laws_wideSmall: function 31 -/
def laws_wideSmall.f (a0 : Int) : Option (List Int) := (spec_Whole.f a0 0).bind fun t189 => (some t189)
set_option maxHeartbeats 8000000 in
set_option maxRecDepth 100000 in
theorem laws_wideSmall.calls (a0 : Int) (r : List Int) (w : World) (h : laws_wideSmall.f a0 = some r) :
    Calls Tryd.prog 31 #[.int .u64 a0] w fun e w' => ∃ v0_ : Value, e = .returned (v0_) ∧ Kd.V (Kd.int .i64) 3 w' w.heap.size (fun k_ => (w.heap.size ≤ k_)) v0_ r ∧ Below w.heap.size w w' := by
  have HB := Aside0.mk (Below.refl w.heap.size w)
  have H : ((spec_Whole.f a0 0).bind fun t189 => (some t189)) = some r := h
  clear h
  replace H := Option.bind_eq_some_iff.mp H
  obtain ⟨t189, A20, H⟩ := H
  replace H : (some t189) = some r := H
  have A2 := Aside0.mk A20
  clear A20
  obtain rfl := Option.some.inj H
  go_enter Tryd.func31, Tryd.ntmps31
  go_wp2_with (first | ((with_reducible refine gate_callee (f := 45) rfl ?_); refine goesL_ (some 4) rfl rfl Tryd.func45 (by kernel_rfl) rfl #[.int .u64 a0, .int .u64 0] rfl (by (try simp only [List.map_toArray, List.map_cons, List.map_nil]); first | done | rfl | (simp only [List.length_drop, List.length_take]; rfl)) ?_; (with_reducible refine (spec_Whole.calls a0 0 t189 _ A2.out).mono ?_); rintro e w3 ⟨v190, rfl, ho0, hb⟩; refine ⟨_, rfl, ?_⟩; have n0_ := Aside0.mk (Kd.V_lower (Kd.V_mono (ok' := fun k_ => (w.heap.size ≤ k_)) ho0 (fun k_ hk_ => (Nat.le_trans (below_size (by repeat (first | (with_reducible first | exact HB.out | apply below_alloc | apply pw_below_drewN | apply below_drew1) | exact HB.out))) hk_))) (below_size (by repeat (first | (with_reducible first | exact HB.out | apply below_alloc | apply pw_below_drewN | apply below_drew1) | exact HB.out)))); have n1_ := Aside0.mk (below_step (by repeat (first | (with_reducible first | exact HB.out | apply below_alloc | apply pw_below_drewN | apply below_drew1) | exact HB.out)) hb); clear HB; have HO191 := n0_; have HB := n1_; clear n0_ n1_; (try clear hb); (try clear hb2); (try clear hk); (try clear hi); (try clear ho0)))
  go_ret
  exact ⟨_, by first | rfl | (simp [errW_none, errW_some] <;> rfl) | (simp [*, errW_none, errW_some] <;> rfl), by (with_reducible repeat (first | apply Kd.V_alloc | apply Kd.V_drewN | apply Kd.V_drew)); exact HO191.out, by repeat (first | (with_reducible first | exact HB.out | apply below_alloc | apply pw_below_drewN | apply below_drew1) | exact HB.out)⟩
/-! ### spec_Halves: function 43 -/
def spec_Halves.l0 : Nat → List Int → Int → Int → Int → Option (Int × Int)
  | 0, _, _, _, _ => none
  | k + 1, x0, x2, x3, x5 => if x5 < 64 then ((spec_Big_Bit.f x0 x5).bind fun t192 => (if t192 = true then (if 0 ≤ x5 then ((spec_Big_Bit.f x0 (wrap64 (64 + x5))).bind fun t193 => (if t193 = true then (spec_Halves.l0 k x0 (Go.bits .or .u64 x2 (shl .u64 1 x5)) (Go.bits .or .u64 x3 (shl .u64 1 x5)) (wrap64 (x5 + 1))) else (spec_Halves.l0 k x0 (Go.bits .or .u64 x2 (shl .u64 1 x5)) x3 (wrap64 (x5 + 1))))) else (none)) else ((spec_Big_Bit.f x0 (wrap64 (64 + x5))).bind fun t194 => (if t194 = true then (if 0 ≤ x5 then (spec_Halves.l0 k x0 x2 (Go.bits .or .u64 x3 (shl .u64 1 x5)) (wrap64 (x5 + 1))) else (none)) else (spec_Halves.l0 k x0 x2 x3 (wrap64 (x5 + 1))))))) else (some (x2, x3))
def spec_Halves.f (k : Nat) (l0 : List Int) : Option (Int × Int) := spec_Halves.l0 k l0 0 0 0
theorem spec_Halves.mono_l : ∀ k, (∀ y0 y1 y2 y3, LeO (spec_Halves.l0 k y0 y1 y2 y3) (spec_Halves.l0 (k + 1) y0 y1 y2 y3))
  | 0 => fun _ _ _ _ r h => by simp [spec_Halves.l0] at h
  | k + 1 => by
    have ih0 := spec_Halves.mono_l k
    · intro y0 y1 y2 y3
      unfold spec_Halves.l0
      repeat' first
      | (with_reducible exact ih0 _ _ _ _)
      | (with_reducible exact LeO.refl _)
      | (with_reducible exact LeO.none _)
      | (with_reducible refine LeO.ite ?_ ?_)
      | (with_reducible refine LeO.bind ?_ (fun _ => ?_))
      | exact ih0 _ _ _ _
      | exact LeO.none _
      | refine LeO.ite ?_ ?_
      | refine LeO.bind ?_ (fun _ => ?_)
theorem spec_Halves.mono : ∀ a0 k, LeO (spec_Halves.f k a0) (spec_Halves.f (k + 1) a0) := by
  intro a0 k
  have ih0 := spec_Halves.mono_l k
  unfold spec_Halves.f
  repeat' first
      | (with_reducible exact ih0 _ _ _ _)
      | (with_reducible exact LeO.refl _)
      | (with_reducible exact LeO.none _)
      | (with_reducible refine LeO.ite ?_ ?_)
      | (with_reducible refine LeO.bind ?_ (fun _ => ?_))
      | exact ih0 _ _ _ _
      | exact LeO.none _
      | refine LeO.ite ?_ ?_
      | refine LeO.bind ?_ (fun _ => ?_)
set_option maxHeartbeats 8000000 in
set_option maxRecDepth 100000 in
theorem spec_Halves.calls (k : Nat) (A0 : Option Addr) (c0 : Nat) (l0 : List Int) (r1 : Int) (r2 : Int) (w : World) (hr0 : Kd.C (Kd.int .i64) w A0 l0.length l0) (hc0 : l0.length ≤ c0) (h : spec_Halves.f k l0 = some (r1, r2)) :
    Calls Tryd.prog 43 #[.slice A0 l0.length c0] w fun e w' => e = .returned (.tuple #[.int .u64 r1, .int .u64 r2]) ∧ Drawn0 w w' := by
  have HR0 := Aside0.mk hr0
  have HC0 := Aside0.mk hc0
  clear hr0 hc0
  have H : (spec_Halves.l0 k l0 0 0 0) = some (r1, r2) := h
  clear h
  have H' := Aside0.mk H
  clear H
  go_enter Tryd.func43, Tryd.ntmps43
  go_wp2
  go_loopg [2, 3, 5] k (fun kq v2 v3 v5 w' => ∃ (x2_1 : Int) (x3_1 : Int) (x5_1 : Int), v2 = .int .u64 x2_1 ∧ v3 = .int .u64 x3_1 ∧ v5 = .int .i64 x5_1 ∧ Aside0 (spec_Halves.l0 kq l0 x2_1 x3_1 x5_1 = some (r1, r2)) ∧ Aside0 (kq ≤ k) ∧ Drawn0 w w')
  case atStart => exact ⟨(0), (0), (0), (by first | rfl | (simp; done) | (simp [*]; done)), (by first | rfl | (simp; done) | (simp [*]; done)), (by first | rfl | (simp; done) | (simp [*]; done)), H', ⟨Nat.le_refl _⟩, by repeat (first | exact Drawn0.refl _ | apply Drawn0.step)⟩
  case round =>
    clear H'
    obtain ⟨x2_1, x3_1, x5_1, rfl, rfl, rfl, HA, HK1, ⟨m1, rfl⟩⟩ := hrel
    cases gk with
    | zero => exact absurd HA.out (by simp [spec_Halves.l0])
    | succ k1 =>
      have H := HA.out
      clear HA
      simp only [spec_Halves.l0] at H
      by_cases c2 : x5_1 < 64
      · rw [if_pos c2] at H
        have c2b0 : decide (x5_1 < 64) = true := decide_eq_true c2
        clear c2
        replace H := Option.bind_eq_some_iff.mp H
        obtain ⟨t192, A30, H⟩ := H
        replace H : (if t192 = true then (if 0 ≤ x5_1 then ((spec_Big_Bit.f l0 (wrap64 (64 + x5_1))).bind fun t193 => (if t193 = true then (spec_Halves.l0 k1 l0 (Go.bits .or .u64 x2_1 (shl .u64 1 x5_1)) (Go.bits .or .u64 x3_1 (shl .u64 1 x5_1)) (wrap64 (x5_1 + 1))) else (spec_Halves.l0 k1 l0 (Go.bits .or .u64 x2_1 (shl .u64 1 x5_1)) x3_1 (wrap64 (x5_1 + 1))))) else (none)) else ((spec_Big_Bit.f l0 (wrap64 (64 + x5_1))).bind fun t194 => (if t194 = true then (if 0 ≤ x5_1 then (spec_Halves.l0 k1 l0 x2_1 (Go.bits .or .u64 x3_1 (shl .u64 1 x5_1)) (wrap64 (x5_1 + 1))) else (none)) else (spec_Halves.l0 k1 l0 x2_1 x3_1 (wrap64 (x5_1 + 1)))))) = some (r1, r2) := H
        have A3 := Aside0.mk A30
        clear A30
        by_cases c4 : t192 = true
        · subst c4
          have H1 : (if 0 ≤ x5_1 then ((spec_Big_Bit.f l0 (wrap64 (64 + x5_1))).bind fun t193 => (if t193 = true then (spec_Halves.l0 k1 l0 (Go.bits .or .u64 x2_1 (shl .u64 1 x5_1)) (Go.bits .or .u64 x3_1 (shl .u64 1 x5_1)) (wrap64 (x5_1 + 1))) else (spec_Halves.l0 k1 l0 (Go.bits .or .u64 x2_1 (shl .u64 1 x5_1)) x3_1 (wrap64 (x5_1 + 1))))) else (none)) = some (r1, r2) := by rw [if_pos rfl] at H; exact H
          clear H
          have H := H1
          clear H1
          by_cases c5 : 0 ≤ x5_1
          · rw [if_pos c5] at H
            have c5b0 := eq_true c5
            have c5b1 : decide (0 ≤ x5_1) = true := decide_eq_true c5
            clear c5
            obtain ⟨ji6, hji6⟩ : ∃ j_ : Int, (shl .u64 1 x5_1) = j_ := ⟨_, rfl⟩
            replace H : ((spec_Big_Bit.f l0 (wrap64 (64 + x5_1))).bind fun t193 => (if t193 = true then (spec_Halves.l0 k1 l0 (Go.bits .or .u64 x2_1 (ji6)) (Go.bits .or .u64 x3_1 (ji6)) (wrap64 (x5_1 + 1))) else (spec_Halves.l0 k1 l0 (Go.bits .or .u64 x2_1 (ji6)) x3_1 (wrap64 (x5_1 + 1))))) = some (r1, r2) := by first | (rw [hji6] at H; exact H) | (simp only [hji6] at H ⊢; exact H)
            (try rw [hji6] at A3)
            have hji6_ : (IntKind.u64.wrap (1 * 2 ^ min x5_1.toNat 64)) = ji6 := hji6
            have hji6z : x5_1 ≤ 64 → (IntKind.u64.wrap (1 * 2 ^ x5_1.toNat)) = ji6 := shl_small hji6
            have hji6u : (IntKind.u64.wrap (2 ^ min x5_1.toNat 64)) = ji6 := by have h_ := hji6_; rw [Int.one_mul] at h_; exact h_
            have hji6v : x5_1 ≤ 64 → (IntKind.u64.wrap (2 ^ x5_1.toNat)) = ji6 := fun hle_ => by have h_ := hji6z hle_; rw [Int.one_mul] at h_; exact h_
            replace H := Option.bind_eq_some_iff.mp H
            obtain ⟨t193, A70, H⟩ := H
            replace H : (if t193 = true then (spec_Halves.l0 k1 l0 (Go.bits .or .u64 x2_1 (ji6)) (Go.bits .or .u64 x3_1 (ji6)) (wrap64 (x5_1 + 1))) else (spec_Halves.l0 k1 l0 (Go.bits .or .u64 x2_1 (ji6)) x3_1 (wrap64 (x5_1 + 1)))) = some (r1, r2) := H
            have A7 := Aside0.mk A70
            clear A70
            by_cases c8 : t193 = true
            · subst c8
              have H1 : (spec_Halves.l0 k1 l0 (Go.bits .or .u64 x2_1 (ji6)) (Go.bits .or .u64 x3_1 (ji6)) (wrap64 (x5_1 + 1))) = some (r1, r2) := by rw [if_pos rfl] at H; exact H
              clear H
              have H := H1
              clear H1
              have c9b0 := eq_true (of_decide_eq_true (by first | (with_reducible assumption) | assumption) : 0 ≤ x5_1)
              have H' := Aside0.mk H
              clear H
              go_wp2_with (first | ((with_reducible refine gate_callee (f := 20) rfl ?_); refine goesL_ (some 10) rfl rfl Tryd.func20 (by kernel_rfl) rfl #[.slice A0 l0.length c0, .int .i64 x5_1] rfl (by (try simp only [List.map_toArray, List.map_cons, List.map_nil]); first | done | rfl | (simp only [List.length_drop, List.length_take]; rfl)) ?_; (with_reducible refine (spec_Big_Bit.calls _ _ l0 x5_1 true _ ?side1 ?side2 A3.out).mono ?_); (case side1 => repeat (first | exact HR0.out | (with_reducible refine Kd.C_alloc ?_ _) | (with_reducible refine Kd.C_drewN ?_ _) | (with_reducible refine Kd.C_drew ?_))); (case side2 => exact HC0.out); rintro e w' ⟨rfl, ⟨nd, rfl⟩⟩; refine ⟨_, rfl, ?_⟩) | ((with_reducible refine gate_callee (f := 20) rfl ?_); refine goesL_ (some 18) rfl rfl Tryd.func20 (by kernel_rfl) rfl #[.slice A0 l0.length c0, .int .i64 (wrap64 (64 + x5_1))] rfl (by (try simp only [List.map_toArray, List.map_cons, List.map_nil]); first | done | rfl | (simp only [List.length_drop, List.length_take]; rfl)) ?_; (with_reducible refine (spec_Big_Bit.calls _ _ l0 (wrap64 (64 + x5_1)) true _ ?side1 ?side2 A7.out).mono ?_); (case side1 => repeat (first | exact HR0.out | (with_reducible refine Kd.C_alloc ?_ _) | (with_reducible refine Kd.C_drewN ?_ _) | (with_reducible refine Kd.C_drew ?_))); (case side2 => exact HC0.out); rintro e w' ⟨rfl, ⟨nd, rfl⟩⟩; refine ⟨_, rfl, ?_⟩))
              go_roundg k1
              case measure => have := HK1.out; omega
              case rel => exact ⟨(Go.bits .or .u64 x2_1 (ji6)), (Go.bits .or .u64 x3_1 (ji6)), (wrap64 (x5_1 + 1)), (by first | rfl | (simp; done) | (simp only [← hji6] <;> (first | rfl | simp)) | (simp [*]; done)), (by first | rfl | (simp; done) | (simp only [← hji6] <;> (first | rfl | simp)) | (simp [*]; done)), (by first | rfl | (simp; done) | (simp [*]; done)), H', ⟨by have := HK1.out; omega⟩, by repeat (first | exact Drawn0.refl _ | apply Drawn0.step)⟩
            · replace c8 := Bool.eq_false_iff.mpr c8
              subst c8
              have H1 : (spec_Halves.l0 k1 l0 (Go.bits .or .u64 x2_1 (ji6)) x3_1 (wrap64 (x5_1 + 1))) = some (r1, r2) := by rw [if_neg (show ¬ (false = true) by decide)] at H; exact H
              clear H
              have H := H1
              clear H1
              have H' := Aside0.mk H
              clear H
              go_wp2_with (first | ((with_reducible refine gate_callee (f := 20) rfl ?_); refine goesL_ (some 10) rfl rfl Tryd.func20 (by kernel_rfl) rfl #[.slice A0 l0.length c0, .int .i64 x5_1] rfl (by (try simp only [List.map_toArray, List.map_cons, List.map_nil]); first | done | rfl | (simp only [List.length_drop, List.length_take]; rfl)) ?_; (with_reducible refine (spec_Big_Bit.calls _ _ l0 x5_1 true _ ?side1 ?side2 A3.out).mono ?_); (case side1 => repeat (first | exact HR0.out | (with_reducible refine Kd.C_alloc ?_ _) | (with_reducible refine Kd.C_drewN ?_ _) | (with_reducible refine Kd.C_drew ?_))); (case side2 => exact HC0.out); rintro e w' ⟨rfl, ⟨nd, rfl⟩⟩; refine ⟨_, rfl, ?_⟩) | ((with_reducible refine gate_callee (f := 20) rfl ?_); refine goesL_ (some 18) rfl rfl Tryd.func20 (by kernel_rfl) rfl #[.slice A0 l0.length c0, .int .i64 (wrap64 (64 + x5_1))] rfl (by (try simp only [List.map_toArray, List.map_cons, List.map_nil]); first | done | rfl | (simp only [List.length_drop, List.length_take]; rfl)) ?_; (with_reducible refine (spec_Big_Bit.calls _ _ l0 (wrap64 (64 + x5_1)) false _ ?side1 ?side2 A7.out).mono ?_); (case side1 => repeat (first | exact HR0.out | (with_reducible refine Kd.C_alloc ?_ _) | (with_reducible refine Kd.C_drewN ?_ _) | (with_reducible refine Kd.C_drew ?_))); (case side2 => exact HC0.out); rintro e w' ⟨rfl, ⟨nd, rfl⟩⟩; refine ⟨_, rfl, ?_⟩))
              go_roundg k1
              case measure => have := HK1.out; omega
              case rel => exact ⟨(Go.bits .or .u64 x2_1 (ji6)), (x3_1), (wrap64 (x5_1 + 1)), (by first | rfl | (simp; done) | (simp only [← hji6] <;> (first | rfl | simp)) | (simp [*]; done)), (by first | rfl | (simp; done) | (simp [*]; done)), (by first | rfl | (simp; done) | (simp [*]; done)), H', ⟨by have := HK1.out; omega⟩, by repeat (first | exact Drawn0.refl _ | apply Drawn0.step)⟩
          · rw [if_neg c5] at H
            exact absurd H (by simp)
        · replace c4 := Bool.eq_false_iff.mpr c4
          subst c4
          have H1 : ((spec_Big_Bit.f l0 (wrap64 (64 + x5_1))).bind fun t194 => (if t194 = true then (if 0 ≤ x5_1 then (spec_Halves.l0 k1 l0 x2_1 (Go.bits .or .u64 x3_1 (shl .u64 1 x5_1)) (wrap64 (x5_1 + 1))) else (none)) else (spec_Halves.l0 k1 l0 x2_1 x3_1 (wrap64 (x5_1 + 1))))) = some (r1, r2) := by rw [if_neg (show ¬ (false = true) by decide)] at H; exact H
          clear H
          have H := H1
          clear H1
          replace H := Option.bind_eq_some_iff.mp H
          obtain ⟨t194, A110, H⟩ := H
          replace H : (if t194 = true then (if 0 ≤ x5_1 then (spec_Halves.l0 k1 l0 x2_1 (Go.bits .or .u64 x3_1 (shl .u64 1 x5_1)) (wrap64 (x5_1 + 1))) else (none)) else (spec_Halves.l0 k1 l0 x2_1 x3_1 (wrap64 (x5_1 + 1)))) = some (r1, r2) := H
          have A11 := Aside0.mk A110
          clear A110
          by_cases c12 : t194 = true
          · subst c12
            have H1 : (if 0 ≤ x5_1 then (spec_Halves.l0 k1 l0 x2_1 (Go.bits .or .u64 x3_1 (shl .u64 1 x5_1)) (wrap64 (x5_1 + 1))) else (none)) = some (r1, r2) := by rw [if_pos rfl] at H; exact H
            clear H
            have H := H1
            clear H1
            by_cases c13 : 0 ≤ x5_1
            · rw [if_pos c13] at H
              have c13b0 := eq_true c13
              have c13b1 : decide (0 ≤ x5_1) = true := decide_eq_true c13
              clear c13
              obtain ⟨ji14, hji14⟩ : ∃ j_ : Int, (shl .u64 1 x5_1) = j_ := ⟨_, rfl⟩
              replace H : (spec_Halves.l0 k1 l0 x2_1 (Go.bits .or .u64 x3_1 (ji14)) (wrap64 (x5_1 + 1))) = some (r1, r2) := by first | (rw [hji14] at H; exact H) | (simp only [hji14] at H ⊢; exact H)
              (try rw [hji14] at A3)
              (try rw [hji14] at A11)
              have hji14_ : (IntKind.u64.wrap (1 * 2 ^ min x5_1.toNat 64)) = ji14 := hji14
              have hji14z : x5_1 ≤ 64 → (IntKind.u64.wrap (1 * 2 ^ x5_1.toNat)) = ji14 := shl_small hji14
              have hji14u : (IntKind.u64.wrap (2 ^ min x5_1.toNat 64)) = ji14 := by have h_ := hji14_; rw [Int.one_mul] at h_; exact h_
              have hji14v : x5_1 ≤ 64 → (IntKind.u64.wrap (2 ^ x5_1.toNat)) = ji14 := fun hle_ => by have h_ := hji14z hle_; rw [Int.one_mul] at h_; exact h_
              have H' := Aside0.mk H
              clear H
              go_wp2_with (first | ((with_reducible refine gate_callee (f := 20) rfl ?_); refine goesL_ (some 10) rfl rfl Tryd.func20 (by kernel_rfl) rfl #[.slice A0 l0.length c0, .int .i64 x5_1] rfl (by (try simp only [List.map_toArray, List.map_cons, List.map_nil]); first | done | rfl | (simp only [List.length_drop, List.length_take]; rfl)) ?_; (with_reducible refine (spec_Big_Bit.calls _ _ l0 x5_1 false _ ?side1 ?side2 A3.out).mono ?_); (case side1 => repeat (first | exact HR0.out | (with_reducible refine Kd.C_alloc ?_ _) | (with_reducible refine Kd.C_drewN ?_ _) | (with_reducible refine Kd.C_drew ?_))); (case side2 => exact HC0.out); rintro e w' ⟨rfl, ⟨nd, rfl⟩⟩; refine ⟨_, rfl, ?_⟩) | ((with_reducible refine gate_callee (f := 20) rfl ?_); refine goesL_ (some 18) rfl rfl Tryd.func20 (by kernel_rfl) rfl #[.slice A0 l0.length c0, .int .i64 (wrap64 (64 + x5_1))] rfl (by (try simp only [List.map_toArray, List.map_cons, List.map_nil]); first | done | rfl | (simp only [List.length_drop, List.length_take]; rfl)) ?_; (with_reducible refine (spec_Big_Bit.calls _ _ l0 (wrap64 (64 + x5_1)) true _ ?side1 ?side2 A11.out).mono ?_); (case side1 => repeat (first | exact HR0.out | (with_reducible refine Kd.C_alloc ?_ _) | (with_reducible refine Kd.C_drewN ?_ _) | (with_reducible refine Kd.C_drew ?_))); (case side2 => exact HC0.out); rintro e w' ⟨rfl, ⟨nd, rfl⟩⟩; refine ⟨_, rfl, ?_⟩))
              go_roundg k1
              case measure => have := HK1.out; omega
              case rel => exact ⟨(x2_1), (Go.bits .or .u64 x3_1 (ji14)), (wrap64 (x5_1 + 1)), (by first | rfl | (simp; done) | (simp [*]; done)), (by first | rfl | (simp; done) | (simp only [← hji14] <;> (first | rfl | simp)) | (simp [*]; done)), (by first | rfl | (simp; done) | (simp [*]; done)), H', ⟨by have := HK1.out; omega⟩, by repeat (first | exact Drawn0.refl _ | apply Drawn0.step)⟩
            · rw [if_neg c13] at H
              exact absurd H (by simp)
          · replace c12 := Bool.eq_false_iff.mpr c12
            subst c12
            have H1 : (spec_Halves.l0 k1 l0 x2_1 x3_1 (wrap64 (x5_1 + 1))) = some (r1, r2) := by rw [if_neg (show ¬ (false = true) by decide)] at H; exact H
            clear H
            have H := H1
            clear H1
            have H' := Aside0.mk H
            clear H
            go_wp2_with (first | ((with_reducible refine gate_callee (f := 20) rfl ?_); refine goesL_ (some 10) rfl rfl Tryd.func20 (by kernel_rfl) rfl #[.slice A0 l0.length c0, .int .i64 x5_1] rfl (by (try simp only [List.map_toArray, List.map_cons, List.map_nil]); first | done | rfl | (simp only [List.length_drop, List.length_take]; rfl)) ?_; (with_reducible refine (spec_Big_Bit.calls _ _ l0 x5_1 false _ ?side1 ?side2 A3.out).mono ?_); (case side1 => repeat (first | exact HR0.out | (with_reducible refine Kd.C_alloc ?_ _) | (with_reducible refine Kd.C_drewN ?_ _) | (with_reducible refine Kd.C_drew ?_))); (case side2 => exact HC0.out); rintro e w' ⟨rfl, ⟨nd, rfl⟩⟩; refine ⟨_, rfl, ?_⟩) | ((with_reducible refine gate_callee (f := 20) rfl ?_); refine goesL_ (some 18) rfl rfl Tryd.func20 (by kernel_rfl) rfl #[.slice A0 l0.length c0, .int .i64 (wrap64 (64 + x5_1))] rfl (by (try simp only [List.map_toArray, List.map_cons, List.map_nil]); first | done | rfl | (simp only [List.length_drop, List.length_take]; rfl)) ?_; (with_reducible refine (spec_Big_Bit.calls _ _ l0 (wrap64 (64 + x5_1)) false _ ?side1 ?side2 A11.out).mono ?_); (case side1 => repeat (first | exact HR0.out | (with_reducible refine Kd.C_alloc ?_ _) | (with_reducible refine Kd.C_drewN ?_ _) | (with_reducible refine Kd.C_drew ?_))); (case side2 => exact HC0.out); rintro e w' ⟨rfl, ⟨nd, rfl⟩⟩; refine ⟨_, rfl, ?_⟩))
            go_roundg k1
            case measure => have := HK1.out; omega
            case rel => exact ⟨(x2_1), (x3_1), (wrap64 (x5_1 + 1)), (by first | rfl | (simp; done) | (simp [*]; done)), (by first | rfl | (simp; done) | (simp [*]; done)), (by first | rfl | (simp; done) | (simp [*]; done)), H', ⟨by have := HK1.out; omega⟩, by repeat (first | exact Drawn0.refl _ | apply Drawn0.step)⟩
      · rw [if_neg c2] at H
        have c2b0 : decide (x5_1 < 64) = false := decide_eq_false c2
        clear c2
        simp only [Option.some.injEq, Prod.mk.injEq] at H
        obtain ⟨rfl, rfl⟩ := H
        go_wp2
        go_ret2
        exact ⟨by first | rfl | (simp; done) | (simp [*]; done), by repeat (first | exact Drawn0.refl _ | apply Drawn0.step)⟩
end Go.Proofs.YtiifnofghicnaaaDoor.PAll
