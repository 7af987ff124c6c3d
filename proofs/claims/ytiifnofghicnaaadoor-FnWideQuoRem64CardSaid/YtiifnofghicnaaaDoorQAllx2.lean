/- Printed by the kit's print.py, called for several laws at once: functions as plain Lean, and the walks' contracts. -/
import Derived.Test.YtiifnofghicnaaaDoorQAllx0
import Derived.Test.YtiifnofghicnaaaDoorQAllx1
namespace Go.Proofs.YtiifnofghicnaaaDoor.PAll
open Go.RowKit Go.Proofs.YtiifnofghicnaaaDoorW.PrintWords Go.Proofs.YtiifnofghicnaaaDoorW.PrintLast Go.Proofs.YtiifnofghicnaaaDoorW.PrintMore
attribute [local go_sem] max2_int min2_int max_two min_two max_three min_three max_four min_four   -- for this text's walks alone
set_option linter.unusedVariables false
set_option linter.unusedSimpArgs false
attribute [local go_sem high] eqA24
/-! ### gobits_Div64: function 104 -/
mutual
def gobits_Div64.j0 : Nat → Int → Int → Int → Option (Int × Int)
  | 0, _, _, _ => none
  | k + 1, x0, x1, x2 => if x2 ≤ x0 then (if 0 = 0 then (none) else (gobits_Div64.j1 k x0 x1 x2)) else (gobits_Div64.j1 k x0 x1 x2)
def gobits_Div64.j1 : Nat → Int → Int → Int → Option (Int × Int)
  | 0, _, _, _ => none
  | k + 1, x0, x1, x2 => if x0 = 0 then (if x2 = 0 then (none) else (some (IntKind.u64.wrap (Int.tdiv x1 x2), Int.tmod x1 x2))) else ((bits_LeadingZeros64.f x2).bind fun t284 => (if 0 ≤ (IntKind.u64.wrap (t284)) then (if 0 ≤ (IntKind.u64.wrap (64 - (IntKind.u64.wrap (t284)))) then (if ((shl .u64 x2 (IntKind.u64.wrap (t284))) / 4294967296) = 0 then (none) else (gobits_Div64.l0 k (shl .u64 x2 (IntKind.u64.wrap (t284))) (IntKind.u64.wrap (t284)) ((shl .u64 x2 (IntKind.u64.wrap (t284))) / 4294967296) (Go.bits .and .u64 (shl .u64 x2 (IntKind.u64.wrap (t284))) 4294967295) (Go.bits .or .u64 (shl .u64 x0 (IntKind.u64.wrap (t284))) (shr .u64 x1 (IntKind.u64.wrap (64 - (IntKind.u64.wrap (t284)))))) ((shl .u64 x1 (IntKind.u64.wrap (t284))) / 4294967296) (Go.bits .and .u64 (shl .u64 x1 (IntKind.u64.wrap (t284))) 4294967295) (IntKind.u64.wrap (Int.tdiv (Go.bits .or .u64 (shl .u64 x0 (IntKind.u64.wrap (t284))) (shr .u64 x1 (IntKind.u64.wrap (64 - (IntKind.u64.wrap (t284)))))) ((shl .u64 x2 (IntKind.u64.wrap (t284))) / 4294967296))) (IntKind.u64.wrap ((Go.bits .or .u64 (shl .u64 x0 (IntKind.u64.wrap (t284))) (shr .u64 x1 (IntKind.u64.wrap (64 - (IntKind.u64.wrap (t284)))))) - (IntKind.u64.wrap ((IntKind.u64.wrap (Int.tdiv (Go.bits .or .u64 (shl .u64 x0 (IntKind.u64.wrap (t284))) (shr .u64 x1 (IntKind.u64.wrap (64 - (IntKind.u64.wrap (t284)))))) ((shl .u64 x2 (IntKind.u64.wrap (t284))) / 4294967296))) * ((shl .u64 x2 (IntKind.u64.wrap (t284))) / 4294967296))))))) else (none)) else (none)))
def gobits_Div64.j4 : Nat → Int → Int → Int → Int → Int → Int → Int → Int → Option (Int × Int)
  | 0, _, _, _, _, _, _, _, _ => none
  | k + 1, x2, x8, x9, x10, x11, x13, x14, x15 => if x9 = 0 then (none) else (gobits_Div64.l1 k x2 x8 x9 x10 x14 x15 (IntKind.u64.wrap ((IntKind.u64.wrap ((IntKind.u64.wrap ((IntKind.u64.wrap (x11 * 4294967296)) + x13)) - (IntKind.u64.wrap (x15 * x2)))) - (IntKind.u64.wrap ((IntKind.u64.wrap (Int.tdiv (IntKind.u64.wrap ((IntKind.u64.wrap ((IntKind.u64.wrap (x11 * 4294967296)) + x13)) - (IntKind.u64.wrap (x15 * x2)))) x9)) * x9)))) (IntKind.u64.wrap ((IntKind.u64.wrap ((IntKind.u64.wrap (x11 * 4294967296)) + x13)) - (IntKind.u64.wrap (x15 * x2)))) (IntKind.u64.wrap (Int.tdiv (IntKind.u64.wrap ((IntKind.u64.wrap ((IntKind.u64.wrap (x11 * 4294967296)) + x13)) - (IntKind.u64.wrap (x15 * x2)))) x9)))
def gobits_Div64.l1 : Nat → Int → Int → Int → Int → Int → Int → Int → Int → Int → Option (Int × Int)
  | 0, _, _, _, _, _, _, _, _, _ => none
  | k + 1, x2, x8, x9, x10, x14, x15, x16, x17, x18 => if x18 ≥ 4294967296 then (gobits_Div64.j6 k x2 x8 x9 x10 x14 x15 x16 x17 x18 true) else (gobits_Div64.j6 k x2 x8 x9 x10 x14 x15 x16 x17 x18 (decide ((IntKind.u64.wrap (x18 * x10)) > (IntKind.u64.wrap ((IntKind.u64.wrap (4294967296 * x16)) + x14)))))
def gobits_Div64.j6 : Nat → Int → Int → Int → Int → Int → Int → Int → Int → Int → Bool → Option (Int × Int)
  | 0, _, _, _, _, _, _, _, _, _, _ => none
  | k + 1, x2, x8, x9, x10, x14, x15, x16, x17, x18, x113 => if x113 = true then (if (IntKind.u64.wrap (x16 + x9)) ≥ 4294967296 then (if 0 ≤ x8 then (some (IntKind.u64.wrap ((IntKind.u64.wrap (x15 * 4294967296)) + (IntKind.u64.wrap (x18 - 1))), shr .u64 (IntKind.u64.wrap ((IntKind.u64.wrap ((IntKind.u64.wrap (x17 * 4294967296)) + x14)) - (IntKind.u64.wrap ((IntKind.u64.wrap (x18 - 1)) * x2)))) x8)) else (none)) else (gobits_Div64.l1 k x2 x8 x9 x10 x14 x15 (IntKind.u64.wrap (x16 + x9)) x17 (IntKind.u64.wrap (x18 - 1)))) else (if 0 ≤ x8 then (some (IntKind.u64.wrap ((IntKind.u64.wrap (x15 * 4294967296)) + x18), shr .u64 (IntKind.u64.wrap ((IntKind.u64.wrap ((IntKind.u64.wrap (x17 * 4294967296)) + x14)) - (IntKind.u64.wrap (x18 * x2)))) x8)) else (none))
def gobits_Div64.l0 : Nat → Int → Int → Int → Int → Int → Int → Int → Int → Int → Option (Int × Int)
  | 0, _, _, _, _, _, _, _, _, _ => none
  | k + 1, x2, x8, x9, x10, x11, x13, x14, x15, x16 => if x15 ≥ 4294967296 then (gobits_Div64.j3 k x2 x8 x9 x10 x11 x13 x14 x15 x16 true) else (gobits_Div64.j3 k x2 x8 x9 x10 x11 x13 x14 x15 x16 (decide ((IntKind.u64.wrap (x15 * x10)) > (IntKind.u64.wrap ((IntKind.u64.wrap (4294967296 * x16)) + x13)))))
def gobits_Div64.j3 : Nat → Int → Int → Int → Int → Int → Int → Int → Int → Int → Bool → Option (Int × Int)
  | 0, _, _, _, _, _, _, _, _, _, _ => none
  | k + 1, x2, x8, x9, x10, x11, x13, x14, x15, x16, x78 => if x78 = true then (if (IntKind.u64.wrap (x16 + x9)) ≥ 4294967296 then (gobits_Div64.j4 k x2 x8 x9 x10 x11 x13 x14 (IntKind.u64.wrap (x15 - 1))) else (gobits_Div64.l0 k x2 x8 x9 x10 x11 x13 x14 (IntKind.u64.wrap (x15 - 1)) (IntKind.u64.wrap (x16 + x9)))) else (gobits_Div64.j4 k x2 x8 x9 x10 x11 x13 x14 x15)
end
def gobits_Div64.f (k : Nat) (a0 : Int) (a1 : Int) (a2 : Int) : Option (Int × Int) := if a2 = 0 then (if 0 = 0 then (none) else (gobits_Div64.j0 k a0 a1 a2)) else (gobits_Div64.j0 k a0 a1 a2)
theorem gobits_Div64.mono_l : ∀ k, (∀ y0 y1 y2, LeO (gobits_Div64.j0 k y0 y1 y2) (gobits_Div64.j0 (k + 1) y0 y1 y2)) ∧ (∀ y0 y1 y2, LeO (gobits_Div64.j1 k y0 y1 y2) (gobits_Div64.j1 (k + 1) y0 y1 y2)) ∧ (∀ y0 y1 y2 y3 y4 y5 y6 y7, LeO (gobits_Div64.j4 k y0 y1 y2 y3 y4 y5 y6 y7) (gobits_Div64.j4 (k + 1) y0 y1 y2 y3 y4 y5 y6 y7)) ∧ (∀ y0 y1 y2 y3 y4 y5 y6 y7 y8, LeO (gobits_Div64.l1 k y0 y1 y2 y3 y4 y5 y6 y7 y8) (gobits_Div64.l1 (k + 1) y0 y1 y2 y3 y4 y5 y6 y7 y8)) ∧ (∀ y0 y1 y2 y3 y4 y5 y6 y7 y8 y9, LeO (gobits_Div64.j6 k y0 y1 y2 y3 y4 y5 y6 y7 y8 y9) (gobits_Div64.j6 (k + 1) y0 y1 y2 y3 y4 y5 y6 y7 y8 y9)) ∧ (∀ y0 y1 y2 y3 y4 y5 y6 y7 y8, LeO (gobits_Div64.l0 k y0 y1 y2 y3 y4 y5 y6 y7 y8) (gobits_Div64.l0 (k + 1) y0 y1 y2 y3 y4 y5 y6 y7 y8)) ∧ (∀ y0 y1 y2 y3 y4 y5 y6 y7 y8 y9, LeO (gobits_Div64.j3 k y0 y1 y2 y3 y4 y5 y6 y7 y8 y9) (gobits_Div64.j3 (k + 1) y0 y1 y2 y3 y4 y5 y6 y7 y8 y9))
  | 0 => ⟨fun _ _ _ r h => by simp [gobits_Div64.j0] at h, fun _ _ _ r h => by simp [gobits_Div64.j1] at h, fun _ _ _ _ _ _ _ _ r h => by simp [gobits_Div64.j4] at h, fun _ _ _ _ _ _ _ _ _ r h => by simp [gobits_Div64.l1] at h, fun _ _ _ _ _ _ _ _ _ _ r h => by simp [gobits_Div64.j6] at h, fun _ _ _ _ _ _ _ _ _ r h => by simp [gobits_Div64.l0] at h, fun _ _ _ _ _ _ _ _ _ _ r h => by simp [gobits_Div64.j3] at h⟩
  | k + 1 => by
    obtain ⟨ih0, ih1, ih2, ih3, ih4, ih5, ih6⟩ := gobits_Div64.mono_l k
    refine ⟨?_, ?_, ?_, ?_, ?_, ?_, ?_⟩
    · intro y0 y1 y2
      unfold gobits_Div64.j0
      repeat' first
      | (with_reducible exact ih0 _ _ _)
      | (with_reducible exact ih1 _ _ _)
      | (with_reducible exact ih2 _ _ _ _ _ _ _ _)
      | (with_reducible exact ih3 _ _ _ _ _ _ _ _ _)
      | (with_reducible exact ih4 _ _ _ _ _ _ _ _ _ _)
      | (with_reducible exact ih5 _ _ _ _ _ _ _ _ _)
      | (with_reducible exact ih6 _ _ _ _ _ _ _ _ _ _)
      | (with_reducible exact LeO.refl _)
      | (with_reducible exact LeO.none _)
      | (with_reducible refine LeO.ite ?_ ?_)
      | (with_reducible refine LeO.bind ?_ (fun _ => ?_))
      | exact ih0 _ _ _
      | exact ih1 _ _ _
      | exact ih2 _ _ _ _ _ _ _ _
      | exact ih3 _ _ _ _ _ _ _ _ _
      | exact ih4 _ _ _ _ _ _ _ _ _ _
      | exact ih5 _ _ _ _ _ _ _ _ _
      | exact ih6 _ _ _ _ _ _ _ _ _ _
      | exact LeO.none _
      | refine LeO.ite ?_ ?_
      | refine LeO.bind ?_ (fun _ => ?_)
    · intro y0 y1 y2
      unfold gobits_Div64.j1
      repeat' first
      | (with_reducible exact ih0 _ _ _)
      | (with_reducible exact ih1 _ _ _)
      | (with_reducible exact ih2 _ _ _ _ _ _ _ _)
      | (with_reducible exact ih3 _ _ _ _ _ _ _ _ _)
      | (with_reducible exact ih4 _ _ _ _ _ _ _ _ _ _)
      | (with_reducible exact ih5 _ _ _ _ _ _ _ _ _)
      | (with_reducible exact ih6 _ _ _ _ _ _ _ _ _ _)
      | (with_reducible exact LeO.refl _)
      | (with_reducible exact LeO.none _)
      | (with_reducible refine LeO.ite ?_ ?_)
      | (with_reducible refine LeO.bind ?_ (fun _ => ?_))
      | exact ih0 _ _ _
      | exact ih1 _ _ _
      | exact ih2 _ _ _ _ _ _ _ _
      | exact ih3 _ _ _ _ _ _ _ _ _
      | exact ih4 _ _ _ _ _ _ _ _ _ _
      | exact ih5 _ _ _ _ _ _ _ _ _
      | exact ih6 _ _ _ _ _ _ _ _ _ _
      | exact LeO.none _
      | refine LeO.ite ?_ ?_
      | refine LeO.bind ?_ (fun _ => ?_)
    · intro y0 y1 y2 y3 y4 y5 y6 y7
      unfold gobits_Div64.j4
      repeat' first
      | (with_reducible exact ih0 _ _ _)
      | (with_reducible exact ih1 _ _ _)
      | (with_reducible exact ih2 _ _ _ _ _ _ _ _)
      | (with_reducible exact ih3 _ _ _ _ _ _ _ _ _)
      | (with_reducible exact ih4 _ _ _ _ _ _ _ _ _ _)
      | (with_reducible exact ih5 _ _ _ _ _ _ _ _ _)
      | (with_reducible exact ih6 _ _ _ _ _ _ _ _ _ _)
      | (with_reducible exact LeO.refl _)
      | (with_reducible exact LeO.none _)
      | (with_reducible refine LeO.ite ?_ ?_)
      | (with_reducible refine LeO.bind ?_ (fun _ => ?_))
      | exact ih0 _ _ _
      | exact ih1 _ _ _
      | exact ih2 _ _ _ _ _ _ _ _
      | exact ih3 _ _ _ _ _ _ _ _ _
      | exact ih4 _ _ _ _ _ _ _ _ _ _
      | exact ih5 _ _ _ _ _ _ _ _ _
      | exact ih6 _ _ _ _ _ _ _ _ _ _
      | exact LeO.none _
      | refine LeO.ite ?_ ?_
      | refine LeO.bind ?_ (fun _ => ?_)
    · intro y0 y1 y2 y3 y4 y5 y6 y7 y8
      unfold gobits_Div64.l1
      repeat' first
      | (with_reducible exact ih0 _ _ _)
      | (with_reducible exact ih1 _ _ _)
      | (with_reducible exact ih2 _ _ _ _ _ _ _ _)
      | (with_reducible exact ih3 _ _ _ _ _ _ _ _ _)
      | (with_reducible exact ih4 _ _ _ _ _ _ _ _ _ _)
      | (with_reducible exact ih5 _ _ _ _ _ _ _ _ _)
      | (with_reducible exact ih6 _ _ _ _ _ _ _ _ _ _)
      | (with_reducible exact LeO.refl _)
      | (with_reducible exact LeO.none _)
      | (with_reducible refine LeO.ite ?_ ?_)
      | (with_reducible refine LeO.bind ?_ (fun _ => ?_))
      | exact ih0 _ _ _
      | exact ih1 _ _ _
      | exact ih2 _ _ _ _ _ _ _ _
      | exact ih3 _ _ _ _ _ _ _ _ _
      | exact ih4 _ _ _ _ _ _ _ _ _ _
      | exact ih5 _ _ _ _ _ _ _ _ _
      | exact ih6 _ _ _ _ _ _ _ _ _ _
      | exact LeO.none _
      | refine LeO.ite ?_ ?_
      | refine LeO.bind ?_ (fun _ => ?_)
    · intro y0 y1 y2 y3 y4 y5 y6 y7 y8 y9
      unfold gobits_Div64.j6
      repeat' first
      | (with_reducible exact ih0 _ _ _)
      | (with_reducible exact ih1 _ _ _)
      | (with_reducible exact ih2 _ _ _ _ _ _ _ _)
      | (with_reducible exact ih3 _ _ _ _ _ _ _ _ _)
      | (with_reducible exact ih4 _ _ _ _ _ _ _ _ _ _)
      | (with_reducible exact ih5 _ _ _ _ _ _ _ _ _)
      | (with_reducible exact ih6 _ _ _ _ _ _ _ _ _ _)
      | (with_reducible exact LeO.refl _)
      | (with_reducible exact LeO.none _)
      | (with_reducible refine LeO.ite ?_ ?_)
      | (with_reducible refine LeO.bind ?_ (fun _ => ?_))
      | exact ih0 _ _ _
      | exact ih1 _ _ _
      | exact ih2 _ _ _ _ _ _ _ _
      | exact ih3 _ _ _ _ _ _ _ _ _
      | exact ih4 _ _ _ _ _ _ _ _ _ _
      | exact ih5 _ _ _ _ _ _ _ _ _
      | exact ih6 _ _ _ _ _ _ _ _ _ _
      | exact LeO.none _
      | refine LeO.ite ?_ ?_
      | refine LeO.bind ?_ (fun _ => ?_)
    · intro y0 y1 y2 y3 y4 y5 y6 y7 y8
      unfold gobits_Div64.l0
      repeat' first
      | (with_reducible exact ih0 _ _ _)
      | (with_reducible exact ih1 _ _ _)
      | (with_reducible exact ih2 _ _ _ _ _ _ _ _)
      | (with_reducible exact ih3 _ _ _ _ _ _ _ _ _)
      | (with_reducible exact ih4 _ _ _ _ _ _ _ _ _ _)
      | (with_reducible exact ih5 _ _ _ _ _ _ _ _ _)
      | (with_reducible exact ih6 _ _ _ _ _ _ _ _ _ _)
      | (with_reducible exact LeO.refl _)
      | (with_reducible exact LeO.none _)
      | (with_reducible refine LeO.ite ?_ ?_)
      | (with_reducible refine LeO.bind ?_ (fun _ => ?_))
      | exact ih0 _ _ _
      | exact ih1 _ _ _
      | exact ih2 _ _ _ _ _ _ _ _
      | exact ih3 _ _ _ _ _ _ _ _ _
      | exact ih4 _ _ _ _ _ _ _ _ _ _
      | exact ih5 _ _ _ _ _ _ _ _ _
      | exact ih6 _ _ _ _ _ _ _ _ _ _
      | exact LeO.none _
      | refine LeO.ite ?_ ?_
      | refine LeO.bind ?_ (fun _ => ?_)
    · intro y0 y1 y2 y3 y4 y5 y6 y7 y8 y9
      unfold gobits_Div64.j3
      repeat' first
      | (with_reducible exact ih0 _ _ _)
      | (with_reducible exact ih1 _ _ _)
      | (with_reducible exact ih2 _ _ _ _ _ _ _ _)
      | (with_reducible exact ih3 _ _ _ _ _ _ _ _ _)
      | (with_reducible exact ih4 _ _ _ _ _ _ _ _ _ _)
      | (with_reducible exact ih5 _ _ _ _ _ _ _ _ _)
      | (with_reducible exact ih6 _ _ _ _ _ _ _ _ _ _)
      | (with_reducible exact LeO.refl _)
      | (with_reducible exact LeO.none _)
      | (with_reducible refine LeO.ite ?_ ?_)
      | (with_reducible refine LeO.bind ?_ (fun _ => ?_))
      | exact ih0 _ _ _
      | exact ih1 _ _ _
      | exact ih2 _ _ _ _ _ _ _ _
      | exact ih3 _ _ _ _ _ _ _ _ _
      | exact ih4 _ _ _ _ _ _ _ _ _ _
      | exact ih5 _ _ _ _ _ _ _ _ _
      | exact ih6 _ _ _ _ _ _ _ _ _ _
      | exact LeO.none _
      | refine LeO.ite ?_ ?_
      | refine LeO.bind ?_ (fun _ => ?_)
theorem gobits_Div64.mono : ∀ a0 a1 a2 k, LeO (gobits_Div64.f k a0 a1 a2) (gobits_Div64.f (k + 1) a0 a1 a2) := by
  intro a0 a1 a2 k
  obtain ⟨ih0, ih1, ih2, ih3, ih4, ih5, ih6⟩ := gobits_Div64.mono_l k
  unfold gobits_Div64.f
  repeat' first
      | (with_reducible exact ih0 _ _ _)
      | (with_reducible exact ih1 _ _ _)
      | (with_reducible exact ih2 _ _ _ _ _ _ _ _)
      | (with_reducible exact ih3 _ _ _ _ _ _ _ _ _)
      | (with_reducible exact ih4 _ _ _ _ _ _ _ _ _ _)
      | (with_reducible exact ih5 _ _ _ _ _ _ _ _ _)
      | (with_reducible exact ih6 _ _ _ _ _ _ _ _ _ _)
      | (with_reducible exact LeO.refl _)
      | (with_reducible exact LeO.none _)
      | (with_reducible refine LeO.ite ?_ ?_)
      | (with_reducible refine LeO.bind ?_ (fun _ => ?_))
      | exact ih0 _ _ _
      | exact ih1 _ _ _
      | exact ih2 _ _ _ _ _ _ _ _
      | exact ih3 _ _ _ _ _ _ _ _ _
      | exact ih4 _ _ _ _ _ _ _ _ _ _
      | exact ih5 _ _ _ _ _ _ _ _ _
      | exact ih6 _ _ _ _ _ _ _ _ _ _
      | exact LeO.none _
      | refine LeO.ite ?_ ?_
      | refine LeO.bind ?_ (fun _ => ?_)
set_option maxHeartbeats 8000000 in
set_option maxRecDepth 100000 in
theorem gobits_Div64.calls (k : Nat) (a0 : Int) (a1 : Int) (a2 : Int) (r1 : Int) (r2 : Int) (w : World) (h : gobits_Div64.f k a0 a1 a2 = some (r1, r2)) :
    Calls Tryd.prog 104 #[.int .u64 a0, .int .u64 a1, .int .u64 a2] w fun e w' => e = .returned (.tuple #[.int .u64 r1, .int .u64 r2]) ∧ Drawn0 w w' := by
  have H : (if a2 = 0 then (if 0 = 0 then (none) else (gobits_Div64.j0 k a0 a1 a2)) else (gobits_Div64.j0 k a0 a1 a2)) = some (r1, r2) := h
  clear h
  have HC4 := Aside0.mk H
  clear H
  go_enter Tryd.func104, Tryd.ntmps104
  go_upto_if 20 with (fail)
  repeat (go_quiet (fail); go_upto_if 20 with (fail))
  go_cut [] (fun wc => ∃ (kq : Nat), Aside0 (gobits_Div64.j0 kq a0 a1 a2 = some (r1, r2)) ∧ Aside0 (kq ≤ k) ∧ Drawn0 w wc)
  case first =>
    have H := HC4.out
    clear HC4
    by_cases c5 : a2 = 0
    · rw [if_pos c5] at H
      have c5b0 : (a2 == 0) = true := beq_iff_eq.mpr c5
      have c5b1 : (a2 != 0) = false := bne_eq_false_iff_eq.mpr c5
      clear c5
      (first | rw [c5b0] | (simp only [i64_w, i32_w]; rw [c5b0]) | skip)
      exact absurd H (by simp)
    · rw [if_neg c5] at H
      have c5b0 : (a2 == 0) = false := beq_eq_false_iff_ne.mpr c5
      have c5b1 : (a2 != 0) = true := bne_iff_ne.mpr c5
      (first | rw [c5b0] | (simp only [i64_w, i32_w]; rw [c5b0]) | skip)
      have H' := Aside0.mk H
      clear H
      go_wp2
      repeat (go_quiet (fail); try go_wp2)
      go_meet
      case rel => exact ⟨_, H', ⟨by first | omega | exact Nat.le_refl _⟩, by repeat (first | exact Drawn0.refl _ | apply Drawn0.step)⟩
  case rest =>
    clear HC4
    try clear c1
    try clear p2
    try clear c5
    try clear c5b0
    try clear c5b1
    try clear c6
    try clear c6b0
    try clear c6b1
    obtain ⟨kq, HA, HJ3, ⟨mc3, rfl⟩⟩ := hcut
    cases kq with
    | zero => exact absurd HA.out (by simp [gobits_Div64.j0])
    | succ kj3 =>
      have H := HA.out
      clear HA
      simp only [gobits_Div64.j0] at H
      have HC7 := Aside0.mk H
      clear H
      go_upto_if 24 with (fail)
      repeat (go_quiet (fail); go_upto_if 24 with (fail))
      go_cut [] (fun wc => ∃ (kq : Nat), Aside0 (gobits_Div64.j1 kq a0 a1 a2 = some (r1, r2)) ∧ Aside0 (kq ≤ kj3) ∧ Drawn0 w wc)
      case first =>
        have H := HC7.out
        clear HC7
        by_cases c8 : a2 ≤ a0
        · rw [if_pos c8] at H
          have c8b0 : decide (a2 ≤ a0) = true := decide_eq_true c8
          clear c8
          (first | rw [c8b0] | (simp only [i64_w, i32_w]; rw [c8b0]) | skip)
          exact absurd H (by simp)
        · rw [if_neg c8] at H
          have c8b0 : decide (a2 ≤ a0) = false := decide_eq_false c8
          clear c8
          (first | rw [c8b0] | (simp only [i64_w, i32_w]; rw [c8b0]) | skip)
          have H' := Aside0.mk H
          clear H
          go_wp2
          repeat (go_quiet (fail); try go_wp2)
          go_meet
          case rel => exact ⟨_, H', ⟨by have := HJ3.out; first | omega | exact Nat.le_refl _⟩, by repeat (first | exact Drawn0.refl _ | apply Drawn0.step)⟩
      case rest =>
        clear HC7
        try clear c1
        try clear p2
        try clear c3
        try clear c5
        try clear c5b0
        try clear c5b1
        try clear c6
        try clear c6b0
        try clear c6b1
        try clear c8
        try clear c8b0
        try clear c9
        try clear c9b0
        try clear c9b1
        try clear p2
        obtain ⟨kq, HA, HJ6, ⟨mc6, rfl⟩⟩ := hcut
        cases kq with
        | zero => exact absurd HA.out (by simp [gobits_Div64.j1])
        | succ kj6 =>
          have H := HA.out
          clear HA
          simp only [gobits_Div64.j1] at H
          by_cases c10 : a0 = 0
          · rw [if_pos c10] at H
            have c10b0 : (a0 == 0) = true := beq_iff_eq.mpr c10
            have c10b1 : (a0 != 0) = false := bne_eq_false_iff_eq.mpr c10
            clear c10
            by_cases c11 : a2 = 0
            · rw [if_pos c11] at H
              exact absurd H (by simp)
            · rw [if_neg c11] at H
              have c11b0 : (a2 == 0) = false := beq_eq_false_iff_ne.mpr c11
              have c11b1 : (a2 != 0) = true := bne_iff_ne.mpr c11
              simp only [Option.some.injEq, Prod.mk.injEq] at H
              obtain ⟨rfl, rfl⟩ := H
              go_wp2
              repeat (go_quiet (fail); try go_wp2)
              go_ret2
              exact ⟨by first | rfl | (simp; done) | (simp [*]; done), by repeat (first | exact Drawn0.refl _ | apply Drawn0.step)⟩
          · rw [if_neg c10] at H
            have c10b0 : (a0 == 0) = false := beq_eq_false_iff_ne.mpr c10
            have c10b1 : (a0 != 0) = true := bne_iff_ne.mpr c10
            replace H := Option.bind_eq_some_iff.mp H
            obtain ⟨t284, A120, H⟩ := H
            replace H : (if 0 ≤ (IntKind.u64.wrap (t284)) then (if 0 ≤ (IntKind.u64.wrap (64 - (IntKind.u64.wrap (t284)))) then (if ((shl .u64 a2 (IntKind.u64.wrap (t284))) / 4294967296) = 0 then (none) else (gobits_Div64.l0 kj6 (shl .u64 a2 (IntKind.u64.wrap (t284))) (IntKind.u64.wrap (t284)) ((shl .u64 a2 (IntKind.u64.wrap (t284))) / 4294967296) (Go.bits .and .u64 (shl .u64 a2 (IntKind.u64.wrap (t284))) 4294967295) (Go.bits .or .u64 (shl .u64 a0 (IntKind.u64.wrap (t284))) (shr .u64 a1 (IntKind.u64.wrap (64 - (IntKind.u64.wrap (t284)))))) ((shl .u64 a1 (IntKind.u64.wrap (t284))) / 4294967296) (Go.bits .and .u64 (shl .u64 a1 (IntKind.u64.wrap (t284))) 4294967295) (IntKind.u64.wrap (Int.tdiv (Go.bits .or .u64 (shl .u64 a0 (IntKind.u64.wrap (t284))) (shr .u64 a1 (IntKind.u64.wrap (64 - (IntKind.u64.wrap (t284)))))) ((shl .u64 a2 (IntKind.u64.wrap (t284))) / 4294967296))) (IntKind.u64.wrap ((Go.bits .or .u64 (shl .u64 a0 (IntKind.u64.wrap (t284))) (shr .u64 a1 (IntKind.u64.wrap (64 - (IntKind.u64.wrap (t284)))))) - (IntKind.u64.wrap ((IntKind.u64.wrap (Int.tdiv (Go.bits .or .u64 (shl .u64 a0 (IntKind.u64.wrap (t284))) (shr .u64 a1 (IntKind.u64.wrap (64 - (IntKind.u64.wrap (t284)))))) ((shl .u64 a2 (IntKind.u64.wrap (t284))) / 4294967296))) * ((shl .u64 a2 (IntKind.u64.wrap (t284))) / 4294967296))))))) else (none)) else (none)) = some (r1, r2) := H
            have A12 := Aside0.mk A120
            clear A120
            obtain ⟨ji13, hji13⟩ : ∃ j_ : Int, (IntKind.u64.wrap (t284)) = j_ := ⟨_, rfl⟩
            replace H : (if 0 ≤ (ji13) then (if 0 ≤ (IntKind.u64.wrap (64 - (ji13))) then (if ((shl .u64 a2 (ji13)) / 4294967296) = 0 then (none) else (gobits_Div64.l0 kj6 (shl .u64 a2 (ji13)) ji13 ((shl .u64 a2 (ji13)) / 4294967296) (Go.bits .and .u64 (shl .u64 a2 (ji13)) 4294967295) (Go.bits .or .u64 (shl .u64 a0 (ji13)) (shr .u64 a1 (IntKind.u64.wrap (64 - (ji13))))) ((shl .u64 a1 (ji13)) / 4294967296) (Go.bits .and .u64 (shl .u64 a1 (ji13)) 4294967295) (IntKind.u64.wrap (Int.tdiv (Go.bits .or .u64 (shl .u64 a0 (ji13)) (shr .u64 a1 (IntKind.u64.wrap (64 - (ji13))))) ((shl .u64 a2 (ji13)) / 4294967296))) (IntKind.u64.wrap ((Go.bits .or .u64 (shl .u64 a0 (ji13)) (shr .u64 a1 (IntKind.u64.wrap (64 - (ji13))))) - (IntKind.u64.wrap ((IntKind.u64.wrap (Int.tdiv (Go.bits .or .u64 (shl .u64 a0 (ji13)) (shr .u64 a1 (IntKind.u64.wrap (64 - (ji13))))) ((shl .u64 a2 (ji13)) / 4294967296))) * ((shl .u64 a2 (ji13)) / 4294967296))))))) else (none)) else (none)) = some (r1, r2) := by first | (rw [hji13] at H; exact H) | (simp only [hji13] at H ⊢; exact H)
            (try rw [hji13] at A12)
            by_cases c14 : 0 ≤ (ji13)
            · rw [if_pos c14] at H
              have c14b0 := eq_true c14
              have c14b1 : decide (0 ≤ (ji13)) = true := decide_eq_true c14
              clear c14
              obtain ⟨ji15, hji15⟩ : ∃ j_ : Int, (shl .u64 a2 (ji13)) = j_ := ⟨_, rfl⟩
              replace H : (if 0 ≤ (IntKind.u64.wrap (64 - (ji13))) then (if ((ji15) / 4294967296) = 0 then (none) else (gobits_Div64.l0 kj6 ji15 ji13 ((ji15) / 4294967296) (Go.bits .and .u64 (ji15) 4294967295) (Go.bits .or .u64 (shl .u64 a0 (ji13)) (shr .u64 a1 (IntKind.u64.wrap (64 - (ji13))))) ((shl .u64 a1 (ji13)) / 4294967296) (Go.bits .and .u64 (shl .u64 a1 (ji13)) 4294967295) (IntKind.u64.wrap (Int.tdiv (Go.bits .or .u64 (shl .u64 a0 (ji13)) (shr .u64 a1 (IntKind.u64.wrap (64 - (ji13))))) ((ji15) / 4294967296))) (IntKind.u64.wrap ((Go.bits .or .u64 (shl .u64 a0 (ji13)) (shr .u64 a1 (IntKind.u64.wrap (64 - (ji13))))) - (IntKind.u64.wrap ((IntKind.u64.wrap (Int.tdiv (Go.bits .or .u64 (shl .u64 a0 (ji13)) (shr .u64 a1 (IntKind.u64.wrap (64 - (ji13))))) ((ji15) / 4294967296))) * ((ji15) / 4294967296))))))) else (none)) = some (r1, r2) := by first | (rw [hji15] at H; exact H) | (simp only [hji15] at H ⊢; exact H)
              (try rw [hji15] at A12)
              have hji15_ : (IntKind.u64.wrap (a2 * 2 ^ min (ji13).toNat 64)) = ji15 := hji15
              have hji15z : (ji13) ≤ 64 → (IntKind.u64.wrap (a2 * 2 ^ (ji13).toNat)) = ji15 := shl_small hji15
              have c16b0 := eq_true (of_decide_eq_true (by first | (with_reducible assumption) | assumption) : 0 ≤ (ji13))
              obtain ⟨ji17, hji17⟩ : ∃ j_ : Int, (shl .u64 a0 (ji13)) = j_ := ⟨_, rfl⟩
              replace H : (if 0 ≤ (IntKind.u64.wrap (64 - (ji13))) then (if ((ji15) / 4294967296) = 0 then (none) else (gobits_Div64.l0 kj6 ji15 ji13 ((ji15) / 4294967296) (Go.bits .and .u64 (ji15) 4294967295) (Go.bits .or .u64 (ji17) (shr .u64 a1 (IntKind.u64.wrap (64 - (ji13))))) ((shl .u64 a1 (ji13)) / 4294967296) (Go.bits .and .u64 (shl .u64 a1 (ji13)) 4294967295) (IntKind.u64.wrap (Int.tdiv (Go.bits .or .u64 (ji17) (shr .u64 a1 (IntKind.u64.wrap (64 - (ji13))))) ((ji15) / 4294967296))) (IntKind.u64.wrap ((Go.bits .or .u64 (ji17) (shr .u64 a1 (IntKind.u64.wrap (64 - (ji13))))) - (IntKind.u64.wrap ((IntKind.u64.wrap (Int.tdiv (Go.bits .or .u64 (ji17) (shr .u64 a1 (IntKind.u64.wrap (64 - (ji13))))) ((ji15) / 4294967296))) * ((ji15) / 4294967296))))))) else (none)) = some (r1, r2) := by first | (rw [hji17] at H; exact H) | (simp only [hji17] at H ⊢; exact H)
              (try rw [hji17] at A12)
              have hji17_ : (IntKind.u64.wrap (a0 * 2 ^ min (ji13).toNat 64)) = ji17 := hji17
              have hji17z : (ji13) ≤ 64 → (IntKind.u64.wrap (a0 * 2 ^ (ji13).toNat)) = ji17 := shl_small hji17
              obtain ⟨ji18, hji18⟩ : ∃ j_ : Int, (IntKind.u64.wrap (64 - (ji13))) = j_ := ⟨_, rfl⟩
              replace H : (if 0 ≤ (ji18) then (if ((ji15) / 4294967296) = 0 then (none) else (gobits_Div64.l0 kj6 ji15 ji13 ((ji15) / 4294967296) (Go.bits .and .u64 (ji15) 4294967295) (Go.bits .or .u64 (ji17) (shr .u64 a1 (ji18))) ((shl .u64 a1 (ji13)) / 4294967296) (Go.bits .and .u64 (shl .u64 a1 (ji13)) 4294967295) (IntKind.u64.wrap (Int.tdiv (Go.bits .or .u64 (ji17) (shr .u64 a1 (ji18))) ((ji15) / 4294967296))) (IntKind.u64.wrap ((Go.bits .or .u64 (ji17) (shr .u64 a1 (ji18))) - (IntKind.u64.wrap ((IntKind.u64.wrap (Int.tdiv (Go.bits .or .u64 (ji17) (shr .u64 a1 (ji18))) ((ji15) / 4294967296))) * ((ji15) / 4294967296))))))) else (none)) = some (r1, r2) := by first | (rw [hji18] at H; exact H) | (simp only [hji18] at H ⊢; exact H)
              (try rw [hji18] at A12)
              by_cases c19 : 0 ≤ (ji18)
              · rw [if_pos c19] at H
                have c19b0 := eq_true c19
                have c19b1 : decide (0 ≤ (ji18)) = true := decide_eq_true c19
                clear c19
                obtain ⟨ji20, hji20⟩ : ∃ j_ : Int, (shr .u64 a1 (ji18)) = j_ := ⟨_, rfl⟩
                replace H : (if ((ji15) / 4294967296) = 0 then (none) else (gobits_Div64.l0 kj6 ji15 ji13 ((ji15) / 4294967296) (Go.bits .and .u64 (ji15) 4294967295) (Go.bits .or .u64 (ji17) (ji20)) ((shl .u64 a1 (ji13)) / 4294967296) (Go.bits .and .u64 (shl .u64 a1 (ji13)) 4294967295) (IntKind.u64.wrap (Int.tdiv (Go.bits .or .u64 (ji17) (ji20)) ((ji15) / 4294967296))) (IntKind.u64.wrap ((Go.bits .or .u64 (ji17) (ji20)) - (IntKind.u64.wrap ((IntKind.u64.wrap (Int.tdiv (Go.bits .or .u64 (ji17) (ji20)) ((ji15) / 4294967296))) * ((ji15) / 4294967296))))))) = some (r1, r2) := by first | (rw [hji20] at H; exact H) | (simp only [hji20] at H ⊢; exact H)
                (try rw [hji20] at A12)
                have hji20_ : (a1 / 2 ^ min (ji18).toNat 64) = ji20 := hji20
                have hji20z : (ji18) ≤ 64 → (a1 / 2 ^ (ji18).toNat) = ji20 := shr_small hji20
                have c21b0 := eq_true (of_decide_eq_true (by first | (with_reducible assumption) | assumption) : 0 ≤ (ji13))
                obtain ⟨ji22, hji22⟩ : ∃ j_ : Int, (shl .u64 a1 (ji13)) = j_ := ⟨_, rfl⟩
                replace H : (if ((ji15) / 4294967296) = 0 then (none) else (gobits_Div64.l0 kj6 ji15 ji13 ((ji15) / 4294967296) (Go.bits .and .u64 (ji15) 4294967295) (Go.bits .or .u64 (ji17) (ji20)) ((ji22) / 4294967296) (Go.bits .and .u64 (ji22) 4294967295) (IntKind.u64.wrap (Int.tdiv (Go.bits .or .u64 (ji17) (ji20)) ((ji15) / 4294967296))) (IntKind.u64.wrap ((Go.bits .or .u64 (ji17) (ji20)) - (IntKind.u64.wrap ((IntKind.u64.wrap (Int.tdiv (Go.bits .or .u64 (ji17) (ji20)) ((ji15) / 4294967296))) * ((ji15) / 4294967296))))))) = some (r1, r2) := by first | (rw [hji22] at H; exact H) | (simp only [hji22] at H ⊢; exact H)
                (try rw [hji22] at A12)
                have hji22_ : (IntKind.u64.wrap (a1 * 2 ^ min (ji13).toNat 64)) = ji22 := hji22
                have hji22z : (ji13) ≤ 64 → (IntKind.u64.wrap (a1 * 2 ^ (ji13).toNat)) = ji22 := shl_small hji22
                by_cases c23 : ((ji15) / 4294967296) = 0
                · rw [if_pos c23] at H
                  exact absurd H (by simp)
                · rw [if_neg c23] at H
                  have c23b0 : (((ji15) / 4294967296) == 0) = false := beq_eq_false_iff_ne.mpr c23
                  have c23b1 : (((ji15) / 4294967296) != 0) = true := bne_iff_ne.mpr c23
                  have HC24 := Aside0.mk H
                  clear H
                  go_upto_block 0 with (first | (go_at_call 100; (with_reducible refine (bits_LeadingZeros64.calls a2 t284 _ A12.out).mono ?_); rintro e w' ⟨rfl, ⟨nd, rfl⟩⟩; (try first | exact ⟨rfl, _, World.drewN_drewN _ _ _⟩ | exact ⟨rfl, _, Eq.trans (World.drewN_drewN _ _ _) (congrArg (World.drewN _) (Nat.add_assoc _ _ _))⟩)))
                  repeat (go_quiet (first | (go_at_call 100; (with_reducible refine (bits_LeadingZeros64.calls a2 t284 _ A12.out).mono ?_); rintro e w' ⟨rfl, ⟨nd, rfl⟩⟩; (try first | exact ⟨rfl, _, World.drewN_drewN _ _ _⟩ | exact ⟨rfl, _, Eq.trans (World.drewN_drewN _ _ _) (congrArg (World.drewN _) (Nat.add_assoc _ _ _))⟩))); go_upto_block 0 with (first | (go_at_call 100; (with_reducible refine (bits_LeadingZeros64.calls a2 t284 _ A12.out).mono ?_); rintro e w' ⟨rfl, ⟨nd, rfl⟩⟩; (try first | exact ⟨rfl, _, World.drewN_drewN _ _ _⟩ | exact ⟨rfl, _, Eq.trans (World.drewN_drewN _ _ _) (congrArg (World.drewN _) (Nat.add_assoc _ _ _))⟩))))
                  (try simp only [Act.put, List.setIfInBounds_toArray, List.set_cons_zero, List.set_cons_succ])
                  go_cut [15] (fun v15 wc => ∃ (kq : Nat) (x15_23 : Int), v15 = .int .u64 x15_23 ∧ Aside0 (gobits_Div64.j4 kq ji15 ji13 ((ji15) / 4294967296) (Go.bits .and .u64 (ji15) 4294967295) (Go.bits .or .u64 (ji17) (ji20)) ((ji22) / 4294967296) (Go.bits .and .u64 (ji22) 4294967295) x15_23 = some (r1, r2)) ∧ Aside0 (kq ≤ kj6) ∧ Drawn0 w wc)
                  case first =>
                    have H := HC24.out
                    clear HC24
                    have H' := Aside0.mk H
                    clear H
                    go_wp2
                    repeat (go_quiet (fail); try go_wp2)
                    go_loopg [15, 16] kj6 (fun kq v15 v16 w' => ∃ (x15_3 : Int) (x16_3 : Int), v15 = .int .u64 x15_3 ∧ v16 = .int .u64 x16_3 ∧ Aside0 (gobits_Div64.l0 kq ji15 ji13 ((ji15) / 4294967296) (Go.bits .and .u64 (ji15) 4294967295) (Go.bits .or .u64 (ji17) (ji20)) ((ji22) / 4294967296) (Go.bits .and .u64 (ji22) 4294967295) x15_3 x16_3 = some (r1, r2)) ∧ Aside0 (kq ≤ kj6) ∧ Drawn0 w w')
                    case atStart => exact ⟨(IntKind.u64.wrap (Int.tdiv (Go.bits .or .u64 (ji17) (ji20)) ((ji15) / 4294967296))), (IntKind.u64.wrap ((Go.bits .or .u64 (ji17) (ji20)) - (IntKind.u64.wrap ((IntKind.u64.wrap (Int.tdiv (Go.bits .or .u64 (ji17) (ji20)) ((ji15) / 4294967296))) * ((ji15) / 4294967296))))), (by first | rfl | (simp; done) | (simp only [← hji15, ← hji17, ← hji20] <;> (first | rfl | simp)) | (simp [*]; done)), (by first | rfl | (simp; done) | (simp only [← hji15, ← hji17, ← hji20] <;> (first | rfl | simp)) | (simp [*]; done)), H', ⟨Nat.le_refl _⟩, by repeat (first | exact Drawn0.refl _ | apply Drawn0.step)⟩
                    case round =>
                      clear H'
                      try clear c1
                      try clear c2
                      try clear p2
                      try clear c3
                      try clear c5
                      try clear c5b0
                      try clear c5b1
                      try clear c6
                      try clear c6b0
                      try clear c6b1
                      try clear c8
                      try clear c8b0
                      try clear c9
                      try clear c9b0
                      try clear c9b1
                      try clear c10
                      try clear c10b0
                      try clear c10b1
                      try clear c11
                      try clear c11b0
                      try clear c11b1
                      try clear c14
                      try clear c14b0
                      try clear c14b1
                      try clear c16
                      try clear c16b0
                      try clear c19
                      try clear c19b0
                      try clear c19b1
                      try clear c21
                      try clear c21b0
                      try clear c23
                      try clear c23b0
                      try clear c23b1
                      try clear p2
                      obtain ⟨x15_3, x16_3, rfl, rfl, HA, HK3, ⟨m3, rfl⟩⟩ := hrel
                      cases gk with
                      | zero => exact absurd HA.out (by simp [gobits_Div64.l0])
                      | succ k3 =>
                        have H := HA.out
                        clear HA
                        simp only [gobits_Div64.l0] at H
                        have HC25 := Aside0.mk H
                        clear H
                        go_upto_region 17 with (fail)
                        repeat (go_quiet (fail); go_upto_region 17 with (fail))
                        go_cut [78] (fun v78 wc => ∃ (kq : Nat) (x78_24 : Bool), v78 = .bool x78_24 ∧ Aside0 (gobits_Div64.j3 kq ji15 ji13 ((ji15) / 4294967296) (Go.bits .and .u64 (ji15) 4294967295) (Go.bits .or .u64 (ji17) (ji20)) ((ji22) / 4294967296) (Go.bits .and .u64 (ji22) 4294967295) x15_3 x16_3 x78_24 = some (r1, r2)) ∧ Aside0 (kq ≤ k3) ∧ Drawn0 w wc)
                        case first =>
                          have H := HC25.out
                          clear HC25
                          by_cases c26 : x15_3 ≥ 4294967296
                          · rw [if_pos c26] at H
                            have c26b0 : decide (4294967296 ≤ x15_3) = true := decide_eq_true c26
                            clear c26
                            (first | rw [c26b0] | (simp only [i64_w, i32_w]; rw [c26b0]) | skip)
                            have H' := Aside0.mk H
                            clear H
                            go_wp2
                            repeat (go_quiet (fail); try go_wp2)
                            go_meet
                            case rel => exact ⟨_, (true), (by first | rfl | (simp; done) | (simp [*]; done)), H', ⟨by have := HJ3.out; have := HJ6.out; have := HK3.out; first | omega | exact Nat.le_refl _⟩, by repeat (first | exact Drawn0.refl _ | apply Drawn0.step)⟩
                          · rw [if_neg c26] at H
                            have c26b0 : decide (4294967296 ≤ x15_3) = false := decide_eq_false c26
                            clear c26
                            (first | rw [c26b0] | (simp only [i64_w, i32_w]; rw [c26b0]) | skip)
                            have H' := Aside0.mk H
                            clear H
                            go_wp2
                            repeat (go_quiet (fail); try go_wp2)
                            go_meet
                            case rel => exact ⟨_, (decide ((IntKind.u64.wrap (x15_3 * (Go.bits .and .u64 (ji15) 4294967295))) > (IntKind.u64.wrap ((IntKind.u64.wrap (4294967296 * x16_3)) + ((ji22) / 4294967296))))), (by first | rfl | (simp; done) | (simp only [← hji15, ← hji22] <;> (first | rfl | simp)) | (simp [*]; done)), H', ⟨by have := HJ3.out; have := HJ6.out; have := HK3.out; first | omega | exact Nat.le_refl _⟩, by repeat (first | exact Drawn0.refl _ | apply Drawn0.step)⟩
                        case rest =>
                          clear HC25
                          try clear c1
                          try clear c2
                          try clear p2
                          try clear c3
                          try clear c5
                          try clear c5b0
                          try clear c5b1
                          try clear c6
                          try clear c6b0
                          try clear c6b1
                          try clear c8
                          try clear c8b0
                          try clear c9
                          try clear c9b0
                          try clear c9b1
                          try clear c10
                          try clear c10b0
                          try clear c10b1
                          try clear c11
                          try clear c11b0
                          try clear c11b1
                          try clear c14
                          try clear c14b0
                          try clear c14b1
                          try clear c16
                          try clear c16b0
                          try clear c19
                          try clear c19b0
                          try clear c19b1
                          try clear c21
                          try clear c21b0
                          try clear c23
                          try clear c23b0
                          try clear c23b1
                          try clear c26
                          try clear c26b0
                          try clear p2
                          obtain ⟨kq, x78_24, rfl, HA, HJ24, ⟨mc24, rfl⟩⟩ := hcut
                          cases kq with
                          | zero => exact absurd HA.out (by simp [gobits_Div64.j3])
                          | succ kj24 =>
                            have H := HA.out
                            clear HA
                            simp only [gobits_Div64.j3] at H
                            by_cases c27 : x78_24 = true
                            · subst c27
                              have H1 : (if (IntKind.u64.wrap (x16_3 + ((ji15) / 4294967296))) ≥ 4294967296 then (gobits_Div64.j4 kj24 ji15 ji13 ((ji15) / 4294967296) (Go.bits .and .u64 (ji15) 4294967295) (Go.bits .or .u64 (ji17) (ji20)) ((ji22) / 4294967296) (Go.bits .and .u64 (ji22) 4294967295) (IntKind.u64.wrap (x15_3 - 1))) else (gobits_Div64.l0 kj24 ji15 ji13 ((ji15) / 4294967296) (Go.bits .and .u64 (ji15) 4294967295) (Go.bits .or .u64 (ji17) (ji20)) ((ji22) / 4294967296) (Go.bits .and .u64 (ji22) 4294967295) (IntKind.u64.wrap (x15_3 - 1)) (IntKind.u64.wrap (x16_3 + ((ji15) / 4294967296))))) = some (r1, r2) := by rw [if_pos rfl] at H; exact H
                              clear H
                              have H := H1
                              clear H1
                              by_cases c28 : (IntKind.u64.wrap (x16_3 + ((ji15) / 4294967296))) ≥ 4294967296
                              · rw [if_pos c28] at H
                                have c28b0 : decide (4294967296 ≤ (IntKind.u64.wrap (x16_3 + ((ji15) / 4294967296)))) = true := decide_eq_true c28
                                clear c28
                                have H' := Aside0.mk H
                                clear H
                                go_wp2
                                repeat (go_quiet (fail); try go_wp2)
                                go_meet
                                case rel => exact ⟨_, (IntKind.u64.wrap (x15_3 - 1)), (by first | rfl | (simp; done) | (simp [*]; done)), H', ⟨by have := HJ3.out; have := HJ6.out; have := HK3.out; have := HJ24.out; first | omega | exact Nat.le_refl _⟩, by repeat (first | exact Drawn0.refl _ | apply Drawn0.step)⟩
                              · rw [if_neg c28] at H
                                have c28b0 : decide (4294967296 ≤ (IntKind.u64.wrap (x16_3 + ((ji15) / 4294967296)))) = false := decide_eq_false c28
                                clear c28
                                have H' := Aside0.mk H
                                clear H
                                go_wp2
                                repeat (go_quiet (fail); try go_wp2)
                                go_roundg kj24
                                case measure => have := HJ3.out; have := HJ6.out; have := HK3.out; have := HJ24.out; omega
                                case rel => exact ⟨(IntKind.u64.wrap (x15_3 - 1)), (IntKind.u64.wrap (x16_3 + ((ji15) / 4294967296))), (by first | rfl | (simp; done) | (simp [*]; done)), (by first | rfl | (simp; done) | (simp only [← hji15] <;> (first | rfl | simp)) | (simp [*]; done)), H', ⟨by have := HJ3.out; have := HJ6.out; have := HK3.out; have := HJ24.out; omega⟩, by repeat (first | exact Drawn0.refl _ | apply Drawn0.step)⟩
                            · replace c27 := Bool.eq_false_iff.mpr c27
                              subst c27
                              have H1 : (gobits_Div64.j4 kj24 ji15 ji13 ((ji15) / 4294967296) (Go.bits .and .u64 (ji15) 4294967295) (Go.bits .or .u64 (ji17) (ji20)) ((ji22) / 4294967296) (Go.bits .and .u64 (ji22) 4294967295) x15_3) = some (r1, r2) := by rw [if_neg (show ¬ (false = true) by decide)] at H; exact H
                              clear H
                              have H := H1
                              clear H1
                              have H' := Aside0.mk H
                              clear H
                              go_wp2
                              repeat (go_quiet (fail); try go_wp2)
                              go_meet
                              case rel => exact ⟨_, (x15_3), (by first | rfl | (simp; done) | (simp [*]; done)), H', ⟨by have := HJ3.out; have := HJ6.out; have := HK3.out; have := HJ24.out; first | omega | exact Nat.le_refl _⟩, by repeat (first | exact Drawn0.refl _ | apply Drawn0.step)⟩
                  case rest =>
                    clear HC24
                    try clear c1
                    try clear c2
                    try clear p2
                    try clear c3
                    try clear c5
                    try clear c5b0
                    try clear c5b1
                    try clear c6
                    try clear c6b0
                    try clear c6b1
                    try clear c8
                    try clear c8b0
                    try clear c9
                    try clear c9b0
                    try clear c9b1
                    try clear c10
                    try clear c10b0
                    try clear c10b1
                    try clear c11
                    try clear c11b0
                    try clear c11b1
                    try clear c14
                    try clear c14b0
                    try clear c14b1
                    try clear c16
                    try clear c16b0
                    try clear c19
                    try clear c19b0
                    try clear c19b1
                    try clear c21
                    try clear c21b0
                    try clear c23
                    try clear c23b0
                    try clear c23b1
                    try clear c24
                    try clear c26
                    try clear c26b0
                    try clear c27
                    try clear c28
                    try clear c28b0
                    try clear p2
                    obtain ⟨kq, x15_23, rfl, HA, HJ23, ⟨mc23, rfl⟩⟩ := hcut
                    cases kq with
                    | zero => exact absurd HA.out (by simp [gobits_Div64.j4])
                    | succ kj23 =>
                      have H := HA.out
                      clear HA
                      simp only [gobits_Div64.j4] at H
                      by_cases c29 : ((ji15) / 4294967296) = 0
                      · rw [if_pos c29] at H
                        exact absurd H (by simp)
                      · rw [if_neg c29] at H
                        have c29b0 : (((ji15) / 4294967296) == 0) = false := beq_eq_false_iff_ne.mpr c29
                        have c29b1 : (((ji15) / 4294967296) != 0) = true := bne_iff_ne.mpr c29
                        have H' := Aside0.mk H
                        clear H
                        go_wp2
                        repeat (go_quiet (fail); try go_wp2)
                        go_loopg [16, 18] kj23 (fun kq v16 v18 w' => ∃ (x16_4 : Int) (x18_4 : Int), v16 = .int .u64 x16_4 ∧ v18 = .int .u64 x18_4 ∧ Aside0 (gobits_Div64.l1 kq ji15 ji13 ((ji15) / 4294967296) (Go.bits .and .u64 (ji15) 4294967295) (Go.bits .and .u64 (ji22) 4294967295) x15_23 x16_4 (IntKind.u64.wrap ((IntKind.u64.wrap ((IntKind.u64.wrap ((Go.bits .or .u64 (ji17) (ji20)) * 4294967296)) + ((ji22) / 4294967296))) - (IntKind.u64.wrap (x15_23 * ji15)))) x18_4 = some (r1, r2)) ∧ Aside0 (kq ≤ kj23) ∧ Drawn0 w w')
                        case atStart => exact ⟨(IntKind.u64.wrap ((IntKind.u64.wrap ((IntKind.u64.wrap ((IntKind.u64.wrap ((Go.bits .or .u64 (ji17) (ji20)) * 4294967296)) + ((ji22) / 4294967296))) - (IntKind.u64.wrap (x15_23 * ji15)))) - (IntKind.u64.wrap ((IntKind.u64.wrap (Int.tdiv (IntKind.u64.wrap ((IntKind.u64.wrap ((IntKind.u64.wrap ((Go.bits .or .u64 (ji17) (ji20)) * 4294967296)) + ((ji22) / 4294967296))) - (IntKind.u64.wrap (x15_23 * ji15)))) ((ji15) / 4294967296))) * ((ji15) / 4294967296))))), (IntKind.u64.wrap (Int.tdiv (IntKind.u64.wrap ((IntKind.u64.wrap ((IntKind.u64.wrap ((Go.bits .or .u64 (ji17) (ji20)) * 4294967296)) + ((ji22) / 4294967296))) - (IntKind.u64.wrap (x15_23 * ji15)))) ((ji15) / 4294967296))), (by first | rfl | (simp; done) | (simp only [← hji15, ← hji17, ← hji20, ← hji22] <;> (first | rfl | simp)) | (simp [*]; done)), (by first | rfl | (simp; done) | (simp only [← hji15, ← hji17, ← hji20, ← hji22] <;> (first | rfl | simp)) | (simp [*]; done)), H', ⟨Nat.le_refl _⟩, by repeat (first | exact Drawn0.refl _ | apply Drawn0.step)⟩
                        case round =>
                          clear H'
                          try clear c1
                          try clear c2
                          try clear p2
                          try clear c3
                          try clear c5
                          try clear c5b0
                          try clear c5b1
                          try clear c6
                          try clear c6b0
                          try clear c6b1
                          try clear c8
                          try clear c8b0
                          try clear c9
                          try clear c9b0
                          try clear c9b1
                          try clear c10
                          try clear c10b0
                          try clear c10b1
                          try clear c11
                          try clear c11b0
                          try clear c11b1
                          try clear c14
                          try clear c14b0
                          try clear c14b1
                          try clear c16
                          try clear c16b0
                          try clear c19
                          try clear c19b0
                          try clear c19b1
                          try clear c21
                          try clear c21b0
                          try clear c23
                          try clear c23b0
                          try clear c23b1
                          try clear c24
                          try clear c26
                          try clear c26b0
                          try clear c27
                          try clear c28
                          try clear c28b0
                          try clear c29
                          try clear c29b0
                          try clear c29b1
                          try clear p2
                          obtain ⟨x16_4, x18_4, rfl, rfl, HA, HK4, ⟨m4, rfl⟩⟩ := hrel
                          cases gk with
                          | zero => exact absurd HA.out (by simp [gobits_Div64.l1])
                          | succ k4 =>
                            have H := HA.out
                            clear HA
                            simp only [gobits_Div64.l1] at H
                            have HC30 := Aside0.mk H
                            clear H
                            go_upto_region 24 with (fail)
                            repeat (go_quiet (fail); go_upto_region 24 with (fail))
                            go_cut [113] (fun v113 wc => ∃ (kq : Nat) (x113_29 : Bool), v113 = .bool x113_29 ∧ Aside0 (gobits_Div64.j6 kq ji15 ji13 ((ji15) / 4294967296) (Go.bits .and .u64 (ji15) 4294967295) (Go.bits .and .u64 (ji22) 4294967295) x15_23 x16_4 (IntKind.u64.wrap ((IntKind.u64.wrap ((IntKind.u64.wrap ((Go.bits .or .u64 (ji17) (ji20)) * 4294967296)) + ((ji22) / 4294967296))) - (IntKind.u64.wrap (x15_23 * ji15)))) x18_4 x113_29 = some (r1, r2)) ∧ Aside0 (kq ≤ k4) ∧ Drawn0 w wc)
                            case first =>
                              have H := HC30.out
                              clear HC30
                              by_cases c31 : x18_4 ≥ 4294967296
                              · rw [if_pos c31] at H
                                have c31b0 : decide (4294967296 ≤ x18_4) = true := decide_eq_true c31
                                clear c31
                                (first | rw [c31b0] | (simp only [i64_w, i32_w]; rw [c31b0]) | skip)
                                have H' := Aside0.mk H
                                clear H
                                go_wp2
                                repeat (go_quiet (fail); try go_wp2)
                                go_meet
                                case rel => exact ⟨_, (true), (by first | rfl | (simp; done) | (simp [*]; done)), H', ⟨by have := HJ3.out; have := HJ6.out; have := HJ23.out; have := HK4.out; first | omega | exact Nat.le_refl _⟩, by repeat (first | exact Drawn0.refl _ | apply Drawn0.step)⟩
                              · rw [if_neg c31] at H
                                have c31b0 : decide (4294967296 ≤ x18_4) = false := decide_eq_false c31
                                clear c31
                                (first | rw [c31b0] | (simp only [i64_w, i32_w]; rw [c31b0]) | skip)
                                have H' := Aside0.mk H
                                clear H
                                go_wp2
                                repeat (go_quiet (fail); try go_wp2)
                                go_meet
                                case rel => exact ⟨_, (decide ((IntKind.u64.wrap (x18_4 * (Go.bits .and .u64 (ji15) 4294967295))) > (IntKind.u64.wrap ((IntKind.u64.wrap (4294967296 * x16_4)) + (Go.bits .and .u64 (ji22) 4294967295))))), (by first | rfl | (simp; done) | (simp only [← hji15, ← hji22] <;> (first | rfl | simp)) | (simp [*]; done)), H', ⟨by have := HJ3.out; have := HJ6.out; have := HJ23.out; have := HK4.out; first | omega | exact Nat.le_refl _⟩, by repeat (first | exact Drawn0.refl _ | apply Drawn0.step)⟩
                            case rest =>
                              clear HC30
                              try clear c1
                              try clear c2
                              try clear p2
                              try clear c3
                              try clear c5
                              try clear c5b0
                              try clear c5b1
                              try clear c6
                              try clear c6b0
                              try clear c6b1
                              try clear c8
                              try clear c8b0
                              try clear c9
                              try clear c9b0
                              try clear c9b1
                              try clear c10
                              try clear c10b0
                              try clear c10b1
                              try clear c11
                              try clear c11b0
                              try clear c11b1
                              try clear c14
                              try clear c14b0
                              try clear c14b1
                              try clear c16
                              try clear c16b0
                              try clear c19
                              try clear c19b0
                              try clear c19b1
                              try clear c21
                              try clear c21b0
                              try clear c23
                              try clear c23b0
                              try clear c23b1
                              try clear c24
                              try clear c26
                              try clear c26b0
                              try clear c27
                              try clear c28
                              try clear c28b0
                              try clear c29
                              try clear c29b0
                              try clear c29b1
                              try clear c31
                              try clear c31b0
                              try clear p2
                              obtain ⟨kq, x113_29, rfl, HA, HJ29, ⟨mc29, rfl⟩⟩ := hcut
                              cases kq with
                              | zero => exact absurd HA.out (by simp [gobits_Div64.j6])
                              | succ kj29 =>
                                have H := HA.out
                                clear HA
                                simp only [gobits_Div64.j6] at H
                                by_cases c32 : x113_29 = true
                                · subst c32
                                  have H1 : (if (IntKind.u64.wrap (x16_4 + ((ji15) / 4294967296))) ≥ 4294967296 then (if 0 ≤ ji13 then (some (IntKind.u64.wrap ((IntKind.u64.wrap (x15_23 * 4294967296)) + (IntKind.u64.wrap (x18_4 - 1))), shr .u64 (IntKind.u64.wrap ((IntKind.u64.wrap ((IntKind.u64.wrap ((IntKind.u64.wrap ((IntKind.u64.wrap ((IntKind.u64.wrap ((Go.bits .or .u64 (ji17) (ji20)) * 4294967296)) + ((ji22) / 4294967296))) - (IntKind.u64.wrap (x15_23 * ji15)))) * 4294967296)) + (Go.bits .and .u64 (ji22) 4294967295))) - (IntKind.u64.wrap ((IntKind.u64.wrap (x18_4 - 1)) * ji15)))) ji13)) else (none)) else (gobits_Div64.l1 kj29 ji15 ji13 ((ji15) / 4294967296) (Go.bits .and .u64 (ji15) 4294967295) (Go.bits .and .u64 (ji22) 4294967295) x15_23 (IntKind.u64.wrap (x16_4 + ((ji15) / 4294967296))) (IntKind.u64.wrap ((IntKind.u64.wrap ((IntKind.u64.wrap ((Go.bits .or .u64 (ji17) (ji20)) * 4294967296)) + ((ji22) / 4294967296))) - (IntKind.u64.wrap (x15_23 * ji15)))) (IntKind.u64.wrap (x18_4 - 1)))) = some (r1, r2) := by rw [if_pos rfl] at H; exact H
                                  clear H
                                  have H := H1
                                  clear H1
                                  by_cases c33 : (IntKind.u64.wrap (x16_4 + ((ji15) / 4294967296))) ≥ 4294967296
                                  · rw [if_pos c33] at H
                                    have c33b0 : decide (4294967296 ≤ (IntKind.u64.wrap (x16_4 + ((ji15) / 4294967296)))) = true := decide_eq_true c33
                                    clear c33
                                    by_cases c34 : 0 ≤ ji13
                                    · rw [if_pos c34] at H
                                      have c34b0 := eq_true c34
                                      have c34b1 : decide (0 ≤ ji13) = true := decide_eq_true c34
                                      clear c34
                                      obtain ⟨ji35, hji35⟩ : ∃ j_ : Int, (shr .u64 (IntKind.u64.wrap ((IntKind.u64.wrap ((IntKind.u64.wrap ((IntKind.u64.wrap ((IntKind.u64.wrap ((IntKind.u64.wrap ((Go.bits .or .u64 (ji17) (ji20)) * 4294967296)) + ((ji22) / 4294967296))) - (IntKind.u64.wrap (x15_23 * ji15)))) * 4294967296)) + (Go.bits .and .u64 (ji22) 4294967295))) - (IntKind.u64.wrap ((IntKind.u64.wrap (x18_4 - 1)) * ji15)))) ji13) = j_ := ⟨_, rfl⟩
                                      replace H : (some (IntKind.u64.wrap ((IntKind.u64.wrap (x15_23 * 4294967296)) + (IntKind.u64.wrap (x18_4 - 1))), ji35)) = some (r1, r2) := by first | (rw [hji35] at H; exact H) | (simp only [hji35] at H ⊢; exact H)
                                      have hji35_ : ((IntKind.u64.wrap ((IntKind.u64.wrap ((IntKind.u64.wrap ((IntKind.u64.wrap ((IntKind.u64.wrap ((IntKind.u64.wrap ((Go.bits .or .u64 (ji17) (ji20)) * 4294967296)) + ((ji22) / 4294967296))) - (IntKind.u64.wrap (x15_23 * ji15)))) * 4294967296)) + (Go.bits .and .u64 (ji22) 4294967295))) - (IntKind.u64.wrap ((IntKind.u64.wrap (x18_4 - 1)) * ji15)))) / 2 ^ min ji13.toNat 64) = ji35 := hji35
                                      have hji35z : ji13 ≤ 64 → ((IntKind.u64.wrap ((IntKind.u64.wrap ((IntKind.u64.wrap ((IntKind.u64.wrap ((IntKind.u64.wrap ((IntKind.u64.wrap ((Go.bits .or .u64 (ji17) (ji20)) * 4294967296)) + ((ji22) / 4294967296))) - (IntKind.u64.wrap (x15_23 * ji15)))) * 4294967296)) + (Go.bits .and .u64 (ji22) 4294967295))) - (IntKind.u64.wrap ((IntKind.u64.wrap (x18_4 - 1)) * ji15)))) / 2 ^ ji13.toNat) = ji35 := shr_small hji35
                                      simp only [Option.some.injEq, Prod.mk.injEq] at H
                                      obtain ⟨rfl, rfl⟩ := H
                                      go_wp2
                                      repeat (go_quiet (fail); try go_wp2)
                                      go_ret2
                                      exact ⟨by first | rfl | (simp; done) | (simp only [← hji13, ← hji15, ← hji17, ← hji18, ← hji20, ← hji22, ← hji35] <;> (first | rfl | simp)) | (simp [*]; done), by repeat (first | exact Drawn0.refl _ | apply Drawn0.step)⟩
                                    · rw [if_neg c34] at H
                                      exact absurd H (by simp)
                                  · rw [if_neg c33] at H
                                    have c33b0 : decide (4294967296 ≤ (IntKind.u64.wrap (x16_4 + ((ji15) / 4294967296)))) = false := decide_eq_false c33
                                    clear c33
                                    have H' := Aside0.mk H
                                    clear H
                                    go_wp2
                                    repeat (go_quiet (fail); try go_wp2)
                                    go_roundg kj29
                                    case measure => have := HJ3.out; have := HJ6.out; have := HJ23.out; have := HK4.out; have := HJ29.out; omega
                                    case rel => exact ⟨(IntKind.u64.wrap (x16_4 + ((ji15) / 4294967296))), (IntKind.u64.wrap (x18_4 - 1)), (by first | rfl | (simp; done) | (simp only [← hji15] <;> (first | rfl | simp)) | (simp [*]; done)), (by first | rfl | (simp; done) | (simp [*]; done)), H', ⟨by have := HJ3.out; have := HJ6.out; have := HJ23.out; have := HK4.out; have := HJ29.out; omega⟩, by repeat (first | exact Drawn0.refl _ | apply Drawn0.step)⟩
                                · replace c32 := Bool.eq_false_iff.mpr c32
                                  subst c32
                                  have H1 : (if 0 ≤ ji13 then (some (IntKind.u64.wrap ((IntKind.u64.wrap (x15_23 * 4294967296)) + x18_4), shr .u64 (IntKind.u64.wrap ((IntKind.u64.wrap ((IntKind.u64.wrap ((IntKind.u64.wrap ((IntKind.u64.wrap ((IntKind.u64.wrap ((Go.bits .or .u64 (ji17) (ji20)) * 4294967296)) + ((ji22) / 4294967296))) - (IntKind.u64.wrap (x15_23 * ji15)))) * 4294967296)) + (Go.bits .and .u64 (ji22) 4294967295))) - (IntKind.u64.wrap (x18_4 * ji15)))) ji13)) else (none)) = some (r1, r2) := by rw [if_neg (show ¬ (false = true) by decide)] at H; exact H
                                  clear H
                                  have H := H1
                                  clear H1
                                  by_cases c36 : 0 ≤ ji13
                                  · rw [if_pos c36] at H
                                    have c36b0 := eq_true c36
                                    have c36b1 : decide (0 ≤ ji13) = true := decide_eq_true c36
                                    clear c36
                                    obtain ⟨ji37, hji37⟩ : ∃ j_ : Int, (shr .u64 (IntKind.u64.wrap ((IntKind.u64.wrap ((IntKind.u64.wrap ((IntKind.u64.wrap ((IntKind.u64.wrap ((IntKind.u64.wrap ((Go.bits .or .u64 (ji17) (ji20)) * 4294967296)) + ((ji22) / 4294967296))) - (IntKind.u64.wrap (x15_23 * ji15)))) * 4294967296)) + (Go.bits .and .u64 (ji22) 4294967295))) - (IntKind.u64.wrap (x18_4 * ji15)))) ji13) = j_ := ⟨_, rfl⟩
                                    replace H : (some (IntKind.u64.wrap ((IntKind.u64.wrap (x15_23 * 4294967296)) + x18_4), ji37)) = some (r1, r2) := by first | (rw [hji37] at H; exact H) | (simp only [hji37] at H ⊢; exact H)
                                    have hji37_ : ((IntKind.u64.wrap ((IntKind.u64.wrap ((IntKind.u64.wrap ((IntKind.u64.wrap ((IntKind.u64.wrap ((IntKind.u64.wrap ((Go.bits .or .u64 (ji17) (ji20)) * 4294967296)) + ((ji22) / 4294967296))) - (IntKind.u64.wrap (x15_23 * ji15)))) * 4294967296)) + (Go.bits .and .u64 (ji22) 4294967295))) - (IntKind.u64.wrap (x18_4 * ji15)))) / 2 ^ min ji13.toNat 64) = ji37 := hji37
                                    have hji37z : ji13 ≤ 64 → ((IntKind.u64.wrap ((IntKind.u64.wrap ((IntKind.u64.wrap ((IntKind.u64.wrap ((IntKind.u64.wrap ((IntKind.u64.wrap ((Go.bits .or .u64 (ji17) (ji20)) * 4294967296)) + ((ji22) / 4294967296))) - (IntKind.u64.wrap (x15_23 * ji15)))) * 4294967296)) + (Go.bits .and .u64 (ji22) 4294967295))) - (IntKind.u64.wrap (x18_4 * ji15)))) / 2 ^ ji13.toNat) = ji37 := shr_small hji37
                                    simp only [Option.some.injEq, Prod.mk.injEq] at H
                                    obtain ⟨rfl, rfl⟩ := H
                                    go_wp2
                                    repeat (go_quiet (fail); try go_wp2)
                                    go_ret2
                                    exact ⟨by first | rfl | (simp; done) | (simp only [← hji13, ← hji15, ← hji17, ← hji18, ← hji20, ← hji22, ← hji37] <;> (first | rfl | simp)) | (simp [*]; done), by repeat (first | exact Drawn0.refl _ | apply Drawn0.step)⟩
                                  · rw [if_neg c36] at H
                                    exact absurd H (by simp)
              · rw [if_neg c19] at H
                exact absurd H (by simp)
            · rw [if_neg c14] at H
              exact absurd H (by simp)
/-! ### uint128_Uint128_QuoRem64: function 54 -/
def uint128_Uint128_QuoRem64.f (k : Nat) (a0_0 : Int) (a0_1 : Int) (a1 : Int) : Option (Int × Int × Int) := if a0_1 < a1 then ((gobits_Div64.f k a0_1 a0_0 a1).bind fun bt287 => (some (bt287.1, 0, bt287.2))) else ((gobits_Div64.f k 0 a0_1 a1).bind fun bt289 => ((gobits_Div64.f k bt289.2 a0_0 a1).bind fun bt291 => (some (bt291.1, bt289.1, bt291.2))))
theorem uint128_Uint128_QuoRem64.mono : ∀ a0 a1 a2 k, LeO (uint128_Uint128_QuoRem64.f k a0 a1 a2) (uint128_Uint128_QuoRem64.f (k + 1) a0 a1 a2) := by
  intro a0 a1 a2 k
  unfold uint128_Uint128_QuoRem64.f
  repeat' first
      | (with_reducible exact gobits_Div64.mono _ _ _ _)
      | (with_reducible exact LeO.refl _)
      | (with_reducible exact LeO.none _)
      | (with_reducible refine LeO.ite ?_ ?_)
      | (with_reducible refine LeO.bind ?_ (fun _ => ?_))
      | exact gobits_Div64.mono _ _ _ _
      | exact LeO.none _
      | refine LeO.ite ?_ ?_
      | refine LeO.bind ?_ (fun _ => ?_)
set_option maxHeartbeats 8000000 in
set_option maxRecDepth 100000 in
theorem uint128_Uint128_QuoRem64.calls (k : Nat) (a0_0 : Int) (a0_1 : Int) (a1 : Int) (r1 : Int) (r2 : Int) (r3 : Int) (w : World) (h : uint128_Uint128_QuoRem64.f k a0_0 a0_1 a1 = some (r1, r2, r3)) :
    Calls Tryd.prog 54 #[.agg #[.int .u64 a0_0, .int .u64 a0_1], .int .u64 a1] w fun e w' => e = .returned (.tuple #[.agg #[.int .u64 r1, .int .u64 r2], .int .u64 r3]) ∧ Below w.heap.size w w' := by
  have hu65 := Tryd.underlying65
  have HB := Aside0.mk (Below.refl w.heap.size w)
  have H : (if a0_1 < a1 then ((gobits_Div64.f k a0_1 a0_0 a1).bind fun bt287 => (some (bt287.1, 0, bt287.2))) else ((gobits_Div64.f k 0 a0_1 a1).bind fun bt289 => ((gobits_Div64.f k bt289.2 a0_0 a1).bind fun bt291 => (some (bt291.1, bt289.1, bt291.2))))) = some (r1, r2, r3) := h
  clear h
  by_cases c3 : a0_1 < a1
  · rw [if_pos c3] at H
    have c3b0 : decide (a0_1 < a1) = true := decide_eq_true c3
    clear c3
    replace H := Option.bind_eq_some_iff.mp H
    obtain ⟨⟨t287, t288⟩, A40, H⟩ := H
    replace H : (some (t287, 0, t288)) = some (r1, r2, r3) := H
    have A4 := Aside0.mk A40
    clear A40
    simp only [Option.some.injEq, Prod.mk.injEq] at H
    obtain ⟨rfl, rfl, rfl⟩ := H
    go_enter Tryd.func54, Tryd.ntmps54
    go_wp2_with (first | ((with_reducible refine gate_dst (N := 2) rfl ?_); refine box_event ?hg (N := 2) ?hd (cs := #[.int .u64 a0_0, .int .u64 a0_1]) (t := 65) ?hr ?_; (case hd => rfl); (case hg => rfl); (case hr => first | (go_simp; done) | (go_simp; rfl)); intro gb285 hg w5 hbox hb; have n0_ := Aside0.mk (below_step (by repeat (first | (with_reducible first | exact HB.out | apply below_alloc | apply pw_below_drewN | apply below_drew1) | exact HB.out)) hb); have n1_ := Aside0.mk (hbox); have n2_ := Aside0.mk ((by rw [hg]; exact (below_size (by repeat (first | (with_reducible first | exact HB.out | apply below_alloc | apply pw_below_drewN | apply below_drew1) | exact HB.out))) : w.heap.size ≤ gb285)); have n3_ := Aside0.mk ((by rw [hg]; exact (below_size (by repeat (first | (with_reducible first | exact HB.out | apply below_alloc | apply pw_below_drewN | apply below_drew1) | exact HB.out))) : w.heap.size ≤ gb285)); clear HB; have HB := n0_; have BK285 := n1_; have GW285 := n2_; have GE285 := n3_; clear n0_ n1_ n2_ n3_; clear hb hbox hg) | ((with_reducible refine gate_dst (N := 4) rfl ?_); refine box_event ?hg (N := 4) ?hd (cs := #[.int .u64 0, .int .u64 0]) (t := 65) ?hr ?_; (case hd => rfl); (case hg => rfl); (case hr => first | (go_simp; done) | (go_simp; rfl)); intro gb286 hg w6 hbox hb; have n0_ := Aside0.mk (blk_below (g := gb285) (o := .cells #[.int .u64 a0_0, .int .u64 a0_1] 65 (0, 0)) (by exact BK285.out) hb); have n1_ := Aside0.mk (below_step (by repeat (first | (with_reducible first | exact HB.out | apply below_alloc | apply pw_below_drewN | apply below_drew1 | refine below_set ?_ GE285.out) | exact HB.out)) hb); have n2_ := Aside0.mk (hbox); have n3_ := Aside0.mk ((by rw [hg]; exact (below_size (by repeat (first | (with_reducible first | exact HB.out | apply below_alloc | apply pw_below_drewN | apply below_drew1 | refine below_set ?_ GE285.out) | exact HB.out))) : w.heap.size ≤ gb286)); have n4_ := Aside0.mk ((by rw [hg]; exact (below_size (by repeat (first | (with_reducible first | exact HB.out | apply below_alloc | apply pw_below_drewN | apply below_drew1 | refine below_set ?_ GE285.out) | exact HB.out))) : w.heap.size ≤ gb286)); have n5_ := Aside0.mk ((by rw [hg]; exact Nat.ne_of_lt (blk_lt (g := gb285) (o := .cells #[.int .u64 a0_0, .int .u64 a0_1] 65 (0, 0)) (by exact BK285.out)) : gb285 ≠ gb286)); have n6_ := Aside0.mk ((by rw [hg]; exact Nat.ne_of_gt (blk_lt (g := gb285) (o := .cells #[.int .u64 a0_0, .int .u64 a0_1] 65 (0, 0)) (by exact BK285.out)) : gb286 ≠ gb285)); clear BK285; clear HB; have BK285 := n0_; have HB := n1_; have BK286 := n2_; have GW286 := n3_; have GE286 := n4_; have NB285_286 := n5_; have NB286_285 := n6_; clear n0_ n1_ n2_ n3_ n4_ n5_ n6_; clear hb hbox hg; have hnb7 := NB285_286.out; have hnc7 := NB286_285.out; have hcz8_0 : w6.cell? ⟨gb285, 0, none⟩ = some (.int .u64 a0_0) := (blk_cell BK285.out 0).trans rfl; have hcz8_1 : w6.cell? ⟨gb285, 1, none⟩ = some (.int .u64 a0_1) := (blk_cell BK285.out 1).trans rfl; have hfz8_0 := blk_frozen BK285.out 0; have hfz8_1 := blk_frozen BK285.out 1) | ((with_reducible refine gate_callee (f := 104) rfl ?_); refine goesL_ (some 16) rfl rfl Tryd.func104 (by kernel_rfl) rfl #[.int .u64 a0_1, .int .u64 a0_0, .int .u64 a1] rfl (by (try simp only [List.map_toArray, List.map_cons, List.map_nil]); first | done | rfl | (simp only [List.length_drop, List.length_take]; rfl)) ?_; (with_reducible refine (gobits_Div64.calls k a0_1 a0_0 a1 t287 t288 _ A4.out).mono ?_); rintro e w' ⟨rfl, ⟨nd, rfl⟩⟩; refine ⟨_, rfl, ?_⟩; (try (rw [drewN_self w6]; generalize hq_ : World.drewN w6 _ = w6; have n0_ : Aside0 (w6.heap[gb285]? = some (.cells #[.int .u64 a0_0, .int .u64 a0_1] 65 (0, 0))) := ⟨by rw [← hq_]; exact (by exact BK285.out)⟩; have n1_ : Aside0 (w6.heap[gb286]? = some (.cells #[.int .u64 0, .int .u64 0] 65 (0, 0))) := ⟨by rw [← hq_]; exact (by exact BK286.out)⟩; have n2_ : Aside0 (Below w.heap.size w w6) := ⟨by rw [← hq_]; exact (by repeat (first | (with_reducible first | exact HB.out | apply below_alloc | apply pw_below_drewN | apply below_drew1 | refine below_set ?_ GE285.out | refine below_set ?_ GE286.out) | exact HB.out))⟩; clear BK285 BK286 HB hq_; have BK285 := n0_; have BK286 := n1_; have HB := n2_; clear n0_ n1_ n2_)); have hcy285_0 : w6.cell? ⟨gb285, 0, none⟩ = some (.int .u64 a0_0) := (blk_cell BK285.out 0).trans rfl; have hfy285_0 := blk_frozen BK285.out 0; have hcy285_1 : w6.cell? ⟨gb285, 1, none⟩ = some (.int .u64 a0_1) := (blk_cell BK285.out 1).trans rfl; have hfy285_1 := blk_frozen BK285.out 1; have hcy286_0 : w6.cell? ⟨gb286, 0, none⟩ = some (.int .u64 0) := (blk_cell BK286.out 0).trans rfl; have hfy286_0 := blk_frozen BK286.out 0; have hcy286_1 : w6.cell? ⟨gb286, 1, none⟩ = some (.int .u64 0) := (blk_cell BK286.out 1).trans rfl; have hfy286_1 := blk_frozen BK286.out 1; have hcz9_0 : w6.cell? ⟨gb286, 0, none⟩ = some (.int .u64 0) := (blk_cell BK286.out 0).trans rfl; have hcz9_1 : w6.cell? ⟨gb286, 1, none⟩ = some (.int .u64 0) := (blk_cell BK286.out 1).trans rfl; have hfz9_0 := blk_frozen BK286.out 0; have hfz9_1 := blk_frozen BK286.out 1))
    refine bodyPost_ret (results_ct rfl _ _ gb286 65 #[.int .u64 t287, .int .u64 0] (0, 0) _ rfl (by (with_reducible repeat (first | refine blk_drewN ?_ _ | refine blk_drew ?_ | refine blk_alloc ?_ _)); refine blk_put (cs := #[.int .u64 0, .int .u64 0]) ?_ 0 _ rfl; (with_reducible repeat (first | refine blk_drewN ?_ _ | refine blk_drew ?_ | refine blk_alloc ?_ _)); exact BK286.out) Tryd.underlying65 rfl (by kernel_rfl)) rfl ?_
    exact ⟨by first | rfl | (simp [errW_none, errW_some] <;> rfl) | (simp [*, errW_none, errW_some] <;> rfl), by repeat (first | (with_reducible first | exact HB.out | apply below_alloc | apply pw_below_drewN | apply below_drew1 | refine below_set ?_ GE285.out | refine below_set ?_ GE286.out) | exact HB.out)⟩
  · rw [if_neg c3] at H
    have c3b0 : decide (a0_1 < a1) = false := decide_eq_false c3
    clear c3
    replace H := Option.bind_eq_some_iff.mp H
    obtain ⟨⟨t289, t290⟩, A100, H⟩ := H
    replace H : ((gobits_Div64.f k t290 a0_0 a1).bind fun bt291 => (some (bt291.1, t289, bt291.2))) = some (r1, r2, r3) := H
    have A10 := Aside0.mk A100
    clear A100
    replace H := Option.bind_eq_some_iff.mp H
    obtain ⟨⟨t291, t292⟩, A110, H⟩ := H
    replace H : (some (t291, t289, t292)) = some (r1, r2, r3) := H
    have A11 := Aside0.mk A110
    clear A110
    simp only [Option.some.injEq, Prod.mk.injEq] at H
    obtain ⟨rfl, rfl, rfl⟩ := H
    go_enter Tryd.func54, Tryd.ntmps54
    go_wp2_with (first | ((with_reducible refine gate_dst (N := 2) rfl ?_); refine box_event ?hg (N := 2) ?hd (cs := #[.int .u64 a0_0, .int .u64 a0_1]) (t := 65) ?hr ?_; (case hd => rfl); (case hg => rfl); (case hr => first | (go_simp; done) | (go_simp; rfl)); intro gb285 hg w12 hbox hb; have n0_ := Aside0.mk (below_step (by repeat (first | (with_reducible first | exact HB.out | apply below_alloc | apply pw_below_drewN | apply below_drew1) | exact HB.out)) hb); have n1_ := Aside0.mk (hbox); have n2_ := Aside0.mk ((by rw [hg]; exact (below_size (by repeat (first | (with_reducible first | exact HB.out | apply below_alloc | apply pw_below_drewN | apply below_drew1) | exact HB.out))) : w.heap.size ≤ gb285)); have n3_ := Aside0.mk ((by rw [hg]; exact (below_size (by repeat (first | (with_reducible first | exact HB.out | apply below_alloc | apply pw_below_drewN | apply below_drew1) | exact HB.out))) : w.heap.size ≤ gb285)); clear HB; have HB := n0_; have BK285 := n1_; have GW285 := n2_; have GE285 := n3_; clear n0_ n1_ n2_ n3_; clear hb hbox hg) | ((with_reducible refine gate_dst (N := 4) rfl ?_); refine box_event ?hg (N := 4) ?hd (cs := #[.int .u64 0, .int .u64 0]) (t := 65) ?hr ?_; (case hd => rfl); (case hg => rfl); (case hr => first | (go_simp; done) | (go_simp; rfl)); intro gb286 hg w13 hbox hb; have n0_ := Aside0.mk (blk_below (g := gb285) (o := .cells #[.int .u64 a0_0, .int .u64 a0_1] 65 (0, 0)) (by exact BK285.out) hb); have n1_ := Aside0.mk (below_step (by repeat (first | (with_reducible first | exact HB.out | apply below_alloc | apply pw_below_drewN | apply below_drew1 | refine below_set ?_ GE285.out) | exact HB.out)) hb); have n2_ := Aside0.mk (hbox); have n3_ := Aside0.mk ((by rw [hg]; exact (below_size (by repeat (first | (with_reducible first | exact HB.out | apply below_alloc | apply pw_below_drewN | apply below_drew1 | refine below_set ?_ GE285.out) | exact HB.out))) : w.heap.size ≤ gb286)); have n4_ := Aside0.mk ((by rw [hg]; exact (below_size (by repeat (first | (with_reducible first | exact HB.out | apply below_alloc | apply pw_below_drewN | apply below_drew1 | refine below_set ?_ GE285.out) | exact HB.out))) : w.heap.size ≤ gb286)); have n5_ := Aside0.mk ((by rw [hg]; exact Nat.ne_of_lt (blk_lt (g := gb285) (o := .cells #[.int .u64 a0_0, .int .u64 a0_1] 65 (0, 0)) (by exact BK285.out)) : gb285 ≠ gb286)); have n6_ := Aside0.mk ((by rw [hg]; exact Nat.ne_of_gt (blk_lt (g := gb285) (o := .cells #[.int .u64 a0_0, .int .u64 a0_1] 65 (0, 0)) (by exact BK285.out)) : gb286 ≠ gb285)); clear BK285; clear HB; have BK285 := n0_; have HB := n1_; have BK286 := n2_; have GW286 := n3_; have GE286 := n4_; have NB285_286 := n5_; have NB286_285 := n6_; clear n0_ n1_ n2_ n3_ n4_ n5_ n6_; clear hb hbox hg; have hnb14 := NB285_286.out; have hnc14 := NB286_285.out; have hcz15_0 : w13.cell? ⟨gb285, 0, none⟩ = some (.int .u64 a0_0) := (blk_cell BK285.out 0).trans rfl; have hcz15_1 : w13.cell? ⟨gb285, 1, none⟩ = some (.int .u64 a0_1) := (blk_cell BK285.out 1).trans rfl; have hfz15_0 := blk_frozen BK285.out 0; have hfz15_1 := blk_frozen BK285.out 1) | ((with_reducible refine gate_callee (f := 104) rfl ?_); refine goesL_ (some 24) rfl rfl Tryd.func104 (by kernel_rfl) rfl #[.int .u64 0, .int .u64 a0_1, .int .u64 a1] rfl (by (try simp only [List.map_toArray, List.map_cons, List.map_nil]); first | done | rfl | (simp only [List.length_drop, List.length_take]; rfl)) ?_; (with_reducible refine (gobits_Div64.calls k 0 a0_1 a1 t289 t290 _ A10.out).mono ?_); rintro e w' ⟨rfl, ⟨nd, rfl⟩⟩; refine ⟨_, rfl, ?_⟩; (try (rw [drewN_self w13]; generalize hq_ : World.drewN w13 _ = w13; have n0_ : Aside0 (w13.heap[gb285]? = some (.cells #[.int .u64 a0_0, .int .u64 a0_1] 65 (0, 0))) := ⟨by rw [← hq_]; exact (by exact BK285.out)⟩; have n1_ : Aside0 (w13.heap[gb286]? = some (.cells #[.int .u64 0, .int .u64 0] 65 (0, 0))) := ⟨by rw [← hq_]; exact (by exact BK286.out)⟩; have n2_ : Aside0 (Below w.heap.size w w13) := ⟨by rw [← hq_]; exact (by repeat (first | (with_reducible first | exact HB.out | apply below_alloc | apply pw_below_drewN | apply below_drew1 | refine below_set ?_ GE285.out | refine below_set ?_ GE286.out) | exact HB.out))⟩; clear BK285 BK286 HB hq_; have BK285 := n0_; have BK286 := n1_; have HB := n2_; clear n0_ n1_ n2_)); have hcy285_0 : w13.cell? ⟨gb285, 0, none⟩ = some (.int .u64 a0_0) := (blk_cell BK285.out 0).trans rfl; have hfy285_0 := blk_frozen BK285.out 0; have hcy285_1 : w13.cell? ⟨gb285, 1, none⟩ = some (.int .u64 a0_1) := (blk_cell BK285.out 1).trans rfl; have hfy285_1 := blk_frozen BK285.out 1; have hcy286_0 : w13.cell? ⟨gb286, 0, none⟩ = some (.int .u64 0) := (blk_cell BK286.out 0).trans rfl; have hfy286_0 := blk_frozen BK286.out 0; have hcy286_1 : w13.cell? ⟨gb286, 1, none⟩ = some (.int .u64 0) := (blk_cell BK286.out 1).trans rfl; have hfy286_1 := blk_frozen BK286.out 1; have hcz16_0 : w13.cell? ⟨gb286, 0, none⟩ = some (.int .u64 0) := (blk_cell BK286.out 0).trans rfl; have hcz16_1 : w13.cell? ⟨gb286, 1, none⟩ = some (.int .u64 0) := (blk_cell BK286.out 1).trans rfl; have hfz16_0 := blk_frozen BK286.out 0; have hfz16_1 := blk_frozen BK286.out 1) | ((with_reducible refine gate_callee (f := 104) rfl ?_); refine goesL_ (some 33) rfl rfl Tryd.func104 (by kernel_rfl) rfl #[.int .u64 t290, .int .u64 a0_0, .int .u64 a1] rfl (by (try simp only [List.map_toArray, List.map_cons, List.map_nil]); first | done | rfl | (simp only [List.length_drop, List.length_take]; rfl)) ?_; (with_reducible refine (gobits_Div64.calls k t290 a0_0 a1 t291 t292 _ A11.out).mono ?_); rintro e w' ⟨rfl, ⟨nd, rfl⟩⟩; refine ⟨_, rfl, ?_⟩))
    refine bodyPost_ret (results_ct rfl _ _ gb286 65 #[.int .u64 t291, .int .u64 t289] (0, 0) _ rfl (by (with_reducible repeat (first | refine blk_drewN ?_ _ | refine blk_drew ?_ | refine blk_alloc ?_ _)); refine blk_put (cs := #[.int .u64 0, .int .u64 t289]) ?_ 0 _ rfl; (with_reducible repeat (first | refine blk_drewN ?_ _ | refine blk_drew ?_ | refine blk_alloc ?_ _)); refine blk_put (cs := #[.int .u64 0, .int .u64 0]) ?_ 1 _ rfl; (with_reducible repeat (first | refine blk_drewN ?_ _ | refine blk_drew ?_ | refine blk_alloc ?_ _)); exact BK286.out) Tryd.underlying65 rfl (by kernel_rfl)) rfl ?_
    exact ⟨by first | rfl | (simp [errW_none, errW_some] <;> rfl) | (simp [*, errW_none, errW_some] <;> rfl), by repeat (first | (with_reducible first | exact HB.out | apply below_alloc | apply pw_below_drewN | apply below_drew1 | refine below_set ?_ GE285.out | refine below_set ?_ GE286.out) | exact HB.out)⟩
/-! ### uint128_Uint128_Cmp: function 73 -/
def uint128_Uint128_Cmp.f (a0_0 a0_1 a1_0 a1_1 : Int) : Option Int := some (if a0_0 = a1_0 ∧ a0_1 = a1_1 then 0 else if a0_1 < a1_1 ∨ (a0_1 = a1_1 ∧ a0_0 < a1_0) then -1 else 1)
set_option maxHeartbeats 1000000 in
set_option maxRecDepth 100000 in
theorem cmp_lt (a b c d : Int) (w : World) (h : b < d) :
    Calls Tryd.prog 73 #[.agg #[.int .u64 a, .int .u64 b], .agg #[.int .u64 c, .int .u64 d]] w fun e w' => e = .returned (.int .i64 (-1)) ∧ Below w.heap.size w w' := by
  have h1 : (b == d) = false := beq_eq_false_iff_ne.mpr (by omega)
  have h2 : decide (b < d) = true := decide_eq_true h
  go_enter Tryd.func73, Tryd.ntmps73
  go_wp2
  go_ret
  exact ⟨rfl, ((Below.refl w.heap.size w).alloc (Nat.le_refl _) _).alloc (by simp) _⟩
set_option maxHeartbeats 1000000 in
set_option maxRecDepth 100000 in
theorem cmp_gt (a b c d : Int) (w : World) (h : d < b) :
    Calls Tryd.prog 73 #[.agg #[.int .u64 a, .int .u64 b], .agg #[.int .u64 c, .int .u64 d]] w fun e w' => e = .returned (.int .i64 1) ∧ Below w.heap.size w w' := by
  have h1 : (b == d) = false := beq_eq_false_iff_ne.mpr (by omega)
  have h2 : decide (b < d) = false := decide_eq_false (by omega)
  go_enter Tryd.func73, Tryd.ntmps73
  go_wp2
  go_ret
  exact ⟨rfl, ((Below.refl w.heap.size w).alloc (Nat.le_refl _) _).alloc (by simp) _⟩
set_option maxHeartbeats 1000000 in
set_option maxRecDepth 100000 in
theorem cmp_lt2 (a b c : Int) (w : World) (h : a < c) :
    Calls Tryd.prog 73 #[.agg #[.int .u64 a, .int .u64 b], .agg #[.int .u64 c, .int .u64 b]] w fun e w' => e = .returned (.int .i64 (-1)) ∧ Below w.heap.size w w' := by
  have h1 : (a == c) = false := beq_eq_false_iff_ne.mpr (by omega)
  have h2 : decide (a < c) = true := decide_eq_true h
  go_enter Tryd.func73, Tryd.ntmps73
  go_wp2
  go_ret
  exact ⟨rfl, ((Below.refl w.heap.size w).alloc (Nat.le_refl _) _).alloc (by simp) _⟩
set_option maxHeartbeats 1000000 in
set_option maxRecDepth 100000 in
theorem cmp_gt2 (a b c : Int) (w : World) (h : c < a) :
    Calls Tryd.prog 73 #[.agg #[.int .u64 a, .int .u64 b], .agg #[.int .u64 c, .int .u64 b]] w fun e w' => e = .returned (.int .i64 1) ∧ Below w.heap.size w w' := by
  have h1 : (a == c) = false := beq_eq_false_iff_ne.mpr (by omega)
  have h2 : decide (a < c) = false := decide_eq_false (by omega)
  go_enter Tryd.func73, Tryd.ntmps73
  go_wp2
  go_ret
  exact ⟨rfl, ((Below.refl w.heap.size w).alloc (Nat.le_refl _) _).alloc (by simp) _⟩
set_option maxHeartbeats 1000000 in
set_option maxRecDepth 100000 in
theorem cmp_eq (a b : Int) (w : World)  :
    Calls Tryd.prog 73 #[.agg #[.int .u64 a, .int .u64 b], .agg #[.int .u64 a, .int .u64 b]] w fun e w' => e = .returned (.int .i64 0) ∧ Below w.heap.size w w' := by
  go_enter Tryd.func73, Tryd.ntmps73
  go_wp2
  go_ret
  exact ⟨rfl, ((Below.refl w.heap.size w).alloc (Nat.le_refl _) _).alloc (by simp) _⟩
theorem uint128_Uint128_Cmp.calls (a0_0 : Int) (a0_1 : Int) (a1_0 : Int) (a1_1 : Int) (r : Int) (w : World) (h : uint128_Uint128_Cmp.f a0_0 a0_1 a1_0 a1_1 = some r) :
    Calls Tryd.prog 73 #[.agg #[.int .u64 a0_0, .int .u64 a0_1], .agg #[.int .u64 a1_0, .int .u64 a1_1]] w fun e w' => e = .returned (.int .i64 r) ∧ Below w.heap.size w w' := by
  unfold uint128_Uint128_Cmp.f at h
  obtain rfl := Option.some.inj h
  clear h
  rcases Int.lt_trichotomy a0_1 a1_1 with hb | hb | hb
  · rw [if_neg (by omega), if_pos (by omega)]
    exact cmp_lt _ _ _ _ w hb
  · subst hb
    rcases Int.lt_trichotomy a0_0 a1_0 with ha | ha | ha
    · rw [if_neg (by omega), if_pos (by omega)]
      exact cmp_lt2 _ _ _ w ha
    · subst ha
      rw [if_pos ⟨rfl, rfl⟩]
      exact cmp_eq _ _ w
    · rw [if_neg (by omega), if_neg (by omega)]
      exact cmp_gt2 _ _ _ w ha
  · rw [if_neg (by omega), if_neg (by omega)]
    exact cmp_gt _ _ _ _ w hb
/-! ### uint128_New: function 41 -/
def uint128_New.f (a0 : Int) (a1 : Int) : Option (Int × Int) := some (a0, a1)
set_option maxHeartbeats 8000000 in
set_option maxRecDepth 100000 in
theorem uint128_New.calls (a0 : Int) (a1 : Int) (r1 : Int) (r2 : Int) (w : World) (h : uint128_New.f a0 a1 = some (r1, r2)) :
    Calls Tryd.prog 41 #[.int .u64 a0, .int .u64 a1] w fun e w' => e = .returned (.agg #[.int .u64 r1, .int .u64 r2]) ∧ Below w.heap.size w w' := by
  have hu65 := Tryd.underlying65
  have HB := Aside0.mk (Below.refl w.heap.size w)
  have H : (some (a0, a1)) = some (r1, r2) := h
  clear h
  simp only [Option.some.injEq, Prod.mk.injEq] at H
  obtain ⟨rfl, rfl⟩ := H
  go_enter Tryd.func41, Tryd.ntmps41
  go_wp2_with (first | ((with_reducible refine gate_dst (N := 4) rfl ?_); refine box_event ?hg (N := 4) ?hd (cs := #[.int .u64 0, .int .u64 0]) (t := 65) ?hr ?_; (case hd => rfl); (case hg => rfl); (case hr => first | (go_simp; done) | (go_simp; rfl)); intro gb279 hg w3 hbox hb; have n0_ := Aside0.mk (below_step (by repeat (first | (with_reducible first | exact HB.out | apply below_alloc | apply pw_below_drewN | apply below_drew1) | exact HB.out)) hb); have n1_ := Aside0.mk (hbox); have n2_ := Aside0.mk ((by rw [hg]; exact (below_size (by repeat (first | (with_reducible first | exact HB.out | apply below_alloc | apply pw_below_drewN | apply below_drew1) | exact HB.out))) : w.heap.size ≤ gb279)); have n3_ := Aside0.mk ((by rw [hg]; exact (below_size (by repeat (first | (with_reducible first | exact HB.out | apply below_alloc | apply pw_below_drewN | apply below_drew1) | exact HB.out))) : w.heap.size ≤ gb279)); clear HB; have HB := n0_; have BK279 := n1_; have GW279 := n2_; have GE279 := n3_; clear n0_ n1_ n2_ n3_; clear hb hbox hg; have hcz4_0 : w3.cell? ⟨gb279, 0, none⟩ = some (.int .u64 0) := (blk_cell BK279.out 0).trans rfl; have hcz4_1 : w3.cell? ⟨gb279, 1, none⟩ = some (.int .u64 0) := (blk_cell BK279.out 1).trans rfl; have hfz4_0 := blk_frozen BK279.out 0; have hfz4_1 := blk_frozen BK279.out 1))
  refine bodyPost_ret (results_cell_row rfl _ _ gb279 65 #[.int .u64 a0, .int .u64 a1] (0, 0) _ rfl (by (with_reducible repeat (first | refine blk_drewN ?_ _ | refine blk_drew ?_ | refine blk_alloc ?_ _)); refine blk_put (cs := #[.int .u64 a0, .int .u64 0]) ?_ 1 _ rfl; (with_reducible repeat (first | refine blk_drewN ?_ _ | refine blk_drew ?_ | refine blk_alloc ?_ _)); refine blk_put (cs := #[.int .u64 0, .int .u64 0]) ?_ 0 _ rfl; (with_reducible repeat (first | refine blk_drewN ?_ _ | refine blk_drew ?_ | refine blk_alloc ?_ _)); exact BK279.out) Tryd.underlying65 rfl (by kernel_rfl)) rfl ?_
  exact ⟨by first | rfl | (simp [errW_none, errW_some] <;> rfl) | (simp [*, errW_none, errW_some] <;> rfl), by repeat (first | (with_reducible first | exact HB.out | apply below_alloc | apply pw_below_drewN | apply below_drew1 | refine below_set ?_ GE279.out) | exact HB.out)⟩
/-! ### uint128_From64: function 42 -/
def uint128_From64.f (a0 : Int) : Option (Int × Int) := (uint128_New.f a0 0).bind fun bt281 => (some (bt281.1, bt281.2))
set_option maxHeartbeats 8000000 in
set_option maxRecDepth 100000 in
theorem uint128_From64.calls (a0 : Int) (r1 : Int) (r2 : Int) (w : World) (h : uint128_From64.f a0 = some (r1, r2)) :
    Calls Tryd.prog 42 #[.int .u64 a0] w fun e w' => e = .returned (.agg #[.int .u64 r1, .int .u64 r2]) ∧ Below w.heap.size w w' := by
  have hu65 := Tryd.underlying65
  have HB := Aside0.mk (Below.refl w.heap.size w)
  have H : ((uint128_New.f a0 0).bind fun bt281 => (some (bt281.1, bt281.2))) = some (r1, r2) := h
  clear h
  replace H := Option.bind_eq_some_iff.mp H
  obtain ⟨⟨t281, t282⟩, A20, H⟩ := H
  replace H : (some (t281, t282)) = some (r1, r2) := H
  have A2 := Aside0.mk A20
  clear A20
  simp only [Option.some.injEq, Prod.mk.injEq] at H
  obtain ⟨rfl, rfl⟩ := H
  go_enter Tryd.func42, Tryd.ntmps42
  go_wp2_with (first | ((with_reducible refine gate_dst (N := 2) rfl ?_); refine box_event ?hg (N := 2) ?hd (cs := #[.int .u64 0, .int .u64 0]) (t := 65) ?hr ?_; (case hd => rfl); (case hg => rfl); (case hr => first | (go_simp; done) | (go_simp; rfl)); intro gb280 hg w3 hbox hb; have n0_ := Aside0.mk (below_step (by repeat (first | (with_reducible first | exact HB.out | apply below_alloc | apply pw_below_drewN | apply below_drew1) | exact HB.out)) hb); have n1_ := Aside0.mk (hbox); have n2_ := Aside0.mk ((by rw [hg]; exact (below_size (by repeat (first | (with_reducible first | exact HB.out | apply below_alloc | apply pw_below_drewN | apply below_drew1) | exact HB.out))) : w.heap.size ≤ gb280)); have n3_ := Aside0.mk ((by rw [hg]; exact (below_size (by repeat (first | (with_reducible first | exact HB.out | apply below_alloc | apply pw_below_drewN | apply below_drew1) | exact HB.out))) : w.heap.size ≤ gb280)); clear HB; have HB := n0_; have BK280 := n1_; have GW280 := n2_; have GE280 := n3_; clear n0_ n1_ n2_ n3_; clear hb hbox hg) | ((with_reducible refine gate_callee (f := 41) rfl ?_); refine goesL_ (some 4) rfl rfl Tryd.func41 (by kernel_rfl) rfl #[.int .u64 a0, .int .u64 0] rfl (by (try simp only [List.map_toArray, List.map_cons, List.map_nil]); first | done | rfl | (simp only [List.length_drop, List.length_take]; rfl)) ?_; (with_reducible refine (uint128_New.calls a0 0 t281 t282 _ A2.out).mono ?_); rintro e w4 ⟨rfl, hb⟩; refine ⟨_, rfl, ?_⟩; have n0_ := Aside0.mk (blk_below (g := gb280) (o := .cells #[.int .u64 0, .int .u64 0] 65 (0, 0)) (by exact BK280.out) hb); have n1_ := Aside0.mk (below_step (by repeat (first | (with_reducible first | exact HB.out | apply below_alloc | apply pw_below_drewN | apply below_drew1 | refine below_set ?_ GE280.out) | exact HB.out)) hb); clear BK280; clear HB; have BK280 := n0_; have HB := n1_; clear n0_ n1_; (try clear hb); (try clear hb2); (try clear hk); (try clear hi); have hcz5_0 : w4.cell? ⟨gb280, 0, none⟩ = some (.int .u64 0) := (blk_cell BK280.out 0).trans rfl; have hcz5_1 : w4.cell? ⟨gb280, 1, none⟩ = some (.int .u64 0) := (blk_cell BK280.out 1).trans rfl; have hfz5_0 := blk_frozen BK280.out 0; have hfz5_1 := blk_frozen BK280.out 1))
  refine bodyPost_ret (results_cell_row rfl _ _ gb280 65 #[.int .u64 t281, .int .u64 t282] (0, 0) _ rfl (by (with_reducible repeat (first | refine blk_drewN ?_ _ | refine blk_drew ?_ | refine blk_alloc ?_ _)); refine blk_put (cs := #[.int .u64 t281, .int .u64 0]) ?_ 1 _ rfl; (with_reducible repeat (first | refine blk_drewN ?_ _ | refine blk_drew ?_ | refine blk_alloc ?_ _)); refine blk_put (cs := #[.int .u64 0, .int .u64 0]) ?_ 0 _ rfl; (with_reducible repeat (first | refine blk_drewN ?_ _ | refine blk_drew ?_ | refine blk_alloc ?_ _)); exact BK280.out) Tryd.underlying65 rfl (by kernel_rfl)) rfl ?_
  exact ⟨by first | rfl | (simp [errW_none, errW_some] <;> rfl) | (simp [*, errW_none, errW_some] <;> rfl), by repeat (first | (with_reducible first | exact HB.out | apply below_alloc | apply pw_below_drewN | apply below_drew1 | refine below_set ?_ GE280.out) | exact HB.out)⟩
/-! ### uint128_Uint128_Lsh: function 93 -/
def uint128_Uint128_Lsh.f (a0_0 : Int) (a0_1 : Int) (a1 : Int) : Option (Int × Int) := if a1 > 64 then (if 0 ≤ (IntKind.u64.wrap (a1 - 64)) then (some (0, shl .u64 a0_0 (IntKind.u64.wrap (a1 - 64)))) else (none)) else (if 0 ≤ a1 then (if 0 ≤ (IntKind.u64.wrap (64 - a1)) then (some (shl .u64 a0_0 a1, Go.bits .or .u64 (shl .u64 a0_1 a1) (shr .u64 a0_0 (IntKind.u64.wrap (64 - a1))))) else (none)) else (none))
set_option maxHeartbeats 8000000 in
set_option maxRecDepth 100000 in
theorem uint128_Uint128_Lsh.calls (a0_0 : Int) (a0_1 : Int) (a1 : Int) (r1 : Int) (r2 : Int) (w : World) (h : uint128_Uint128_Lsh.f a0_0 a0_1 a1 = some (r1, r2)) :
    Calls Tryd.prog 93 #[.agg #[.int .u64 a0_0, .int .u64 a0_1], .int .u64 a1] w fun e w' => e = .returned (.agg #[.int .u64 r1, .int .u64 r2]) ∧ Below w.heap.size w w' := by
  have hu65 := Tryd.underlying65
  have HB := Aside0.mk (Below.refl w.heap.size w)
  have H : (if a1 > 64 then (if 0 ≤ (IntKind.u64.wrap (a1 - 64)) then (some (0, shl .u64 a0_0 (IntKind.u64.wrap (a1 - 64)))) else (none)) else (if 0 ≤ a1 then (if 0 ≤ (IntKind.u64.wrap (64 - a1)) then (some (shl .u64 a0_0 a1, Go.bits .or .u64 (shl .u64 a0_1 a1) (shr .u64 a0_0 (IntKind.u64.wrap (64 - a1))))) else (none)) else (none))) = some (r1, r2) := h
  clear h
  by_cases c3 : a1 > 64
  · rw [if_pos c3] at H
    have c3b0 : decide (64 < a1) = true := decide_eq_true c3
    clear c3
    obtain ⟨ji4, hji4⟩ : ∃ j_ : Int, (IntKind.u64.wrap (a1 - 64)) = j_ := ⟨_, rfl⟩
    replace H : (if 0 ≤ (ji4) then (some (0, shl .u64 a0_0 (ji4))) else (none)) = some (r1, r2) := by first | (rw [hji4] at H; exact H) | (simp only [hji4] at H ⊢; exact H)
    by_cases c5 : 0 ≤ (ji4)
    · rw [if_pos c5] at H
      have c5b0 := eq_true c5
      have c5b1 : decide (0 ≤ (ji4)) = true := decide_eq_true c5
      clear c5
      obtain ⟨ji6, hji6⟩ : ∃ j_ : Int, (shl .u64 a0_0 (ji4)) = j_ := ⟨_, rfl⟩
      replace H : (some (0, ji6)) = some (r1, r2) := by first | (rw [hji6] at H; exact H) | (simp only [hji6] at H ⊢; exact H)
      have hji6_ : (IntKind.u64.wrap (a0_0 * 2 ^ min (ji4).toNat 64)) = ji6 := hji6
      have hji6z : (ji4) ≤ 64 → (IntKind.u64.wrap (a0_0 * 2 ^ (ji4).toNat)) = ji6 := shl_small hji6
      simp only [Option.some.injEq, Prod.mk.injEq] at H
      obtain ⟨rfl, rfl⟩ := H
      go_enter Tryd.func93, Tryd.ntmps93
      go_wp2_with (first | ((with_reducible refine gate_dst (N := 2) rfl ?_); refine box_event ?hg (N := 2) ?hd (cs := #[.int .u64 a0_0, .int .u64 a0_1]) (t := 65) ?hr ?_; (case hd => rfl); (case hg => rfl); (case hr => first | (go_simp; done) | (go_simp; rfl)); intro gb293 hg w7 hbox hb; have n0_ := Aside0.mk (below_step (by repeat (first | (with_reducible first | exact HB.out | apply below_alloc | apply pw_below_drewN | apply below_drew1) | exact HB.out)) hb); have n1_ := Aside0.mk (hbox); have n2_ := Aside0.mk ((by rw [hg]; exact (below_size (by repeat (first | (with_reducible first | exact HB.out | apply below_alloc | apply pw_below_drewN | apply below_drew1) | exact HB.out))) : w.heap.size ≤ gb293)); have n3_ := Aside0.mk ((by rw [hg]; exact (below_size (by repeat (first | (with_reducible first | exact HB.out | apply below_alloc | apply pw_below_drewN | apply below_drew1) | exact HB.out))) : w.heap.size ≤ gb293)); clear HB; have HB := n0_; have BK293 := n1_; have GW293 := n2_; have GE293 := n3_; clear n0_ n1_ n2_ n3_; clear hb hbox hg) | ((with_reducible refine gate_dst (N := 4) rfl ?_); refine box_event ?hg (N := 4) ?hd (cs := #[.int .u64 0, .int .u64 0]) (t := 65) ?hr ?_; (case hd => rfl); (case hg => rfl); (case hr => first | (go_simp; done) | (go_simp; rfl)); intro gb294 hg w8 hbox hb; have n0_ := Aside0.mk (blk_below (g := gb293) (o := .cells #[.int .u64 a0_0, .int .u64 a0_1] 65 (0, 0)) (by exact BK293.out) hb); have n1_ := Aside0.mk (below_step (by repeat (first | (with_reducible first | exact HB.out | apply below_alloc | apply pw_below_drewN | apply below_drew1 | refine below_set ?_ GE293.out) | exact HB.out)) hb); have n2_ := Aside0.mk (hbox); have n3_ := Aside0.mk ((by rw [hg]; exact (below_size (by repeat (first | (with_reducible first | exact HB.out | apply below_alloc | apply pw_below_drewN | apply below_drew1 | refine below_set ?_ GE293.out) | exact HB.out))) : w.heap.size ≤ gb294)); have n4_ := Aside0.mk ((by rw [hg]; exact (below_size (by repeat (first | (with_reducible first | exact HB.out | apply below_alloc | apply pw_below_drewN | apply below_drew1 | refine below_set ?_ GE293.out) | exact HB.out))) : w.heap.size ≤ gb294)); have n5_ := Aside0.mk ((by rw [hg]; exact Nat.ne_of_lt (blk_lt (g := gb293) (o := .cells #[.int .u64 a0_0, .int .u64 a0_1] 65 (0, 0)) (by exact BK293.out)) : gb293 ≠ gb294)); have n6_ := Aside0.mk ((by rw [hg]; exact Nat.ne_of_gt (blk_lt (g := gb293) (o := .cells #[.int .u64 a0_0, .int .u64 a0_1] 65 (0, 0)) (by exact BK293.out)) : gb294 ≠ gb293)); clear BK293; clear HB; have BK293 := n0_; have HB := n1_; have BK294 := n2_; have GW294 := n3_; have GE294 := n4_; have NB293_294 := n5_; have NB294_293 := n6_; clear n0_ n1_ n2_ n3_ n4_ n5_ n6_; clear hb hbox hg; have hnb9 := NB294_293.out; have hnc9 := NB293_294.out; have hcz10_0 : w8.cell? ⟨gb294, 0, none⟩ = some (.int .u64 0) := (blk_cell BK294.out 0).trans rfl; have hcz10_1 : w8.cell? ⟨gb294, 1, none⟩ = some (.int .u64 0) := (blk_cell BK294.out 1).trans rfl; have hfz10_0 := blk_frozen BK294.out 0; have hfz10_1 := blk_frozen BK294.out 1; have hcz11_0 : w8.cell? ⟨gb293, 0, none⟩ = some (.int .u64 a0_0) := (blk_cell BK293.out 0).trans rfl; have hcz11_1 : w8.cell? ⟨gb293, 1, none⟩ = some (.int .u64 a0_1) := (blk_cell BK293.out 1).trans rfl; have hfz11_0 := blk_frozen BK293.out 0; have hfz11_1 := blk_frozen BK293.out 1))
      refine bodyPost_ret (results_cell_row rfl _ _ gb294 65 #[.int .u64 0, .int .u64 ji6] (0, 0) _ rfl (by (with_reducible repeat (first | refine blk_drewN ?_ _ | refine blk_drew ?_ | refine blk_alloc ?_ _)); refine blk_put (cs := #[.int .u64 0, .int .u64 0]) ?_ 1 _ rfl; (with_reducible repeat (first | refine blk_drewN ?_ _ | refine blk_drew ?_ | refine blk_alloc ?_ _)); refine blk_put (cs := #[.int .u64 0, .int .u64 0]) ?_ 0 _ rfl; (with_reducible repeat (first | refine blk_drewN ?_ _ | refine blk_drew ?_ | refine blk_alloc ?_ _)); exact BK294.out) Tryd.underlying65 rfl (by kernel_rfl)) rfl ?_
      exact ⟨by first | rfl | (simp [errW_none, errW_some] <;> rfl) | (simp only [← hji4, ← hji6]; first | rfl | (simp [errW_none, errW_some] <;> rfl)) | (simp [*, errW_none, errW_some] <;> rfl), by repeat (first | (with_reducible first | exact HB.out | apply below_alloc | apply pw_below_drewN | apply below_drew1 | refine below_set ?_ GE293.out | refine below_set ?_ GE294.out) | exact HB.out)⟩
    · rw [if_neg c5] at H
      exact absurd H (by simp)
  · rw [if_neg c3] at H
    have c3b0 : decide (64 < a1) = false := decide_eq_false c3
    clear c3
    by_cases c12 : 0 ≤ a1
    · rw [if_pos c12] at H
      have c12b0 := eq_true c12
      have c12b1 : decide (0 ≤ a1) = true := decide_eq_true c12
      clear c12
      obtain ⟨ji13, hji13⟩ : ∃ j_ : Int, (shl .u64 a0_0 a1) = j_ := ⟨_, rfl⟩
      replace H : (if 0 ≤ (IntKind.u64.wrap (64 - a1)) then (some (ji13, Go.bits .or .u64 (shl .u64 a0_1 a1) (shr .u64 a0_0 (IntKind.u64.wrap (64 - a1))))) else (none)) = some (r1, r2) := by first | (rw [hji13] at H; exact H) | (simp only [hji13] at H ⊢; exact H)
      have hji13_ : (IntKind.u64.wrap (a0_0 * 2 ^ min a1.toNat 64)) = ji13 := hji13
      have hji13z : a1 ≤ 64 → (IntKind.u64.wrap (a0_0 * 2 ^ a1.toNat)) = ji13 := shl_small hji13
      have c14b0 := eq_true (of_decide_eq_true (by first | (with_reducible assumption) | assumption) : 0 ≤ a1)
      obtain ⟨ji15, hji15⟩ : ∃ j_ : Int, (shl .u64 a0_1 a1) = j_ := ⟨_, rfl⟩
      replace H : (if 0 ≤ (IntKind.u64.wrap (64 - a1)) then (some (ji13, Go.bits .or .u64 (ji15) (shr .u64 a0_0 (IntKind.u64.wrap (64 - a1))))) else (none)) = some (r1, r2) := by first | (rw [hji15] at H; exact H) | (simp only [hji15] at H ⊢; exact H)
      have hji15_ : (IntKind.u64.wrap (a0_1 * 2 ^ min a1.toNat 64)) = ji15 := hji15
      have hji15z : a1 ≤ 64 → (IntKind.u64.wrap (a0_1 * 2 ^ a1.toNat)) = ji15 := shl_small hji15
      obtain ⟨ji16, hji16⟩ : ∃ j_ : Int, (IntKind.u64.wrap (64 - a1)) = j_ := ⟨_, rfl⟩
      replace H : (if 0 ≤ (ji16) then (some (ji13, Go.bits .or .u64 (ji15) (shr .u64 a0_0 (ji16)))) else (none)) = some (r1, r2) := by first | (rw [hji16] at H; exact H) | (simp only [hji16] at H ⊢; exact H)
      by_cases c17 : 0 ≤ (ji16)
      · rw [if_pos c17] at H
        have c17b0 := eq_true c17
        have c17b1 : decide (0 ≤ (ji16)) = true := decide_eq_true c17
        clear c17
        obtain ⟨ji18, hji18⟩ : ∃ j_ : Int, (shr .u64 a0_0 (ji16)) = j_ := ⟨_, rfl⟩
        replace H : (some (ji13, Go.bits .or .u64 (ji15) (ji18))) = some (r1, r2) := by first | (rw [hji18] at H; exact H) | (simp only [hji18] at H ⊢; exact H)
        have hji18_ : (a0_0 / 2 ^ min (ji16).toNat 64) = ji18 := hji18
        have hji18z : (ji16) ≤ 64 → (a0_0 / 2 ^ (ji16).toNat) = ji18 := shr_small hji18
        simp only [Option.some.injEq, Prod.mk.injEq] at H
        obtain ⟨rfl, rfl⟩ := H
        go_enter Tryd.func93, Tryd.ntmps93
        go_wp2_with (first | ((with_reducible refine gate_dst (N := 2) rfl ?_); refine box_event ?hg (N := 2) ?hd (cs := #[.int .u64 a0_0, .int .u64 a0_1]) (t := 65) ?hr ?_; (case hd => rfl); (case hg => rfl); (case hr => first | (go_simp; done) | (go_simp; rfl)); intro gb293 hg w19 hbox hb; have n0_ := Aside0.mk (below_step (by repeat (first | (with_reducible first | exact HB.out | apply below_alloc | apply pw_below_drewN | apply below_drew1) | exact HB.out)) hb); have n1_ := Aside0.mk (hbox); have n2_ := Aside0.mk ((by rw [hg]; exact (below_size (by repeat (first | (with_reducible first | exact HB.out | apply below_alloc | apply pw_below_drewN | apply below_drew1) | exact HB.out))) : w.heap.size ≤ gb293)); have n3_ := Aside0.mk ((by rw [hg]; exact (below_size (by repeat (first | (with_reducible first | exact HB.out | apply below_alloc | apply pw_below_drewN | apply below_drew1) | exact HB.out))) : w.heap.size ≤ gb293)); clear HB; have HB := n0_; have BK293 := n1_; have GW293 := n2_; have GE293 := n3_; clear n0_ n1_ n2_ n3_; clear hb hbox hg) | ((with_reducible refine gate_dst (N := 4) rfl ?_); refine box_event ?hg (N := 4) ?hd (cs := #[.int .u64 0, .int .u64 0]) (t := 65) ?hr ?_; (case hd => rfl); (case hg => rfl); (case hr => first | (go_simp; done) | (go_simp; rfl)); intro gb294 hg w20 hbox hb; have n0_ := Aside0.mk (blk_below (g := gb293) (o := .cells #[.int .u64 a0_0, .int .u64 a0_1] 65 (0, 0)) (by exact BK293.out) hb); have n1_ := Aside0.mk (below_step (by repeat (first | (with_reducible first | exact HB.out | apply below_alloc | apply pw_below_drewN | apply below_drew1 | refine below_set ?_ GE293.out) | exact HB.out)) hb); have n2_ := Aside0.mk (hbox); have n3_ := Aside0.mk ((by rw [hg]; exact (below_size (by repeat (first | (with_reducible first | exact HB.out | apply below_alloc | apply pw_below_drewN | apply below_drew1 | refine below_set ?_ GE293.out) | exact HB.out))) : w.heap.size ≤ gb294)); have n4_ := Aside0.mk ((by rw [hg]; exact (below_size (by repeat (first | (with_reducible first | exact HB.out | apply below_alloc | apply pw_below_drewN | apply below_drew1 | refine below_set ?_ GE293.out) | exact HB.out))) : w.heap.size ≤ gb294)); have n5_ := Aside0.mk ((by rw [hg]; exact Nat.ne_of_lt (blk_lt (g := gb293) (o := .cells #[.int .u64 a0_0, .int .u64 a0_1] 65 (0, 0)) (by exact BK293.out)) : gb293 ≠ gb294)); have n6_ := Aside0.mk ((by rw [hg]; exact Nat.ne_of_gt (blk_lt (g := gb293) (o := .cells #[.int .u64 a0_0, .int .u64 a0_1] 65 (0, 0)) (by exact BK293.out)) : gb294 ≠ gb293)); clear BK293; clear HB; have BK293 := n0_; have HB := n1_; have BK294 := n2_; have GW294 := n3_; have GE294 := n4_; have NB293_294 := n5_; have NB294_293 := n6_; clear n0_ n1_ n2_ n3_ n4_ n5_ n6_; clear hb hbox hg; have hnb21 := NB293_294.out; have hnc21 := NB294_293.out; have hcz22_0 : w20.cell? ⟨gb293, 0, none⟩ = some (.int .u64 a0_0) := (blk_cell BK293.out 0).trans rfl; have hcz22_1 : w20.cell? ⟨gb293, 1, none⟩ = some (.int .u64 a0_1) := (blk_cell BK293.out 1).trans rfl; have hfz22_0 := blk_frozen BK293.out 0; have hfz22_1 := blk_frozen BK293.out 1; have hcz23_0 : w20.cell? ⟨gb294, 0, none⟩ = some (.int .u64 0) := (blk_cell BK294.out 0).trans rfl; have hcz23_1 : w20.cell? ⟨gb294, 1, none⟩ = some (.int .u64 0) := (blk_cell BK294.out 1).trans rfl; have hfz23_0 := blk_frozen BK294.out 0; have hfz23_1 := blk_frozen BK294.out 1))
        refine bodyPost_ret (results_cell_row rfl _ _ gb294 65 #[.int .u64 ji13, .int .u64 (Go.bits .or .u64 (ji15) (ji18))] (0, 0) _ rfl (by (with_reducible repeat (first | refine blk_drewN ?_ _ | refine blk_drew ?_ | refine blk_alloc ?_ _)); refine blk_put (cs := #[.int .u64 ji13, .int .u64 0]) ?_ 1 _ rfl; (with_reducible repeat (first | refine blk_drewN ?_ _ | refine blk_drew ?_ | refine blk_alloc ?_ _)); refine blk_put (cs := #[.int .u64 0, .int .u64 0]) ?_ 0 _ rfl; (with_reducible repeat (first | refine blk_drewN ?_ _ | refine blk_drew ?_ | refine blk_alloc ?_ _)); exact BK294.out) Tryd.underlying65 rfl (by kernel_rfl)) rfl ?_
        exact ⟨by first | rfl | (simp [errW_none, errW_some] <;> rfl) | (simp only [← hji13, ← hji15, ← hji16, ← hji18]; first | rfl | (simp [errW_none, errW_some] <;> rfl)) | (simp [*, errW_none, errW_some] <;> rfl), by repeat (first | (with_reducible first | exact HB.out | apply below_alloc | apply pw_below_drewN | apply below_drew1 | refine below_set ?_ GE293.out | refine below_set ?_ GE294.out) | exact HB.out)⟩
      · rw [if_neg c17] at H
        exact absurd H (by simp)
    · rw [if_neg c12] at H
      exact absurd H (by simp)
end Go.Proofs.YtiifnofghicnaaaDoor.PAll
