/- Printed by the kit's print.py, called for several laws at once: functions as plain Lean, and the walks' contracts. -/
import Derived.Test.YtiifnofghicnaaaDoorQAllx0
import Derived.Test.YtiifnofghicnaaaDoorQAllx5
namespace Go.Proofs.YtiifnofghicnaaaDoor.PAll
open Go.RowKit Go.Proofs.YtiifnofghicnaaaDoorW.PrintWords Go.Proofs.YtiifnofghicnaaaDoorW.PrintLast Go.Proofs.YtiifnofghicnaaaDoorW.PrintMore
attribute [local go_sem] max2_int min2_int max_two min_two max_three min_three max_four min_four   -- for this text's walks alone
set_option linter.unusedVariables false
set_option linter.unusedSimpArgs false
attribute [local go_sem high] eqA24
/-! ### spec_Compare: function 62 -/
def spec_Compare.l0 : Nat → List Int → List Int → Int → Option (Int)
  | 0, _, _, _ => none
  | k + 1, x0, x1, x5 => if x5 ≥ 0 then (if 0 ≤ x5 then (if x5 < (x0.length : Int) then (if x5 < (x1.length : Int) then (if (rd x0 x5) = (rd x1 x5) then (spec_Compare.l0 k x0 x1 (wrap64 (x5 - 1))) else (if (rd x0 x5) < (rd x1 x5) then (some (-1)) else (some 1))) else (none)) else (none)) else (none)) else (some 0)
def spec_Compare.f (k : Nat) (l0 : List Int) (l1 : List Int) : Option (Int) := if (l0.length : Int) = (l1.length : Int) then (spec_Compare.l0 k l0 l1 (wrap64 ((l0.length : Int) - 1))) else (if (l0.length : Int) < (l1.length : Int) then (some (-1)) else (some 1))
theorem spec_Compare.mono_l : ∀ k, (∀ y0 y1 y2, LeO (spec_Compare.l0 k y0 y1 y2) (spec_Compare.l0 (k + 1) y0 y1 y2))
  | 0 => fun _ _ _ r h => by simp [spec_Compare.l0] at h
  | k + 1 => by
    have ih0 := spec_Compare.mono_l k
    · intro y0 y1 y2
      unfold spec_Compare.l0
      repeat' first
      | (with_reducible exact ih0 _ _ _)
      | (with_reducible exact LeO.refl _)
      | (with_reducible exact LeO.none _)
      | (with_reducible refine LeO.ite ?_ ?_)
      | (with_reducible refine LeO.bind ?_ (fun _ => ?_))
      | exact ih0 _ _ _
      | exact LeO.none _
      | refine LeO.ite ?_ ?_
      | refine LeO.bind ?_ (fun _ => ?_)
theorem spec_Compare.mono : ∀ a0 a1 k, LeO (spec_Compare.f k a0 a1) (spec_Compare.f (k + 1) a0 a1) := by
  intro a0 a1 k
  have ih0 := spec_Compare.mono_l k
  unfold spec_Compare.f
  repeat' first
      | (with_reducible exact ih0 _ _ _)
      | (with_reducible exact LeO.refl _)
      | (with_reducible exact LeO.none _)
      | (with_reducible refine LeO.ite ?_ ?_)
      | (with_reducible refine LeO.bind ?_ (fun _ => ?_))
      | exact ih0 _ _ _
      | exact LeO.none _
      | refine LeO.ite ?_ ?_
      | refine LeO.bind ?_ (fun _ => ?_)
set_option maxHeartbeats 8000000 in
set_option maxRecDepth 100000 in
theorem spec_Compare.calls (k : Nat) (A0 : Option Addr) (c0 : Nat) (l0 : List Int) (A1 : Option Addr) (c1 : Nat) (l1 : List Int) (r : Int) (w : World) (hr0 : Kd.C (Kd.int .i64) w A0 l0.length l0) (hc0 : l0.length ≤ c0) (hr1 : Kd.C (Kd.int .i64) w A1 l1.length l1) (hc1 : l1.length ≤ c1) (h : spec_Compare.f k l0 l1 = some r) :
    Calls Tryd.prog 62 #[.slice A0 l0.length c0, .slice A1 l1.length c1] w fun e w' => e = .returned (.int .i64 r) ∧ Drawn0 w w' := by
  have HR0 := Aside0.mk hr0
  have HC0 := Aside0.mk hc0
  clear hr0 hc0
  have HR1 := Aside0.mk hr1
  have HC1 := Aside0.mk hc1
  clear hr1 hc1
  have H : (if (l0.length : Int) = (l1.length : Int) then (spec_Compare.l0 k l0 l1 (wrap64 ((l0.length : Int) - 1))) else (if (l0.length : Int) < (l1.length : Int) then (some (-1)) else (some 1))) = some r := h
  clear h
  by_cases c3 : (l0.length : Int) = (l1.length : Int)
  · rw [if_pos c3] at H
    have c3b0 : ((l0.length : Int) == (l1.length : Int)) = true := beq_iff_eq.mpr c3
    have c3b1 : ((l0.length : Int) != (l1.length : Int)) = false := bne_eq_false_iff_eq.mpr c3
    have c3b2 : (l0.length == l1.length) = true := by first | simpa using c3 | (simp at c3 ⊢; omega)
    clear c3
    have H' := Aside0.mk H
    clear H
    go_enter Tryd.func62, Tryd.ntmps62
    go_wp2
    repeat (go_quiet (fail); try go_wp2)
    go_loopg [5] k (fun kq v5 w' => ∃ (x5_1 : Int), v5 = .int .i64 x5_1 ∧ Aside0 (spec_Compare.l0 kq l0 l1 x5_1 = some r) ∧ Aside0 (kq ≤ k) ∧ Drawn0 w w')
    case atStart => exact ⟨(wrap64 ((l0.length : Int) - 1)), (by first | rfl | (simp; done) | (simp [*]; done)), H', ⟨Nat.le_refl _⟩, by repeat (first | exact Drawn0.refl _ | apply Drawn0.step)⟩
    case round =>
      clear H'
      try clear c1
      try clear p2
      try clear c3
      try clear c3b0
      try clear c3b1
      try clear c3b2
      obtain ⟨x5_1, rfl, HA, HK1, ⟨m1, rfl⟩⟩ := hrel
      cases gk with
      | zero => exact absurd HA.out (by simp [spec_Compare.l0])
      | succ k1 =>
        have H := HA.out
        clear HA
        simp only [spec_Compare.l0] at H
        by_cases c4 : x5_1 ≥ 0
        · rw [if_pos c4] at H
          have c4b0 : decide (0 ≤ x5_1) = true := decide_eq_true c4
          clear c4
          by_cases c5 : 0 ≤ x5_1
          · rw [if_pos c5] at H
            have c5b0 : decide (0 ≤ x5_1) = true := decide_eq_true c5
            clear c5
            by_cases c6 : x5_1 < (l0.length : Int)
            · rw [if_pos c6] at H
              have c6b0 : decide (x5_1 < (l0.length : Int)) = true := decide_eq_true c6
              clear c6
              by_cases c7 : x5_1 < (l1.length : Int)
              · rw [if_pos c7] at H
                have c7b0 : decide (x5_1 < (l1.length : Int)) = true := decide_eq_true c7
                clear c7
                by_cases c8 : (rd l0 x5_1) = (rd l1 x5_1)
                · rw [if_pos c8] at H
                  have c8b0 : ((rd l0 x5_1) == (rd l1 x5_1)) = true := beq_iff_eq.mpr c8
                  have c8b1 : ((rd l0 x5_1) != (rd l1 x5_1)) = false := bne_eq_false_iff_eq.mpr c8
                  clear c8
                  have H' := Aside0.mk H
                  clear H
                  have p230 : 0 ≤ (x5_1 : Int) := of_decide_eq_true (by first | (with_reducible assumption) | assumption)
                  have q230 : x5_1 < (l0.length : Int) := of_decide_eq_true (by first | (with_reducible assumption) | assumption)
                  obtain ⟨ad230, e230, hx230_0⟩ := Kd.at_int HR0.out x5_1 p230 q230
                  cases e230
                  replace p230 := eq_true p230
                  replace q230 := eq_true q230
                  have p231 : 0 ≤ (x5_1 : Int) := of_decide_eq_true (by first | (with_reducible assumption) | assumption)
                  have q231 : x5_1 < (l1.length : Int) := of_decide_eq_true (by first | (with_reducible assumption) | assumption)
                  obtain ⟨ad231, e231, hx231_0⟩ := Kd.at_int HR1.out x5_1 p231 q231
                  cases e231
                  replace p231 := eq_true p231
                  replace q231 := eq_true q231
                  go_wp2
                  repeat (go_quiet (fail); try go_wp2)
                  go_roundg k1
                  case measure => have := HK1.out; omega
                  case rel => exact ⟨(wrap64 (x5_1 - 1)), (by first | rfl | (simp; done) | (simp [*]; done)), H', ⟨by have := HK1.out; omega⟩, by repeat (first | exact Drawn0.refl _ | apply Drawn0.step)⟩
                · rw [if_neg c8] at H
                  have c8b0 : ((rd l0 x5_1) == (rd l1 x5_1)) = false := beq_eq_false_iff_ne.mpr c8
                  have c8b1 : ((rd l0 x5_1) != (rd l1 x5_1)) = true := bne_iff_ne.mpr c8
                  by_cases c9 : (rd l0 x5_1) < (rd l1 x5_1)
                  · rw [if_pos c9] at H
                    have c9b0 : decide ((rd l0 x5_1) < (rd l1 x5_1)) = true := decide_eq_true c9
                    clear c9
                    obtain rfl := Option.some.inj H
                    have p230 : 0 ≤ (x5_1 : Int) := of_decide_eq_true (by first | (with_reducible assumption) | assumption)
                    have q230 : x5_1 < (l0.length : Int) := of_decide_eq_true (by first | (with_reducible assumption) | assumption)
                    obtain ⟨ad230, e230, hx230_0⟩ := Kd.at_int HR0.out x5_1 p230 q230
                    cases e230
                    replace p230 := eq_true p230
                    replace q230 := eq_true q230
                    have p231 : 0 ≤ (x5_1 : Int) := of_decide_eq_true (by first | (with_reducible assumption) | assumption)
                    have q231 : x5_1 < (l1.length : Int) := of_decide_eq_true (by first | (with_reducible assumption) | assumption)
                    obtain ⟨ad231, e231, hx231_0⟩ := Kd.at_int HR1.out x5_1 p231 q231
                    cases e231
                    replace p231 := eq_true p231
                    replace q231 := eq_true q231
                    have p232 : 0 ≤ (x5_1 : Int) := of_decide_eq_true (by first | (with_reducible assumption) | assumption)
                    have q232 : x5_1 < (l0.length : Int) := of_decide_eq_true (by first | (with_reducible assumption) | assumption)
                    obtain ⟨ad232, e232, hx232_0⟩ := Kd.at_int HR0.out x5_1 p232 q232
                    obtain rfl : ad230 = ad232 := (by injection e232)
                    replace p232 := eq_true p232
                    replace q232 := eq_true q232
                    have p233 : 0 ≤ (x5_1 : Int) := of_decide_eq_true (by first | (with_reducible assumption) | assumption)
                    have q233 : x5_1 < (l1.length : Int) := of_decide_eq_true (by first | (with_reducible assumption) | assumption)
                    obtain ⟨ad233, e233, hx233_0⟩ := Kd.at_int HR1.out x5_1 p233 q233
                    obtain rfl : ad231 = ad233 := (by injection e233)
                    replace p233 := eq_true p233
                    replace q233 := eq_true q233
                    go_wp2
                    repeat (go_quiet (fail); try go_wp2)
                    go_ret
                    exact ⟨by first | rfl | (simp; done) | (simp [*]; done), by repeat (first | exact Drawn0.refl _ | apply Drawn0.step)⟩
                  · rw [if_neg c9] at H
                    have c9b0 : decide ((rd l0 x5_1) < (rd l1 x5_1)) = false := decide_eq_false c9
                    clear c9
                    obtain rfl := Option.some.inj H
                    have p230 : 0 ≤ (x5_1 : Int) := of_decide_eq_true (by first | (with_reducible assumption) | assumption)
                    have q230 : x5_1 < (l0.length : Int) := of_decide_eq_true (by first | (with_reducible assumption) | assumption)
                    obtain ⟨ad230, e230, hx230_0⟩ := Kd.at_int HR0.out x5_1 p230 q230
                    cases e230
                    replace p230 := eq_true p230
                    replace q230 := eq_true q230
                    have p231 : 0 ≤ (x5_1 : Int) := of_decide_eq_true (by first | (with_reducible assumption) | assumption)
                    have q231 : x5_1 < (l1.length : Int) := of_decide_eq_true (by first | (with_reducible assumption) | assumption)
                    obtain ⟨ad231, e231, hx231_0⟩ := Kd.at_int HR1.out x5_1 p231 q231
                    cases e231
                    replace p231 := eq_true p231
                    replace q231 := eq_true q231
                    have p232 : 0 ≤ (x5_1 : Int) := of_decide_eq_true (by first | (with_reducible assumption) | assumption)
                    have q232 : x5_1 < (l0.length : Int) := of_decide_eq_true (by first | (with_reducible assumption) | assumption)
                    obtain ⟨ad232, e232, hx232_0⟩ := Kd.at_int HR0.out x5_1 p232 q232
                    obtain rfl : ad230 = ad232 := (by injection e232)
                    replace p232 := eq_true p232
                    replace q232 := eq_true q232
                    have p233 : 0 ≤ (x5_1 : Int) := of_decide_eq_true (by first | (with_reducible assumption) | assumption)
                    have q233 : x5_1 < (l1.length : Int) := of_decide_eq_true (by first | (with_reducible assumption) | assumption)
                    obtain ⟨ad233, e233, hx233_0⟩ := Kd.at_int HR1.out x5_1 p233 q233
                    obtain rfl : ad231 = ad233 := (by injection e233)
                    replace p233 := eq_true p233
                    replace q233 := eq_true q233
                    go_wp2
                    repeat (go_quiet (fail); try go_wp2)
                    go_ret
                    exact ⟨by first | rfl | (simp; done) | (simp [*]; done), by repeat (first | exact Drawn0.refl _ | apply Drawn0.step)⟩
              · rw [if_neg c7] at H
                exact absurd H (by simp)
            · rw [if_neg c6] at H
              exact absurd H (by simp)
          · rw [if_neg c5] at H
            exact absurd H (by simp)
        · rw [if_neg c4] at H
          have c4b0 : decide (0 ≤ x5_1) = false := decide_eq_false c4
          clear c4
          obtain rfl := Option.some.inj H
          go_wp2
          repeat (go_quiet (fail); try go_wp2)
          go_ret
          exact ⟨by first | rfl | (simp; done) | (simp [*]; done), by repeat (first | exact Drawn0.refl _ | apply Drawn0.step)⟩
  · rw [if_neg c3] at H
    have c3b0 : ((l0.length : Int) == (l1.length : Int)) = false := beq_eq_false_iff_ne.mpr c3
    have c3b1 : ((l0.length : Int) != (l1.length : Int)) = true := bne_iff_ne.mpr c3
    have c3b2 : (l0.length == l1.length) = false := by first | simpa using c3 | (simp at c3 ⊢; omega)
    by_cases c10 : (l0.length : Int) < (l1.length : Int)
    · rw [if_pos c10] at H
      have c10b0 : decide ((l0.length : Int) < (l1.length : Int)) = true := decide_eq_true c10
      have c10b1 : decide (l0.length < l1.length) = true := decide_eq_true (Int.ofNat_lt.mp c10)
      clear c10
      obtain rfl := Option.some.inj H
      go_enter Tryd.func62, Tryd.ntmps62
      go_wp2
      repeat (go_quiet (fail); try go_wp2)
      go_ret
      exact ⟨by first | rfl | (simp; done) | (simp [*]; done), by repeat (first | exact Drawn0.refl _ | apply Drawn0.step)⟩
    · rw [if_neg c10] at H
      have c10b0 : decide ((l0.length : Int) < (l1.length : Int)) = false := decide_eq_false c10
      have c10b1 : decide (l0.length < l1.length) = false := decide_eq_false (fun h => c10 (Int.ofNat_lt.mpr h))
      clear c10
      obtain rfl := Option.some.inj H
      go_enter Tryd.func62, Tryd.ntmps62
      go_wp2
      repeat (go_quiet (fail); try go_wp2)
      go_ret
      exact ⟨by first | rfl | (simp; done) | (simp [*]; done), by repeat (first | exact Drawn0.refl _ | apply Drawn0.step)⟩
/-! ### spec_Divided: function 30 -/
mutual
def spec_Divided.l0 : Nat → List Int → List Int → List Int → List Int → Int → Option (List Int × List Int)
  | 0, _, _, _, _, _ => none
  | k + 1, x0, x1, x4, x5, x7 => if x7 ≥ 0 then ((spec_Plus.f k x5 x5).bind fun t235 => ((spec_Big_Bit.f x0 x7).bind fun t238 => (if t238 = true then ((spec_Plus.f k t235 (([1] : List Int))).bind fun t242 => (spec_Divided.j1 k x0 x1 x4 t242 x7)) else (spec_Divided.j1 k x0 x1 x4 t235 x7)))) else (some (x4, x5))
def spec_Divided.j1 : Nat → List Int → List Int → List Int → List Int → Int → Option (List Int × List Int)
  | 0, _, _, _, _, _ => none
  | k + 1, x0, x1, x4, x5, x7 => (spec_Plus.f k x4 x4).bind fun t245 => ((spec_Compare.f k x5 x1).bind fun t248 => (if t248 ≥ 0 then ((spec_Minus.f k x5 x1).bind fun t249 => ((spec_Plus.f k t245 (([1] : List Int))).bind fun t255 => (spec_Divided.l0 k x0 x1 t255 t249 (wrap64 (x7 - 1))))) else (spec_Divided.l0 k x0 x1 t245 x5 (wrap64 (x7 - 1)))))
end
def spec_Divided.f (k : Nat) (l0 : List Int) (l1 : List Int) : Option (List Int × List Int) := (spec_Big_Length.f k l0).bind fun t234 => (spec_Divided.l0 k l0 l1 ([] : List Int) ([] : List Int) (wrap64 (t234 - 1)))
theorem spec_Divided.mono_l : ∀ k, (∀ y0 y1 y2 y3 y4, LeO (spec_Divided.l0 k y0 y1 y2 y3 y4) (spec_Divided.l0 (k + 1) y0 y1 y2 y3 y4)) ∧ (∀ y0 y1 y2 y3 y4, LeO (spec_Divided.j1 k y0 y1 y2 y3 y4) (spec_Divided.j1 (k + 1) y0 y1 y2 y3 y4))
  | 0 => ⟨fun _ _ _ _ _ r h => by simp [spec_Divided.l0] at h, fun _ _ _ _ _ r h => by simp [spec_Divided.j1] at h⟩
  | k + 1 => by
    obtain ⟨ih0, ih1⟩ := spec_Divided.mono_l k
    refine ⟨?_, ?_⟩
    · intro y0 y1 y2 y3 y4
      unfold spec_Divided.l0
      repeat' first
      | (with_reducible exact ih0 _ _ _ _ _)
      | (with_reducible exact ih1 _ _ _ _ _)
      | (with_reducible exact spec_Big_Length.mono _ _)
      | (with_reducible exact spec_Compare.mono _ _ _)
      | (with_reducible exact spec_Minus.mono _ _ _)
      | (with_reducible exact spec_Plus.mono _ _ _)
      | (with_reducible exact LeO.refl _)
      | (with_reducible exact LeO.none _)
      | (with_reducible refine LeO.ite ?_ ?_)
      | (with_reducible refine LeO.bind ?_ (fun _ => ?_))
      | exact ih0 _ _ _ _ _
      | exact ih1 _ _ _ _ _
      | exact spec_Big_Length.mono _ _
      | exact spec_Compare.mono _ _ _
      | exact spec_Minus.mono _ _ _
      | exact spec_Plus.mono _ _ _
      | exact LeO.none _
      | refine LeO.ite ?_ ?_
      | refine LeO.bind ?_ (fun _ => ?_)
    · intro y0 y1 y2 y3 y4
      unfold spec_Divided.j1
      repeat' first
      | (with_reducible exact ih0 _ _ _ _ _)
      | (with_reducible exact ih1 _ _ _ _ _)
      | (with_reducible exact spec_Big_Length.mono _ _)
      | (with_reducible exact spec_Compare.mono _ _ _)
      | (with_reducible exact spec_Minus.mono _ _ _)
      | (with_reducible exact spec_Plus.mono _ _ _)
      | (with_reducible exact LeO.refl _)
      | (with_reducible exact LeO.none _)
      | (with_reducible refine LeO.ite ?_ ?_)
      | (with_reducible refine LeO.bind ?_ (fun _ => ?_))
      | exact ih0 _ _ _ _ _
      | exact ih1 _ _ _ _ _
      | exact spec_Big_Length.mono _ _
      | exact spec_Compare.mono _ _ _
      | exact spec_Minus.mono _ _ _
      | exact spec_Plus.mono _ _ _
      | exact LeO.none _
      | refine LeO.ite ?_ ?_
      | refine LeO.bind ?_ (fun _ => ?_)
theorem spec_Divided.mono : ∀ a0 a1 k, LeO (spec_Divided.f k a0 a1) (spec_Divided.f (k + 1) a0 a1) := by
  intro a0 a1 k
  obtain ⟨ih0, ih1⟩ := spec_Divided.mono_l k
  unfold spec_Divided.f
  repeat' first
      | (with_reducible exact ih0 _ _ _ _ _)
      | (with_reducible exact ih1 _ _ _ _ _)
      | (with_reducible exact spec_Big_Length.mono _ _)
      | (with_reducible exact spec_Compare.mono _ _ _)
      | (with_reducible exact spec_Minus.mono _ _ _)
      | (with_reducible exact spec_Plus.mono _ _ _)
      | (with_reducible exact LeO.refl _)
      | (with_reducible exact LeO.none _)
      | (with_reducible refine LeO.ite ?_ ?_)
      | (with_reducible refine LeO.bind ?_ (fun _ => ?_))
      | exact ih0 _ _ _ _ _
      | exact ih1 _ _ _ _ _
      | exact spec_Big_Length.mono _ _
      | exact spec_Compare.mono _ _ _
      | exact spec_Minus.mono _ _ _
      | exact spec_Plus.mono _ _ _
      | exact LeO.none _
      | refine LeO.ite ?_ ?_
      | refine LeO.bind ?_ (fun _ => ?_)
set_option maxHeartbeats 8000000 in
set_option maxRecDepth 100000 in
theorem spec_Divided.calls (k : Nat) (A0 : Option Addr) (c0 : Nat) (l0 : List Int) (A1 : Option Addr) (c1 : Nat) (l1 : List Int) (r1 : List Int) (r2 : List Int) (w : World) (hr0 : Kd.C (Kd.int .i64) w A0 l0.length l0) (hc0 : l0.length ≤ c0) (hr1 : Kd.C (Kd.int .i64) w A1 l1.length l1) (hc1 : l1.length ≤ c1) (h : spec_Divided.f k l0 l1 = some (r1, r2)) :
    Calls Tryd.prog 30 #[.slice A0 l0.length c0, .slice A1 l1.length c1] w fun e w' => ∃ v0_ v1_ : Value, e = .returned (.tuple #[v0_, v1_]) ∧ Kd.V (Kd.int .i64) 3 w' w.heap.size (fun k_ => (w.heap.size ≤ k_)) v0_ r1 ∧ Kd.V (Kd.int .i64) 3 w' w.heap.size (fun k_ => (w.heap.size ≤ k_)) v1_ r2 ∧ Below w.heap.size w w' := by
  have HR0 := Aside0.mk hr0
  have HC0 := Aside0.mk hc0
  clear hr0 hc0
  have HR1 := Aside0.mk hr1
  have HC1 := Aside0.mk hc1
  clear hr1 hc1
  have HB := Aside0.mk (Below.refl w.heap.size w)
  have H : ((spec_Big_Length.f k l0).bind fun t234 => (spec_Divided.l0 k l0 l1 ([] : List Int) ([] : List Int) (wrap64 (t234 - 1)))) = some (r1, r2) := h
  clear h
  replace H := Option.bind_eq_some_iff.mp H
  obtain ⟨t234, A30, H⟩ := H
  replace H : (spec_Divided.l0 k l0 l1 ([] : List Int) ([] : List Int) (wrap64 (t234 - 1))) = some (r1, r2) := H
  have A3 := Aside0.mk A30
  clear A30
  have H' := Aside0.mk H
  clear H
  go_enter Tryd.func30, Tryd.ntmps30
  go_wp2_with (first | ((with_reducible refine gate_callee (f := 19) rfl ?_); refine goesL_ (some 9) rfl rfl Tryd.func19 (by kernel_rfl) rfl #[.slice A0 l0.length c0] rfl (by (try simp only [List.map_toArray, List.map_cons, List.map_nil]); first | done | rfl | (simp only [List.length_drop, List.length_take]; rfl)) ?_; (with_reducible refine (spec_Big_Length.calls k _ _ l0 t234 _ ?side1 ?side2 A3.out).mono ?_); (case side1 => repeat (first | exact HR0.out | (with_reducible refine Kd.C_alloc ?_ _) | (with_reducible refine Kd.C_drewN ?_ _) | (with_reducible refine Kd.C_drew ?_))); (case side2 => exact HC0.out); rintro e w' ⟨rfl, ⟨nd, rfl⟩⟩; refine ⟨_, rfl, ?_⟩))
  go_loopg [4, 5, 7] k (fun kq v4 v5 v7 w' => ∃ (x4_1 : List Int) (x5_1 : List Int) (x7_1 : Int), v7 = .int .i64 x7_1 ∧ Aside0 (spec_Divided.l0 kq l0 l1 x4_1 x5_1 x7_1 = some (r1, r2)) ∧ Aside0 (kq ≤ k) ∧ Aside0 (Kd.V (Kd.int .i64) 3 w' w.heap.size (fun k_ => (w.heap.size ≤ k_)) v4 x4_1) ∧ Aside0 (Kd.V (Kd.int .i64) 3 w' w.heap.size (fun k_ => (w.heap.size ≤ k_)) v5 x5_1) ∧ Aside0 (Below w.heap.size w w'))
  case atStart => exact ⟨(([] : List Int)), (([] : List Int)), (wrap64 (t234 - 1)), (by first | rfl | (simp; done) | (simp [*]; done)), H', ⟨Nat.le_refl _⟩, ⟨Kd.V_nil _ _ _ _ _⟩, ⟨Kd.V_nil _ _ _ _ _⟩, ⟨by repeat (first | (with_reducible first | exact HB.out | apply below_alloc | apply pw_below_drewN | apply below_drew1) | exact HB.out)⟩⟩
  case round =>
    clear H'
    try clear c1
    try clear p2
    try clear c3
    obtain ⟨x4_1, x5_1, x7_1, rfl, HA, HK1, HO_4, HO_5, HB⟩ := hrel
    cases gk with
    | zero => exact absurd HA.out (by simp [spec_Divided.l0])
    | succ k1 =>
      have H := HA.out
      clear HA
      simp only [spec_Divided.l0] at H
      by_cases c4 : x7_1 ≥ 0
      · rw [if_pos c4] at H
        have c4b0 : decide (0 ≤ x7_1) = true := decide_eq_true c4
        clear c4
        replace H := Option.bind_eq_some_iff.mp H
        obtain ⟨t235, A50, H⟩ := H
        replace H : ((spec_Big_Bit.f l0 x7_1).bind fun t238 => (if t238 = true then ((spec_Plus.f k1 t235 (([1] : List Int))).bind fun t242 => (spec_Divided.j1 k1 l0 l1 x4_1 t242 x7_1)) else (spec_Divided.j1 k1 l0 l1 x4_1 t235 x7_1))) = some (r1, r2) := H
        have A5 := Aside0.mk A50
        clear A50
        replace H := Option.bind_eq_some_iff.mp H
        obtain ⟨t238, A60, H⟩ := H
        replace H : (if t238 = true then ((spec_Plus.f k1 t235 (([1] : List Int))).bind fun t242 => (spec_Divided.j1 k1 l0 l1 x4_1 t242 x7_1)) else (spec_Divided.j1 k1 l0 l1 x4_1 t235 x7_1)) = some (r1, r2) := H
        have A6 := Aside0.mk A60
        clear A60
        have HC7 := Aside0.mk H
        clear H
        obtain ⟨Ao8, co8, eo8⟩ := Kd.V_slice HO_5.out
        subst eo8
        go_upto_if 21 with (first | ((with_reducible refine gate_callee (f := 61) rfl ?_); refine goesL_ (some 18) rfl rfl Tryd.func61 (by kernel_rfl) rfl #[.slice Ao8 x5_1.length co8, .slice Ao8 x5_1.length co8] rfl (by (try simp only [List.map_toArray, List.map_cons, List.map_nil]); first | done | rfl | (simp only [List.length_drop, List.length_take]; rfl)) ?_; (with_reducible refine (spec_Plus.calls k1 _ _ x5_1 _ _ x5_1 t235 _ ?side1 ?side2 ?side3 ?side4 A5.out).mono ?_); (case side1 => repeat (first | exact (Kd.V_reads' HO_5.out).2.2 | (with_reducible refine Kd.C_alloc ?_ _) | (with_reducible refine Kd.C_drewN ?_ _) | (with_reducible refine Kd.C_drew ?_))); (case side2 => exact (Kd.V_reads' HO_5.out).2.1); (case side3 => repeat (first | exact (Kd.V_reads' HO_5.out).2.2 | (with_reducible refine Kd.C_alloc ?_ _) | (with_reducible refine Kd.C_drewN ?_ _) | (with_reducible refine Kd.C_drew ?_))); (case side4 => exact (Kd.V_reads' HO_5.out).2.1); rintro e w9 ⟨v236, rfl, ho0, hb⟩; refine ⟨_, rfl, ?_⟩; have n0_ := Aside0.mk (Kd.V_below (by (with_reducible repeat (first | apply Kd.V_alloc | apply Kd.V_drewN | apply Kd.V_drew)); exact HO_4.out) hb); have n1_ := Aside0.mk (Kd.V_below (by (with_reducible repeat (first | apply Kd.V_alloc | apply Kd.V_drewN | apply Kd.V_drew)); exact HO_5.out) hb); have n2_ := Aside0.mk (Kd.V_lower (Kd.V_mono (ok' := fun k_ => (w.heap.size ≤ k_)) ho0 (fun k_ hk_ => (Nat.le_trans (below_size (by repeat (first | (with_reducible first | exact HB.out | apply below_alloc | apply pw_below_drewN | apply below_drew1) | exact HB.out))) hk_))) (below_size (by repeat (first | (with_reducible first | exact HB.out | apply below_alloc | apply pw_below_drewN | apply below_drew1) | exact HB.out)))); have n3_ := Aside0.mk (below_step (by repeat (first | (with_reducible first | exact HB.out | apply below_alloc | apply pw_below_drewN | apply below_drew1) | exact HB.out)) hb); clear HO_4; clear HO_5; clear HB; have HO_4 := n0_; have HO_5 := n1_; have HO237 := n2_; have HB := n3_; clear n0_ n1_ n2_ n3_; (try clear hb); (try clear hb2); (try clear hk); (try clear hi); (try clear ho0)) | ((with_reducible refine gate_callee (f := 20) rfl ?_); refine goesL_ (some 21) rfl rfl Tryd.func20 (by kernel_rfl) rfl #[.slice A0 l0.length c0, .int .i64 x7_1] rfl (by (try simp only [List.map_toArray, List.map_cons, List.map_nil]); first | done | rfl | (simp only [List.length_drop, List.length_take]; rfl)) ?_; (with_reducible refine (spec_Big_Bit.calls _ _ l0 x7_1 t238 _ ?side1 ?side2 A6.out).mono ?_); (case side1 => repeat (first | exact (Kd.C_below HR0.out HB.out) | (with_reducible refine Kd.C_alloc ?_ _) | (with_reducible refine Kd.C_drewN ?_ _) | (with_reducible refine Kd.C_drew ?_))); (case side2 => exact HC0.out); rintro e w' ⟨rfl, ⟨nd, rfl⟩⟩; refine ⟨_, rfl, ?_⟩))
        (try simp only [Act.put, List.setIfInBounds_toArray, List.set_cons_zero, List.set_cons_succ])
        go_cut [5] (fun v5 wc => ∃ (kq : Nat) (x5_6 : List Int), Aside0 (spec_Divided.j1 kq l0 l1 x4_1 x5_6 x7_1 = some (r1, r2)) ∧ Aside0 (kq ≤ k1) ∧ Aside0 (Kd.V (Kd.int .i64) 3 wc w.heap.size (fun k_ => (w.heap.size ≤ k_)) u4 x4_1) ∧ Aside0 (Kd.V (Kd.int .i64) 3 wc w.heap.size (fun k_ => (w.heap.size ≤ k_)) v5 x5_6) ∧ Aside0 (Below w.heap.size w wc))
        case first =>
          have H := HC7.out
          clear HC7
          by_cases c10 : t238 = true
          · subst c10
            have H1 : ((spec_Plus.f k1 t235 (([1] : List Int))).bind fun t242 => (spec_Divided.j1 k1 l0 l1 x4_1 t242 x7_1)) = some (r1, r2) := by rw [if_pos rfl] at H; exact H
            clear H
            have H := H1
            clear H1
            obtain ⟨y239, hy239⟩ : ∃ y_ : List Int, y_ = (([1] : List Int)) := ⟨_, rfl⟩
            replace H : ((spec_Plus.f k1 t235 y239).bind fun t242 => (spec_Divided.j1 k1 l0 l1 x4_1 t242 x7_1)) = some (r1, r2) := by first | (rw [hy239]; with_reducible exact H) | (have H2_ := (Option.bind_some _ _).symm.trans H; rw [hy239]; with_reducible exact H2_) | (have H2_ := (Option.bind_some _ _).symm.trans H; with_reducible exact H2_) | with_reducible exact H | (rw [hy239]; exact H) | exact H
            have Ny239 := Aside0.mk hy239
            clear hy239
            replace H := Option.bind_eq_some_iff.mp H
            obtain ⟨t242, A110, H⟩ := H
            replace H : (spec_Divided.j1 k1 l0 l1 x4_1 t242 x7_1) = some (r1, r2) := H
            have A11 := Aside0.mk A110
            clear A110
            have H' := Aside0.mk H
            clear H
            go_wp2_with (first | ((with_reducible refine gate_dst (N := 23) rfl ?_); refine Kd.R_lit (Kd.int .i64) _ 3 ?hg (N := 23) ?hd (xs := ([1] : List Int)) (inner := [.int .i64 1]) (ok := fun _ => True) (okp := fun _ => True) ?hr ?hp (fun _ hk => hk) trivial (Below.refl _ _) (Nat.le_refl _) (by simp) ?_; (case hd => rfl); (case hg => rfl); (case hr => first | (go_simp; done) | (go_simp; rfl)); (case hp => exact (Reps.one (show Kd.M (Kd.int .i64) _ _ _ 1 [.int .i64 1] from rfl) (Reps.none _ _))); intro v240 w12 ho13 hb hg_ hnew_; clear hg_ hnew_; (first | rw [← Ny239.out] at ho13 | (simp only [Int.reduceToNat] at ho13; rw [← Ny239.out] at ho13)); have n0_ := Aside0.mk (Kd.V_elder' (by (with_reducible repeat (first | apply Kd.V_alloc | apply Kd.V_drewN | apply Kd.V_drew)); exact HO_4.out) (Kd.R_base ho13) hb); have n1_ := Aside0.mk (Kd.V_elder' (by (with_reducible repeat (first | apply Kd.V_alloc | apply Kd.V_drewN | apply Kd.V_drew)); exact HO_5.out) (Kd.R_base ho13) hb); have n2_ := Aside0.mk (Kd.V_elder' (by (with_reducible repeat (first | apply Kd.V_alloc | apply Kd.V_drewN | apply Kd.V_drew)); exact HO237.out) (Kd.R_base ho13) hb); have n3_ := Aside0.mk (Kd.R_lower (Kd.R_newM (M := fun k_ => (w.heap.size ≤ k_)) ho13 (below_size (by repeat (first | (with_reducible first | exact HB.out | apply below_alloc | apply pw_below_drewN | apply below_drew1) | exact HB.out))) (fun k_ h_ => h_)) (below_size (by repeat (first | (with_reducible first | exact HB.out | apply below_alloc | apply pw_below_drewN | apply below_drew1) | exact HB.out)))); have n4_ := Aside0.mk (below_step (by repeat (first | (with_reducible first | exact HB.out | apply below_alloc | apply pw_below_drewN | apply below_drew1) | exact HB.out)) hb); clear HO_4; clear HO_5; clear HO237; clear HB; have HO_4 := n0_; have HO_5 := n1_; have HO237 := n2_; have HO241 := n3_; have HB := n4_; clear n0_ n1_ n2_ n3_ n4_; clear hb ho13; obtain ⟨Ao14, co14, eo14⟩ := Kd.V_slice HO237.out; subst eo14; obtain ⟨Ao15, co15, eo15⟩ := Kd.R_slice HO241.out; subst eo15) | ((with_reducible refine gate_callee (f := 61) rfl ?_); refine goesL_ (some 24) rfl rfl Tryd.func61 (by kernel_rfl) rfl #[.slice Ao14 t235.length co14, .slice Ao15 y239.length co15] rfl (by (try simp only [List.map_toArray, List.map_cons, List.map_nil]); first | done | rfl | (simp only [List.length_drop, List.length_take]; rfl)) ?_; (with_reducible refine (spec_Plus.calls k1 _ _ t235 _ _ y239 t242 _ ?side1 ?side2 ?side3 ?side4 A11.out).mono ?_); (case side1 => repeat (first | exact (Kd.V_reads' HO237.out).2.2 | (with_reducible refine Kd.C_alloc ?_ _) | (with_reducible refine Kd.C_drewN ?_ _) | (with_reducible refine Kd.C_drew ?_))); (case side2 => exact (Kd.V_reads' HO237.out).2.1); (case side3 => repeat (first | exact (Kd.R_reads' HO241.out).2.2 | (with_reducible refine Kd.C_alloc ?_ _) | (with_reducible refine Kd.C_drewN ?_ _) | (with_reducible refine Kd.C_drew ?_))); (case side4 => exact (Kd.R_reads' HO241.out).2.1); rintro e w16 ⟨v243, rfl, ho0, hb⟩; refine ⟨_, rfl, ?_⟩; have n0_ := Aside0.mk (Kd.V_below (by (with_reducible repeat (first | apply Kd.V_alloc | apply Kd.V_drewN | apply Kd.V_drew)); exact HO_4.out) hb); have n1_ := Aside0.mk (Kd.V_below (by (with_reducible repeat (first | apply Kd.V_alloc | apply Kd.V_drewN | apply Kd.V_drew)); exact HO_5.out) hb); have n2_ := Aside0.mk (Kd.V_below (by (with_reducible repeat (first | apply Kd.V_alloc | apply Kd.V_drewN | apply Kd.V_drew)); exact HO237.out) hb); have n3_ := Aside0.mk (Kd.R_below (by (with_reducible repeat (first | apply Kd.R_alloc | apply Kd.R_drewN | apply Kd.R_drew)); exact HO241.out) hb); have n4_ := Aside0.mk (Kd.V_lower (Kd.V_mono (ok' := fun k_ => (w.heap.size ≤ k_) ∧ some k_ ≠ (.slice Ao15 y239.length co15 : Value).ownBlock) ho0 (fun k_ hk_ => ⟨(Nat.le_trans (below_size (by repeat (first | (with_reducible first | exact HB.out | apply below_alloc | apply pw_below_drewN | apply below_drew1) | exact HB.out))) hk_), (Kd.fresh' (Kd.R_lt (by (with_reducible repeat (first | apply Kd.R_alloc | apply Kd.R_drewN | apply Kd.R_drew)); exact HO241.out)) k_ hk_)⟩)) (below_size (by repeat (first | (with_reducible first | exact HB.out | apply below_alloc | apply pw_below_drewN | apply below_drew1) | exact HB.out)))); have n5_ := Aside0.mk (below_step (by repeat (first | (with_reducible first | exact HB.out | apply below_alloc | apply pw_below_drewN | apply below_drew1) | exact HB.out)) hb); clear HO_4; clear HO_5; clear HO237; clear HO241; clear HB; have HO_4 := n0_; have HO_5 := n1_; have HO237 := n2_; have HO241 := n3_; have HO244 := n4_; have HB := n5_; clear n0_ n1_ n2_ n3_ n4_ n5_; (try clear hb); (try clear hb2); (try clear hk); (try clear hi); (try clear ho0)))
            go_meet
            case rel => exact ⟨_, (t242), H', ⟨by have := HK1.out; first | omega | exact Nat.le_refl _⟩, ⟨by (with_reducible repeat (first | apply Kd.V_alloc | apply Kd.V_drewN | apply Kd.V_drew)); exact Kd.V_mono HO_4.out (fun _ hk => hk.1)⟩, ⟨by (with_reducible repeat (first | apply Kd.V_alloc | apply Kd.V_drewN | apply Kd.V_drew)); exact Kd.V_mono HO244.out (fun _ hk => hk.1)⟩, ⟨by repeat (first | (with_reducible first | exact HB.out | apply below_alloc | apply pw_below_drewN | apply below_drew1) | exact HB.out)⟩⟩
          · replace c10 := Bool.eq_false_iff.mpr c10
            subst c10
            have H1 : (spec_Divided.j1 k1 l0 l1 x4_1 t235 x7_1) = some (r1, r2) := by rw [if_neg (show ¬ (false = true) by decide)] at H; exact H
            clear H
            have H := H1
            clear H1
            have H' := Aside0.mk H
            clear H
            go_wp2
            go_meet
            case rel => exact ⟨_, (t235), H', ⟨by have := HK1.out; first | omega | exact Nat.le_refl _⟩, ⟨by (with_reducible repeat (first | apply Kd.V_alloc | apply Kd.V_drewN | apply Kd.V_drew)); exact HO_4.out⟩, ⟨by (with_reducible repeat (first | apply Kd.V_alloc | apply Kd.V_drewN | apply Kd.V_drew)); exact HO237.out⟩, ⟨by repeat (first | (with_reducible first | exact HB.out | apply below_alloc | apply pw_below_drewN | apply below_drew1) | exact HB.out)⟩⟩
        case rest =>
          clear HC7
          try clear c1
          try clear c2
          try clear p2
          try clear c3
          try clear c4
          try clear c4b0
          try clear c6
          try clear p6
          try clear c10
          try clear p2
          obtain ⟨kq, x5_6, HA, HJ6, HO_4, HO_5, HB⟩ := hcut
          cases kq with
          | zero => exact absurd HA.out (by simp [spec_Divided.j1])
          | succ kj6 =>
            have H := HA.out
            clear HA
            simp only [spec_Divided.j1] at H
            replace H := Option.bind_eq_some_iff.mp H
            obtain ⟨t245, A170, H⟩ := H
            replace H : ((spec_Compare.f kj6 x5_6 l1).bind fun t248 => (if t248 ≥ 0 then ((spec_Minus.f kj6 x5_6 l1).bind fun t249 => ((spec_Plus.f kj6 t245 (([1] : List Int))).bind fun t255 => (spec_Divided.l0 kj6 l0 l1 t255 t249 (wrap64 (x7_1 - 1))))) else (spec_Divided.l0 kj6 l0 l1 t245 x5_6 (wrap64 (x7_1 - 1))))) = some (r1, r2) := H
            have A17 := Aside0.mk A170
            clear A170
            replace H := Option.bind_eq_some_iff.mp H
            obtain ⟨t248, A180, H⟩ := H
            replace H : (if t248 ≥ 0 then ((spec_Minus.f kj6 x5_6 l1).bind fun t249 => ((spec_Plus.f kj6 t245 (([1] : List Int))).bind fun t255 => (spec_Divided.l0 kj6 l0 l1 t255 t249 (wrap64 (x7_1 - 1))))) else (spec_Divided.l0 kj6 l0 l1 t245 x5_6 (wrap64 (x7_1 - 1)))) = some (r1, r2) := H
            have A18 := Aside0.mk A180
            clear A180
            by_cases c19 : t248 ≥ 0
            · rw [if_pos c19] at H
              have c19b0 : decide (0 ≤ t248) = true := decide_eq_true c19
              clear c19
              replace H := Option.bind_eq_some_iff.mp H
              obtain ⟨t249, A200, H⟩ := H
              replace H : ((spec_Plus.f kj6 t245 (([1] : List Int))).bind fun t255 => (spec_Divided.l0 kj6 l0 l1 t255 t249 (wrap64 (x7_1 - 1)))) = some (r1, r2) := H
              have A20 := Aside0.mk A200
              clear A200
              obtain ⟨y252, hy252⟩ : ∃ y_ : List Int, y_ = (([1] : List Int)) := ⟨_, rfl⟩
              replace H : ((spec_Plus.f kj6 t245 y252).bind fun t255 => (spec_Divided.l0 kj6 l0 l1 t255 t249 (wrap64 (x7_1 - 1)))) = some (r1, r2) := by first | (rw [hy252]; with_reducible exact H) | (have H2_ := (Option.bind_some _ _).symm.trans H; rw [hy252]; with_reducible exact H2_) | (have H2_ := (Option.bind_some _ _).symm.trans H; with_reducible exact H2_) | with_reducible exact H | (rw [hy252]; exact H) | exact H
              have Ny252 := Aside0.mk hy252
              clear hy252
              replace H := Option.bind_eq_some_iff.mp H
              obtain ⟨t255, A210, H⟩ := H
              replace H : (spec_Divided.l0 kj6 l0 l1 t255 t249 (wrap64 (x7_1 - 1))) = some (r1, r2) := H
              have A21 := Aside0.mk A210
              clear A210
              have H' := Aside0.mk H
              clear H
              obtain ⟨Ao22, co22, eo22⟩ := Kd.V_slice HO_4.out
              subst eo22
              go_wp2_with (first | ((with_reducible refine gate_callee (f := 61) rfl ?_); refine goesL_ (some 27) rfl rfl Tryd.func61 (by kernel_rfl) rfl #[.slice Ao22 x4_1.length co22, .slice Ao22 x4_1.length co22] rfl (by (try simp only [List.map_toArray, List.map_cons, List.map_nil]); first | done | rfl | (simp only [List.length_drop, List.length_take]; rfl)) ?_; (with_reducible refine (spec_Plus.calls kj6 _ _ x4_1 _ _ x4_1 t245 _ ?side1 ?side2 ?side3 ?side4 A17.out).mono ?_); (case side1 => repeat (first | exact (Kd.V_reads' HO_4.out).2.2 | (with_reducible refine Kd.C_alloc ?_ _) | (with_reducible refine Kd.C_drewN ?_ _) | (with_reducible refine Kd.C_drew ?_))); (case side2 => exact (Kd.V_reads' HO_4.out).2.1); (case side3 => repeat (first | exact (Kd.V_reads' HO_4.out).2.2 | (with_reducible refine Kd.C_alloc ?_ _) | (with_reducible refine Kd.C_drewN ?_ _) | (with_reducible refine Kd.C_drew ?_))); (case side4 => exact (Kd.V_reads' HO_4.out).2.1); rintro e w23 ⟨v246, rfl, ho0, hb⟩; refine ⟨_, rfl, ?_⟩; have n0_ := Aside0.mk (Kd.V_below (by (with_reducible repeat (first | apply Kd.V_alloc | apply Kd.V_drewN | apply Kd.V_drew)); exact HO_4.out) hb); have n1_ := Aside0.mk (Kd.V_below (by (with_reducible repeat (first | apply Kd.V_alloc | apply Kd.V_drewN | apply Kd.V_drew)); exact HO_5.out) hb); have n2_ := Aside0.mk (Kd.V_lower (Kd.V_mono (ok' := fun k_ => (w.heap.size ≤ k_)) ho0 (fun k_ hk_ => (Nat.le_trans (below_size (by repeat (first | (with_reducible first | exact HB.out | apply below_alloc | apply pw_below_drewN | apply below_drew1) | exact HB.out))) hk_))) (below_size (by repeat (first | (with_reducible first | exact HB.out | apply below_alloc | apply pw_below_drewN | apply below_drew1) | exact HB.out)))); have n3_ := Aside0.mk (below_step (by repeat (first | (with_reducible first | exact HB.out | apply below_alloc | apply pw_below_drewN | apply below_drew1) | exact HB.out)) hb); clear HO_4; clear HO_5; clear HB; have HO_4 := n0_; have HO_5 := n1_; have HO247 := n2_; have HB := n3_; clear n0_ n1_ n2_ n3_; (try clear hb); (try clear hb2); (try clear hk); (try clear hi); (try clear ho0); obtain ⟨Ao24, co24, eo24⟩ := Kd.V_slice HO_5.out; subst eo24) | ((with_reducible refine gate_callee (f := 62) rfl ?_); refine goesL_ (some 30) rfl rfl Tryd.func62 (by kernel_rfl) rfl #[.slice Ao24 x5_6.length co24, .slice A1 l1.length c1] rfl (by (try simp only [List.map_toArray, List.map_cons, List.map_nil]); first | done | rfl | (simp only [List.length_drop, List.length_take]; rfl)) ?_; (with_reducible refine (spec_Compare.calls kj6 _ _ x5_6 _ _ l1 t248 _ ?side1 ?side2 ?side3 ?side4 A18.out).mono ?_); (case side1 => repeat (first | exact (Kd.V_reads' HO_5.out).2.2 | (with_reducible refine Kd.C_alloc ?_ _) | (with_reducible refine Kd.C_drewN ?_ _) | (with_reducible refine Kd.C_drew ?_))); (case side2 => exact (Kd.V_reads' HO_5.out).2.1); (case side3 => repeat (first | exact (Kd.C_below HR1.out HB.out) | (with_reducible refine Kd.C_alloc ?_ _) | (with_reducible refine Kd.C_drewN ?_ _) | (with_reducible refine Kd.C_drew ?_))); (case side4 => exact HC1.out); rintro e w' ⟨rfl, ⟨nd, rfl⟩⟩; refine ⟨_, rfl, ?_⟩) | ((with_reducible refine gate_callee (f := 16) rfl ?_); refine goesL_ (some 34) rfl rfl Tryd.func16 (by kernel_rfl) rfl #[.slice Ao24 x5_6.length co24, .slice A1 l1.length c1] rfl (by (try simp only [List.map_toArray, List.map_cons, List.map_nil]); first | done | rfl | (simp only [List.length_drop, List.length_take]; rfl)) ?_; (with_reducible refine (spec_Minus.calls kj6 _ _ x5_6 _ _ l1 t249 _ ?side1 ?side2 ?side3 ?side4 A20.out).mono ?_); (case side1 => repeat (first | exact (Kd.V_reads' HO_5.out).2.2 | (with_reducible refine Kd.C_alloc ?_ _) | (with_reducible refine Kd.C_drewN ?_ _) | (with_reducible refine Kd.C_drew ?_))); (case side2 => exact (Kd.V_reads' HO_5.out).2.1); (case side3 => repeat (first | exact (Kd.C_below HR1.out (by repeat (first | (with_reducible first | exact HB.out | apply below_alloc | apply pw_below_drewN | apply below_drew1) | exact HB.out))) | (with_reducible refine Kd.C_alloc ?_ _) | (with_reducible refine Kd.C_drewN ?_ _) | (with_reducible refine Kd.C_drew ?_))); (case side4 => exact HC1.out); rintro e w25 ⟨v250, rfl, ho0, hb⟩; refine ⟨_, rfl, ?_⟩; have n0_ := Aside0.mk (Kd.V_below (by (with_reducible repeat (first | apply Kd.V_alloc | apply Kd.V_drewN | apply Kd.V_drew)); exact HO_4.out) hb); have n1_ := Aside0.mk (Kd.V_below (by (with_reducible repeat (first | apply Kd.V_alloc | apply Kd.V_drewN | apply Kd.V_drew)); exact HO_5.out) hb); have n2_ := Aside0.mk (Kd.V_below (by (with_reducible repeat (first | apply Kd.V_alloc | apply Kd.V_drewN | apply Kd.V_drew)); exact HO247.out) hb); have n3_ := Aside0.mk (Kd.V_lower (Kd.V_mono (ok' := fun k_ => (w.heap.size ≤ k_)) ho0 (fun k_ hk_ => (Nat.le_trans (below_size (by repeat (first | (with_reducible first | exact HB.out | apply below_alloc | apply pw_below_drewN | apply below_drew1) | exact HB.out))) hk_))) (below_size (by repeat (first | (with_reducible first | exact HB.out | apply below_alloc | apply pw_below_drewN | apply below_drew1) | exact HB.out)))); have n4_ := Aside0.mk (below_step (by repeat (first | (with_reducible first | exact HB.out | apply below_alloc | apply pw_below_drewN | apply below_drew1) | exact HB.out)) hb); clear HO_4; clear HO_5; clear HO247; clear HB; have HO_4 := n0_; have HO_5 := n1_; have HO247 := n2_; have HO251 := n3_; have HB := n4_; clear n0_ n1_ n2_ n3_ n4_; (try clear hb); (try clear hb2); (try clear hk); (try clear hi); (try clear ho0)) | ((with_reducible refine gate_dst (N := 36) rfl ?_); refine Kd.R_lit (Kd.int .i64) _ 3 ?hg (N := 36) ?hd (xs := ([1] : List Int)) (inner := [.int .i64 1]) (ok := fun _ => True) (okp := fun _ => True) ?hr ?hp (fun _ hk => hk) trivial (Below.refl _ _) (Nat.le_refl _) (by simp) ?_; (case hd => rfl); (case hg => rfl); (case hr => first | (go_simp; done) | (go_simp; rfl)); (case hp => exact (Reps.one (show Kd.M (Kd.int .i64) _ _ _ 1 [.int .i64 1] from rfl) (Reps.none _ _))); intro v253 w26 ho27 hb hg_ hnew_; clear hg_ hnew_; (first | rw [← Ny252.out] at ho27 | (simp only [Int.reduceToNat] at ho27; rw [← Ny252.out] at ho27)); have n0_ := Aside0.mk (Kd.V_elder' (by (with_reducible repeat (first | apply Kd.V_alloc | apply Kd.V_drewN | apply Kd.V_drew)); exact HO_4.out) (Kd.R_base ho27) hb); have n1_ := Aside0.mk (Kd.V_elder' (by (with_reducible repeat (first | apply Kd.V_alloc | apply Kd.V_drewN | apply Kd.V_drew)); exact HO_5.out) (Kd.R_base ho27) hb); have n2_ := Aside0.mk (Kd.V_elder' (by (with_reducible repeat (first | apply Kd.V_alloc | apply Kd.V_drewN | apply Kd.V_drew)); exact HO247.out) (Kd.R_base ho27) hb); have n3_ := Aside0.mk (Kd.V_elder' (by (with_reducible repeat (first | apply Kd.V_alloc | apply Kd.V_drewN | apply Kd.V_drew)); exact HO251.out) (Kd.R_base ho27) hb); have n4_ := Aside0.mk (Kd.R_lower (Kd.R_newM (M := fun k_ => (w.heap.size ≤ k_)) ho27 (below_size (by repeat (first | (with_reducible first | exact HB.out | apply below_alloc | apply pw_below_drewN | apply below_drew1) | exact HB.out))) (fun k_ h_ => h_)) (below_size (by repeat (first | (with_reducible first | exact HB.out | apply below_alloc | apply pw_below_drewN | apply below_drew1) | exact HB.out)))); have n5_ := Aside0.mk (below_step (by repeat (first | (with_reducible first | exact HB.out | apply below_alloc | apply pw_below_drewN | apply below_drew1) | exact HB.out)) hb); clear HO_4; clear HO_5; clear HO247; clear HO251; clear HB; have HO_4 := n0_; have HO_5 := n1_; have HO247 := n2_; have HO251 := n3_; have HO254 := n4_; have HB := n5_; clear n0_ n1_ n2_ n3_ n4_ n5_; clear hb ho27; obtain ⟨Ao28, co28, eo28⟩ := Kd.V_slice HO247.out; subst eo28; obtain ⟨Ao29, co29, eo29⟩ := Kd.R_slice HO254.out; subst eo29) | ((with_reducible refine gate_callee (f := 61) rfl ?_); refine goesL_ (some 37) rfl rfl Tryd.func61 (by kernel_rfl) rfl #[.slice Ao28 t245.length co28, .slice Ao29 y252.length co29] rfl (by (try simp only [List.map_toArray, List.map_cons, List.map_nil]); first | done | rfl | (simp only [List.length_drop, List.length_take]; rfl)) ?_; (with_reducible refine (spec_Plus.calls kj6 _ _ t245 _ _ y252 t255 _ ?side1 ?side2 ?side3 ?side4 A21.out).mono ?_); (case side1 => repeat (first | exact (Kd.V_reads' HO247.out).2.2 | (with_reducible refine Kd.C_alloc ?_ _) | (with_reducible refine Kd.C_drewN ?_ _) | (with_reducible refine Kd.C_drew ?_))); (case side2 => exact (Kd.V_reads' HO247.out).2.1); (case side3 => repeat (first | exact (Kd.R_reads' HO254.out).2.2 | (with_reducible refine Kd.C_alloc ?_ _) | (with_reducible refine Kd.C_drewN ?_ _) | (with_reducible refine Kd.C_drew ?_))); (case side4 => exact (Kd.R_reads' HO254.out).2.1); rintro e w30 ⟨v256, rfl, ho0, hb⟩; refine ⟨_, rfl, ?_⟩; have n0_ := Aside0.mk (Kd.V_below (by (with_reducible repeat (first | apply Kd.V_alloc | apply Kd.V_drewN | apply Kd.V_drew)); exact HO_4.out) hb); have n1_ := Aside0.mk (Kd.V_below (by (with_reducible repeat (first | apply Kd.V_alloc | apply Kd.V_drewN | apply Kd.V_drew)); exact HO_5.out) hb); have n2_ := Aside0.mk (Kd.V_below (by (with_reducible repeat (first | apply Kd.V_alloc | apply Kd.V_drewN | apply Kd.V_drew)); exact HO247.out) hb); have n3_ := Aside0.mk (Kd.V_below (by (with_reducible repeat (first | apply Kd.V_alloc | apply Kd.V_drewN | apply Kd.V_drew)); exact HO251.out) hb); have n4_ := Aside0.mk (Kd.R_below (by (with_reducible repeat (first | apply Kd.R_alloc | apply Kd.R_drewN | apply Kd.R_drew)); exact HO254.out) hb); have n5_ := Aside0.mk (Kd.V_lower (Kd.V_mono (ok' := fun k_ => (w.heap.size ≤ k_) ∧ some k_ ≠ (.slice Ao29 y252.length co29 : Value).ownBlock) ho0 (fun k_ hk_ => ⟨(Nat.le_trans (below_size (by repeat (first | (with_reducible first | exact HB.out | apply below_alloc | apply pw_below_drewN | apply below_drew1) | exact HB.out))) hk_), (Kd.fresh' (Kd.R_lt (by (with_reducible repeat (first | apply Kd.R_alloc | apply Kd.R_drewN | apply Kd.R_drew)); exact HO254.out)) k_ hk_)⟩)) (below_size (by repeat (first | (with_reducible first | exact HB.out | apply below_alloc | apply pw_below_drewN | apply below_drew1) | exact HB.out)))); have n6_ := Aside0.mk (below_step (by repeat (first | (with_reducible first | exact HB.out | apply below_alloc | apply pw_below_drewN | apply below_drew1) | exact HB.out)) hb); clear HO_4; clear HO_5; clear HO247; clear HO251; clear HO254; clear HB; have HO_4 := n0_; have HO_5 := n1_; have HO247 := n2_; have HO251 := n3_; have HO254 := n4_; have HO257 := n5_; have HB := n6_; clear n0_ n1_ n2_ n3_ n4_ n5_ n6_; (try clear hb); (try clear hb2); (try clear hk); (try clear hi); (try clear ho0)))
              go_roundg kj6
              case measure => have := HK1.out; have := HJ6.out; omega
              case rel => exact ⟨(t255), (t249), (wrap64 (x7_1 - 1)), (by first | rfl | (simp; done) | (simp [*]; done)), H', ⟨by have := HK1.out; have := HJ6.out; omega⟩, ⟨by (with_reducible repeat (first | apply Kd.V_alloc | apply Kd.V_drewN | apply Kd.V_drew)); exact Kd.V_mono HO257.out (fun _ hk => hk.1)⟩, ⟨by (with_reducible repeat (first | apply Kd.V_alloc | apply Kd.V_drewN | apply Kd.V_drew)); exact Kd.V_mono HO251.out (fun _ hk => hk.1)⟩, ⟨by repeat (first | (with_reducible first | exact HB.out | apply below_alloc | apply pw_below_drewN | apply below_drew1) | exact HB.out)⟩⟩
            · rw [if_neg c19] at H
              have c19b0 : decide (0 ≤ t248) = false := decide_eq_false c19
              clear c19
              have H' := Aside0.mk H
              clear H
              obtain ⟨Ao31, co31, eo31⟩ := Kd.V_slice HO_4.out
              subst eo31
              go_wp2_with (first | ((with_reducible refine gate_callee (f := 61) rfl ?_); refine goesL_ (some 27) rfl rfl Tryd.func61 (by kernel_rfl) rfl #[.slice Ao31 x4_1.length co31, .slice Ao31 x4_1.length co31] rfl (by (try simp only [List.map_toArray, List.map_cons, List.map_nil]); first | done | rfl | (simp only [List.length_drop, List.length_take]; rfl)) ?_; (with_reducible refine (spec_Plus.calls kj6 _ _ x4_1 _ _ x4_1 t245 _ ?side1 ?side2 ?side3 ?side4 A17.out).mono ?_); (case side1 => repeat (first | exact (Kd.V_reads' HO_4.out).2.2 | (with_reducible refine Kd.C_alloc ?_ _) | (with_reducible refine Kd.C_drewN ?_ _) | (with_reducible refine Kd.C_drew ?_))); (case side2 => exact (Kd.V_reads' HO_4.out).2.1); (case side3 => repeat (first | exact (Kd.V_reads' HO_4.out).2.2 | (with_reducible refine Kd.C_alloc ?_ _) | (with_reducible refine Kd.C_drewN ?_ _) | (with_reducible refine Kd.C_drew ?_))); (case side4 => exact (Kd.V_reads' HO_4.out).2.1); rintro e w32 ⟨v246, rfl, ho0, hb⟩; refine ⟨_, rfl, ?_⟩; have n0_ := Aside0.mk (Kd.V_below (by (with_reducible repeat (first | apply Kd.V_alloc | apply Kd.V_drewN | apply Kd.V_drew)); exact HO_4.out) hb); have n1_ := Aside0.mk (Kd.V_below (by (with_reducible repeat (first | apply Kd.V_alloc | apply Kd.V_drewN | apply Kd.V_drew)); exact HO_5.out) hb); have n2_ := Aside0.mk (Kd.V_lower (Kd.V_mono (ok' := fun k_ => (w.heap.size ≤ k_)) ho0 (fun k_ hk_ => (Nat.le_trans (below_size (by repeat (first | (with_reducible first | exact HB.out | apply below_alloc | apply pw_below_drewN | apply below_drew1) | exact HB.out))) hk_))) (below_size (by repeat (first | (with_reducible first | exact HB.out | apply below_alloc | apply pw_below_drewN | apply below_drew1) | exact HB.out)))); have n3_ := Aside0.mk (below_step (by repeat (first | (with_reducible first | exact HB.out | apply below_alloc | apply pw_below_drewN | apply below_drew1) | exact HB.out)) hb); clear HO_4; clear HO_5; clear HB; have HO_4 := n0_; have HO_5 := n1_; have HO247 := n2_; have HB := n3_; clear n0_ n1_ n2_ n3_; (try clear hb); (try clear hb2); (try clear hk); (try clear hi); (try clear ho0); obtain ⟨Ao33, co33, eo33⟩ := Kd.V_slice HO_5.out; subst eo33) | ((with_reducible refine gate_callee (f := 62) rfl ?_); refine goesL_ (some 30) rfl rfl Tryd.func62 (by kernel_rfl) rfl #[.slice Ao33 x5_6.length co33, .slice A1 l1.length c1] rfl (by (try simp only [List.map_toArray, List.map_cons, List.map_nil]); first | done | rfl | (simp only [List.length_drop, List.length_take]; rfl)) ?_; (with_reducible refine (spec_Compare.calls kj6 _ _ x5_6 _ _ l1 t248 _ ?side1 ?side2 ?side3 ?side4 A18.out).mono ?_); (case side1 => repeat (first | exact (Kd.V_reads' HO_5.out).2.2 | (with_reducible refine Kd.C_alloc ?_ _) | (with_reducible refine Kd.C_drewN ?_ _) | (with_reducible refine Kd.C_drew ?_))); (case side2 => exact (Kd.V_reads' HO_5.out).2.1); (case side3 => repeat (first | exact (Kd.C_below HR1.out HB.out) | (with_reducible refine Kd.C_alloc ?_ _) | (with_reducible refine Kd.C_drewN ?_ _) | (with_reducible refine Kd.C_drew ?_))); (case side4 => exact HC1.out); rintro e w' ⟨rfl, ⟨nd, rfl⟩⟩; refine ⟨_, rfl, ?_⟩))
              go_roundg kj6
              case measure => have := HK1.out; have := HJ6.out; omega
              case rel => exact ⟨(t245), (x5_6), (wrap64 (x7_1 - 1)), (by first | rfl | (simp; done) | (simp [*]; done)), H', ⟨by have := HK1.out; have := HJ6.out; omega⟩, ⟨by (with_reducible repeat (first | apply Kd.V_alloc | apply Kd.V_drewN | apply Kd.V_drew)); exact HO247.out⟩, ⟨by (with_reducible repeat (first | apply Kd.V_alloc | apply Kd.V_drewN | apply Kd.V_drew)); exact HO_5.out⟩, ⟨by repeat (first | (with_reducible first | exact HB.out | apply below_alloc | apply pw_below_drewN | apply below_drew1) | exact HB.out)⟩⟩
      · rw [if_neg c4] at H
        have c4b0 : decide (0 ≤ x7_1) = false := decide_eq_false c4
        clear c4
        simp only [Option.some.injEq, Prod.mk.injEq] at H
        obtain ⟨rfl, rfl⟩ := H
        go_wp2
        go_ret2
        exact ⟨_, _, by first | rfl | (simp [errW_none, errW_some] <;> rfl) | (simp [*, errW_none, errW_some] <;> rfl), by (with_reducible repeat (first | apply Kd.V_alloc | apply Kd.V_drewN | apply Kd.V_drew)); exact HO_4.out, by (with_reducible repeat (first | apply Kd.V_alloc | apply Kd.V_drewN | apply Kd.V_drew)); exact HO_5.out, by repeat (first | (with_reducible first | exact HB.out | apply below_alloc | apply pw_below_drewN | apply below_drew1) | exact HB.out)⟩
/-! ### spec_OfBits: function 80 -/
theorem row_of_block {W : World} {g t : Nat} {k : IntKind} {xs : List Int} (h : W.heap[g]? = some (.cells (xs.map (Value.int k)).toArray t (0, 0))) (hm : xs.length ≤ 9223372036854775807) :
    (Kd.int k).C W (some ⟨g, 0, none⟩) xs.length xs := by
  refine ⟨rfl, hm, fun _ => ⟨_, rfl, fun j p hj => ⟨[.int k p], rfl, rfl, fun i u hu => ?_⟩⟩⟩
  match i, hu with
  | 0, hu =>
    obtain rfl : Value.int k p = u := by simpa using hu
    have e : (Addr.add ⟨g, 0, none⟩ (j * (Kd.int k).sz + 0)) = ⟨g, j, none⟩ := by
      simp [Kd.int, Kd.scalar, Addr.add]
      rintro rfl
      rfl
    rw [e, blk_cell h]
    simp [hj]
theorem row_V {W : World} {g t base : Nat} {k : IntKind} {xs : List Int} (h : W.heap[g]? = some (.cells (xs.map (Value.int k)).toArray t (0, 0))) (hm : xs.length ≤ 9223372036854775807) :
    Kd.V (Kd.int k) t W base (fun q => q = g) (.slice (some ⟨g, 0, none⟩) xs.length xs.length) xs :=
  Kd.V_mk (Nat.le_refl _) (fun W' hW => row_of_block ((hW g rfl (blk_lt h)).trans h) hm)
/-- A block of whole numbers reads as a row of them. -/
theorem i64_or_bit (d e : Nat) (he : e < 16) (hd : d < 2 ^ e) : Go.bits .or .i64 (d : Int) (wrap64 (2 ^ e)) = ((d + 2 ^ e : Nat) : Int) := by
  have h2 : (2 : Nat) ^ e ≤ 2 ^ 15 := Nat.pow_le_pow_right (by decide) (by omega)
  have h3 : wrap64 (2 ^ e) = ((2 ^ e : Nat) : Int) := by
    have : ((2 : Int) ^ e) = ((2 ^ e : Nat) : Int) := by simp
    rw [this]
    unfold wrap64
    omega
  rw [h3, (bits_nat .i64 16 (by decide) (fun n h0 h1 => by rw [IntKind.wrap_i64]; omega) d (2 ^ e) (by omega) (by omega)).2, Dig.or_add hd]
theorem cells_step (b : Nat → Bool) (k : Nat) (hk : k < 128) :
    (((Dig.digs 9 (Dig.ofb b k)).map (Value.int .i64)).toArray).setIfInBounds (k / 16) (.int .i64 (Go.bits .or .i64 ((Dig.ofb b k / 65536 ^ (k / 16) % 65536 : Nat) : Int) (wrap64 (2 ^ (k % 16))))) =
      ((Dig.digs 9 (Dig.ofb b k + 2 ^ k)).map (Value.int .i64)).toArray := by
  have hm := Dig.ofb_lt b k
  have hd : Dig.ofb b k / 65536 ^ (k / 16) % 65536 < 2 ^ (k % 16) := by
    refine Nat.lt_of_le_of_lt (Nat.mod_le _ _) ?_
    apply Nat.div_lt_of_lt_mul
    rw [Dig.p16, ← Nat.pow_add, show 16 * (k / 16) + k % 16 = k by omega]
    exact hm
  rw [i64_or_bit _ _ (by omega) hd, List.setIfInBounds_toArray, ← Dig.digs_set 9 _ _ hm (by omega), List.map_set]
theorem digs9_zero : Dig.digs 9 0 = [0, 0, 0, 0, 0, 0, 0, 0, 0] := by decide
set_option maxHeartbeats 2000000 in
set_option maxRecDepth 100000 in
/-- OfBits of 128 bits, by whatever function of one number that tells the bits b and leaves memory alone. -/
theorem spec_OfBits.calls (w : World) (fid : Nat) (caps : Array Value) (b : Nat → Bool)
    (hcf : ∀ (args : Array Value) (w : World), (callFunc fid args).run Tryd.prog w = .ok (.enter fid args) w)
    (hcl : Hid (∀ (i : Nat) (W : World), i < 128 → Below w.heap.size w W → Calls Tryd.prog fid (#[.int .i64 i] ++ caps) W (fun e W' => e = .returned (.bool (b i)) ∧ Below W.heap.size W W')))
    (k : Nat) (r : List Int) (hr : spec_trim.f k (Dig.digs 9 (Dig.ofb b 128)) = some r) :
    Calls Tryd.prog 80 #[.int .i64 128, .func (.func fid) #[] caps] w fun e w' => ∃ v0_ : Value, e = .returned (v0_) ∧ Kd.V (Kd.int .i64) 3 w' w.heap.size (fun k_ => (w.heap.size ≤ k_)) v0_ r ∧ Below w.heap.size w w' := by
  have hmk : ∀ w, (Instr.makeSlice 30 (.int .i64 9) (.int .i64 9)).run Tryd.prog w = .ok (.slice (some ⟨w.heap.size, 0, none⟩) 9 9) (w.alloc (.cells #[.int .i64 0,.int .i64 0,.int .i64 0,.int .i64 0,.int .i64 0,.int .i64 0,.int .i64 0,.int .i64 0,.int .i64 0] 3)) := fun _ => by kernel_rfl
  have HR := Lib.hid hr
  clear hr
  go_enter Tryd.func80, Tryd.ntmps80
  go_wp2_with fail
  go_loopw [12] (fun v wr => ∃ k : Nat, k ≤ 128 ∧ v = .int .i64 k ∧ wr.heap[w.heap.size]? = some (.cells ((Dig.digs 9 (Dig.ofb b k)).map (Value.int .i64)).toArray 3 (0,0)) ∧ Below w.heap.size w wr) (fun i _ => 128 - (intOf i).toNat)
  case atStart => exact ⟨0, by omega, rfl, by rw [Dig.ofb, digs9_zero]; exact (MapKept.heap_alloc w _).1, (Below.refl _ _).alloc (Nat.le_refl _) _⟩
  case round =>
    obtain ⟨k, hk, rfl, hblk, hb⟩ := hrel
    have hlt := blk_lt hblk
    by_cases hlt : k < 128
    · go_wp2_with fail
      refine (hcl.out k _ hlt hb).mono ?_
      rintro e w1 ⟨rfl, hb1⟩
      have hblk1 := (hb1.block _ (blk_lt hblk)).trans hblk
      cases hbk : b k
      · go_wp2
        go_roundw
        case rel => exact ⟨k + 1, by omega, by go_num, by rw [Dig.ofb, hbk]; exact hblk1, hb.trans (hb1.mono (by have := blk_lt hblk; omega))⟩
        case measure => simp [intOf]; omega
      · have hcell : w1.cell? ⟨w.heap.size, k / 16, none⟩ = some (.int .i64 ((Dig.ofb b k / 65536 ^ (k / 16) % 65536 : Nat) : Int)) := by
          rw [blk_cell hblk1]
          simp [Dig.digs_get 9 (Dig.ofb b k) (k / 16) (by omega)]
        have hfr : w1.frozen? ⟨w.heap.size, k / 16, none⟩ = false := blk_frozen hblk1 _
        obtain ⟨dd, hdd⟩ : ∃ dd : Nat, dd = Dig.ofb b k / 65536 ^ (k / 16) % 65536 := ⟨_, rfl⟩
        rw [← hdd] at hcell
        have HDD := Lib.hid hdd
        have HB := Lib.hid hblk1
        clear hdd hblk1 hblk
        go_wp2
        go_region
        go_wp2
        go_roundw
        case rel =>
          refine ⟨k + 1, by omega, by go_num, ?_, (hb.trans (hb1.mono (by have := hb.size; omega))).trans (((Below.refl w.heap.size w1).setCell (p := ⟨w.heap.size, k / 16, none⟩) (Nat.le_refl _) _).drew)⟩
          have h2 := blk_set HB.out (k / 16) (.int .i64 (Go.bits .or .i64 (dd : Int) (wrap64 (2 ^ (k % 16)))))
          rw [HDD.out, cells_step b k hlt] at h2
          rw [HDD.out]
          show _ = some (Obj.cells ((Dig.digs 9 (Dig.ofb b k + if b k = true then 2 ^ k else 0)).map (Value.int .i64)).toArray _ _)
          rw [hbk]
          exact h2
        case measure => simp [intOf]; omega
    · obtain rfl : k = 128 := by omega
      have hV := row_V (base := wr.heap.size) hblk (by rw [Dig.digs_len]; decide)
      rw [Dig.digs_len] at hV
      have hV' : Kd.V (Kd.int .i64) 3 wr wr.heap.size (fun q => q = w.heap.size) (.slice (some ⟨w.heap.size, 0, none⟩) (Dig.digs 9 (Dig.ofb b 128)).length 9) (Dig.digs 9 (Dig.ofb b 128)) := by rw [Dig.digs_len]; exact hV
      have hT := spec_trim.calls _ _ _ 9 _ _ wr hV' HR.out
      rw [Dig.digs_len] at hT
      have HT := Lib.hid hT
      clear hT hV hV' hblk
      go_wp2_with fail
      refine (HT.out).mono ?_
      rintro e w1 ⟨v0, rfl, hv, hb1⟩
      go_wp2
      go_ret
      exact ⟨_, rfl, Kd.V_mono hv (fun q hq => by rcases hq with rfl | hq; exact Nat.le_refl _; have := hb.size; omega), hb.trans (hb1.mono hb.size)⟩
/-! ### spec_Two: function 17 -/
def spec_Two.f (a0 : Int) : Option (List Int) := if a0 = 128 then some (Dig.dg 340282366920938463463374607431768211456) else none
theorem dg_two128 : Dig.dg 340282366920938463463374607431768211456 = [0, 0, 0, 0, 0, 0, 0, 0, 1] := by decide +kernel
set_option maxHeartbeats 1000000 in
set_option maxRecDepth 100000 in
theorem two_any (w : World) : Calls Tryd.prog 17 #[.int .i64 128] w fun e w' => e = .returned (.slice (some ⟨w.heap.size, 0, none⟩) 9 9) ∧
    w' = w.alloc (.cells #[.int .i64 0,.int .i64 0,.int .i64 0,.int .i64 0,.int .i64 0,.int .i64 0,.int .i64 0,.int .i64 0,.int .i64 1] 3) := by
  have hmk : ∀ w, (Instr.makeSlice 30 (.int .i64 9) (.int .i64 9)).run Tryd.prog w = .ok (.slice (some ⟨w.heap.size, 0, none⟩) 9 9) (w.alloc (.cells #[.int .i64 0,.int .i64 0,.int .i64 0,.int .i64 0,.int .i64 0,.int .i64 0,.int .i64 0,.int .i64 0,.int .i64 0] 3)) := fun _ => by kernel_rfl
  go_enter Tryd.func17, Tryd.ntmps17
  go_wp2
  go_ret
  exact ⟨rfl, rfl⟩
theorem spec_Two.calls (a0 : Int) (r : List Int) (w : World) (h : spec_Two.f a0 = some r) :
    Calls Tryd.prog 17 #[.int .i64 a0] w fun e w' => ∃ v0_ : Value, e = .returned (v0_) ∧ Kd.V (Kd.int .i64) 3 w' w.heap.size (fun k_ => (w.heap.size ≤ k_)) v0_ r ∧ Below w.heap.size w w' := by
  unfold spec_Two.f at h
  split at h
  case isFalse => cases h
  rename_i hb
  subst hb
  obtain rfl := Option.some.inj h
  refine (two_any w).mono ?_
  rintro e w' ⟨rfl, rfl⟩
  refine ⟨_, rfl, ?_, (Below.refl _ _).alloc (Nat.le_refl _) _⟩
  rw [dg_two128]
  exact Kd.V_mono (row_V (k := .i64) (xs := [0, 0, 0, 0, 0, 0, 0, 0, 1]) (MapKept.heap_alloc w _).1 (by decide)) (fun q hq => by subst hq; exact Nat.le_refl _)
/-! ### laws_wideLess: function 74 -/
def laws_wideLess.f (k : Nat) (l0 : List Int) (l1 : List Int) : Option (List Int) := (spec_Two.f 128).bind fun t258 => ((spec_Plus.f k l0 t258).bind fun t261 => ((spec_Minus.f k t261 l1).bind fun t264 => (some t264)))
theorem laws_wideLess.mono : ∀ a0 a1 k, LeO (laws_wideLess.f k a0 a1) (laws_wideLess.f (k + 1) a0 a1) := by
  intro a0 a1 k
  unfold laws_wideLess.f
  repeat' first
      | (with_reducible exact spec_Minus.mono _ _ _)
      | (with_reducible exact spec_Plus.mono _ _ _)
      | (with_reducible exact LeO.refl _)
      | (with_reducible exact LeO.none _)
      | (with_reducible refine LeO.ite ?_ ?_)
      | (with_reducible refine LeO.bind ?_ (fun _ => ?_))
      | exact spec_Minus.mono _ _ _
      | exact spec_Plus.mono _ _ _
      | exact LeO.none _
      | refine LeO.ite ?_ ?_
      | refine LeO.bind ?_ (fun _ => ?_)
set_option maxHeartbeats 8000000 in
set_option maxRecDepth 100000 in
theorem laws_wideLess.calls (k : Nat) (A0 : Option Addr) (c0 : Nat) (l0 : List Int) (A1 : Option Addr) (c1 : Nat) (l1 : List Int) (r : List Int) (w : World) (hr0 : Kd.C (Kd.int .i64) w A0 l0.length l0) (hc0 : l0.length ≤ c0) (hr1 : Kd.C (Kd.int .i64) w A1 l1.length l1) (hc1 : l1.length ≤ c1) (h : laws_wideLess.f k l0 l1 = some r) :
    Calls Tryd.prog 74 #[.slice A0 l0.length c0, .slice A1 l1.length c1] w fun e w' => ∃ v0_ : Value, e = .returned (v0_) ∧ Kd.V (Kd.int .i64) 3 w' w.heap.size (fun k_ => (w.heap.size ≤ k_)) v0_ r ∧ Below w.heap.size w w' := by
  have HR0 := Aside0.mk hr0
  have HC0 := Aside0.mk hc0
  clear hr0 hc0
  have HR1 := Aside0.mk hr1
  have HC1 := Aside0.mk hc1
  clear hr1 hc1
  have HB := Aside0.mk (Below.refl w.heap.size w)
  have H : ((spec_Two.f 128).bind fun t258 => ((spec_Plus.f k l0 t258).bind fun t261 => ((spec_Minus.f k t261 l1).bind fun t264 => (some t264)))) = some r := h
  clear h
  replace H := Option.bind_eq_some_iff.mp H
  obtain ⟨t258, A30, H⟩ := H
  replace H : ((spec_Plus.f k l0 t258).bind fun t261 => ((spec_Minus.f k t261 l1).bind fun t264 => (some t264))) = some r := H
  have A3 := Aside0.mk A30
  clear A30
  replace H := Option.bind_eq_some_iff.mp H
  obtain ⟨t261, A40, H⟩ := H
  replace H : ((spec_Minus.f k t261 l1).bind fun t264 => (some t264)) = some r := H
  have A4 := Aside0.mk A40
  clear A40
  replace H := Option.bind_eq_some_iff.mp H
  obtain ⟨t264, A50, H⟩ := H
  replace H : (some t264) = some r := H
  have A5 := Aside0.mk A50
  clear A50
  obtain rfl := Option.some.inj H
  go_enter Tryd.func74, Tryd.ntmps74
  go_wp2_with (first | ((with_reducible refine gate_callee (f := 17) rfl ?_); refine goesL_ (some 6) rfl rfl Tryd.func17 (by kernel_rfl) rfl #[.int .i64 128] rfl (by (try simp only [List.map_toArray, List.map_cons, List.map_nil]); first | done | rfl | (simp only [List.length_drop, List.length_take]; rfl)) ?_; (with_reducible refine (spec_Two.calls 128 t258 _ A3.out).mono ?_); rintro e w6 ⟨v259, rfl, ho0, hb⟩; refine ⟨_, rfl, ?_⟩; have n0_ := Aside0.mk (Kd.V_lower (Kd.V_mono (ok' := fun k_ => (w.heap.size ≤ k_)) ho0 (fun k_ hk_ => (Nat.le_trans (below_size (by repeat (first | (with_reducible first | exact HB.out | apply below_alloc | apply pw_below_drewN | apply below_drew1) | exact HB.out))) hk_))) (below_size (by repeat (first | (with_reducible first | exact HB.out | apply below_alloc | apply pw_below_drewN | apply below_drew1) | exact HB.out)))); have n1_ := Aside0.mk (below_step (by repeat (first | (with_reducible first | exact HB.out | apply below_alloc | apply pw_below_drewN | apply below_drew1) | exact HB.out)) hb); clear HB; have HO260 := n0_; have HB := n1_; clear n0_ n1_; (try clear hb); (try clear hb2); (try clear hk); (try clear hi); (try clear ho0); obtain ⟨Ao7, co7, eo7⟩ := Kd.V_slice HO260.out; subst eo7) | ((with_reducible refine gate_callee (f := 61) rfl ?_); refine goesL_ (some 7) rfl rfl Tryd.func61 (by kernel_rfl) rfl #[.slice A0 l0.length c0, .slice Ao7 t258.length co7] rfl (by (try simp only [List.map_toArray, List.map_cons, List.map_nil]); first | done | rfl | (simp only [List.length_drop, List.length_take]; rfl)) ?_; (with_reducible refine (spec_Plus.calls k _ _ l0 _ _ t258 t261 _ ?side1 ?side2 ?side3 ?side4 A4.out).mono ?_); (case side1 => repeat (first | exact (Kd.C_below HR0.out HB.out) | (with_reducible refine Kd.C_alloc ?_ _) | (with_reducible refine Kd.C_drewN ?_ _) | (with_reducible refine Kd.C_drew ?_))); (case side2 => exact HC0.out); (case side3 => repeat (first | exact (Kd.V_reads' HO260.out).2.2 | (with_reducible refine Kd.C_alloc ?_ _) | (with_reducible refine Kd.C_drewN ?_ _) | (with_reducible refine Kd.C_drew ?_))); (case side4 => exact (Kd.V_reads' HO260.out).2.1); rintro e w8 ⟨v262, rfl, ho0, hb⟩; refine ⟨_, rfl, ?_⟩; have n0_ := Aside0.mk (Kd.V_below (by (with_reducible repeat (first | apply Kd.V_alloc | apply Kd.V_drewN | apply Kd.V_drew)); exact HO260.out) hb); have n1_ := Aside0.mk (Kd.V_lower (Kd.V_mono (ok' := fun k_ => (w.heap.size ≤ k_)) ho0 (fun k_ hk_ => (Nat.le_trans (below_size (by repeat (first | (with_reducible first | exact HB.out | apply below_alloc | apply pw_below_drewN | apply below_drew1) | exact HB.out))) hk_))) (below_size (by repeat (first | (with_reducible first | exact HB.out | apply below_alloc | apply pw_below_drewN | apply below_drew1) | exact HB.out)))); have n2_ := Aside0.mk (below_step (by repeat (first | (with_reducible first | exact HB.out | apply below_alloc | apply pw_below_drewN | apply below_drew1) | exact HB.out)) hb); clear HO260; clear HB; have HO260 := n0_; have HO263 := n1_; have HB := n2_; clear n0_ n1_ n2_; (try clear hb); (try clear hb2); (try clear hk); (try clear hi); (try clear ho0); obtain ⟨Ao9, co9, eo9⟩ := Kd.V_slice HO263.out; subst eo9) | ((with_reducible refine gate_callee (f := 16) rfl ?_); refine goesL_ (some 9) rfl rfl Tryd.func16 (by kernel_rfl) rfl #[.slice Ao9 t261.length co9, .slice A1 l1.length c1] rfl (by (try simp only [List.map_toArray, List.map_cons, List.map_nil]); first | done | rfl | (simp only [List.length_drop, List.length_take]; rfl)) ?_; (with_reducible refine (spec_Minus.calls k _ _ t261 _ _ l1 t264 _ ?side1 ?side2 ?side3 ?side4 A5.out).mono ?_); (case side1 => repeat (first | exact (Kd.V_reads' HO263.out).2.2 | (with_reducible refine Kd.C_alloc ?_ _) | (with_reducible refine Kd.C_drewN ?_ _) | (with_reducible refine Kd.C_drew ?_))); (case side2 => exact (Kd.V_reads' HO263.out).2.1); (case side3 => repeat (first | exact (Kd.C_below HR1.out HB.out) | (with_reducible refine Kd.C_alloc ?_ _) | (with_reducible refine Kd.C_drewN ?_ _) | (with_reducible refine Kd.C_drew ?_))); (case side4 => exact HC1.out); rintro e w10 ⟨v265, rfl, ho0, hb⟩; refine ⟨_, rfl, ?_⟩; have n0_ := Aside0.mk (Kd.V_below (by (with_reducible repeat (first | apply Kd.V_alloc | apply Kd.V_drewN | apply Kd.V_drew)); exact HO260.out) hb); have n1_ := Aside0.mk (Kd.V_below (by (with_reducible repeat (first | apply Kd.V_alloc | apply Kd.V_drewN | apply Kd.V_drew)); exact HO263.out) hb); have n2_ := Aside0.mk (Kd.V_lower (Kd.V_mono (ok' := fun k_ => (w.heap.size ≤ k_)) ho0 (fun k_ hk_ => (Nat.le_trans (below_size (by repeat (first | (with_reducible first | exact HB.out | apply below_alloc | apply pw_below_drewN | apply below_drew1) | exact HB.out))) hk_))) (below_size (by repeat (first | (with_reducible first | exact HB.out | apply below_alloc | apply pw_below_drewN | apply below_drew1) | exact HB.out)))); have n3_ := Aside0.mk (below_step (by repeat (first | (with_reducible first | exact HB.out | apply below_alloc | apply pw_below_drewN | apply below_drew1) | exact HB.out)) hb); clear HO260; clear HO263; clear HB; have HO260 := n0_; have HO263 := n1_; have HO266 := n2_; have HB := n3_; clear n0_ n1_ n2_ n3_; (try clear hb); (try clear hb2); (try clear hk); (try clear hi); (try clear ho0)))
  go_ret
  exact ⟨_, by first | rfl | (simp [errW_none, errW_some] <;> rfl) | (simp [*, errW_none, errW_some] <;> rfl), by (with_reducible repeat (first | apply Kd.V_alloc | apply Kd.V_drewN | apply Kd.V_drew)); exact HO266.out, by repeat (first | (with_reducible first | exact HB.out | apply below_alloc | apply pw_below_drewN | apply below_drew1) | exact HB.out)⟩
/-! ### spec_Whole: function 45 -/
theorem wrap64_small {n : Int} (h0 : -9223372036854775808 ≤ n) (h1 : n < 9223372036854775808) : wrap64 n = n := by unfold wrap64; omega
/-- Noughts at the end are struck. -/
theorem trim_digs (j : Nat) : ∀ (m k : Nat), m < 65536 ^ j → j < 4611686018427387904 → j < k → spec_trim.f k (Dig.digs j m) = some (Dig.dg m) := by
  unfold spec_trim.f
  induction j with
  | zero =>
    intro m k hm _ hk
    obtain ⟨k, rfl⟩ : ∃ q, k = q + 1 := ⟨k - 1, by omega⟩
    obtain rfl : m = 0 := by simpa using hm
    simp [spec_trim.l0, Dig.digs_zero, Dig.dg_zero]
  | succ j ih =>
    intro m k hm hj hk
    obtain ⟨k, rfl⟩ : ∃ q, k = q + 1 := ⟨k - 1, by omega⟩
    have hl : ((Dig.digs (j + 1) m).length : Int) = (j : Int) + 1 := by rw [Dig.digs_len]; omega
    have hw : wrap64 ((j : Int) + 1 - 1) = (j : Int) := by unfold wrap64; omega
    simp only [spec_trim.l0, hl, hw]
    rw [if_pos (by omega), if_pos (by omega), if_pos (by omega)]
    have hrd : rd (Dig.digs (j + 1) m) (j : Int) = ((m / 65536 ^ j % 65536 : Nat) : Int) := by
      unfold rd
      rw [Int.toNat_natCast, Dig.digs_getD, if_pos (by omega)]
    rw [hrd]
    have hq : m / 65536 ^ j < 65536 := Nat.div_lt_of_lt_mul (by rw [← Nat.pow_succ]; exact hm)
    by_cases h0 : m < 65536 ^ j
    · rw [if_pos (by rw [Nat.div_eq_of_lt h0]; rfl), if_pos (by omega), Int.toNat_natCast, Dig.digs_take _ _ _ (by omega)]
      exact ih m k h0 (by omega) (by omega)
    · have hp : 0 < 65536 ^ j := Nat.pow_pos (by decide)
      have h1 : 1 ≤ m / 65536 ^ j := (Nat.le_div_iff_mul_le hp).2 (by omega)
      rw [if_neg (by omega)]
      unfold Dig.dg
      have : Dig.nd m = j + 1 := by
        have a := Dig.nd_le hm
        have b : ¬ Dig.nd m ≤ j := fun hle => h0 (Nat.lt_of_lt_of_le (Dig.lt_nd m) (Nat.pow_le_pow_right (by decide) hle))
        omega
      rw [this]
theorem u64_bit (n i : Nat) (hn : n < 18446744073709551616) : (Go.bits .and .u64 ((n : Int) / 2 ^ i) 1 == 1) = n.testBit i := by
  have h1 : (n : Int) / 2 ^ i = ((n / 2 ^ i : Nat) : Int) := by simp
  have h2 : n / 2 ^ i < 18446744073709551616 := Nat.lt_of_le_of_lt (Nat.div_le_self _ _) hn
  have h3 := u64_and_nat (n / 2 ^ i) 1 h2 (by decide)
  rw [h1, show (1 : Int) = ((1 : Nat) : Int) from rfl, h3, Nat.and_one_is_mod, Nat.testBit_eq_decide_div_mod_eq]
  rw [Bool.eq_iff_iff]
  simp
  omega
set_option maxHeartbeats 400000 in
theorem whole1_lo (lo i : Nat) (p q : Addr) (w : World) (h1 : i < 64) (hlo : lo < 18446744073709551616) (hp : w.cell? p = some (.int .u64 lo)) :
    Calls Tryd.prog 99 #[.int .i64 i, .pointer (some p), .pointer (some q)] w fun e w' => e = .returned (.bool (lo.testBit i)) ∧ w' = w := by
  have HB := Lib.hid (u64_bit lo i hlo)
  clear hlo
  go_enter Tryd.func99, Tryd.ntmps99
  go_wp2
  go_ret
  refine ⟨?_, rfl⟩
  rw [← HB.out]
  rfl
set_option maxHeartbeats 400000 in
theorem whole1_hi (hi i : Nat) (p q : Addr) (w : World) (h1 : 64 ≤ i) (h2 : i < 128) (hhi : hi < 18446744073709551616) (hp : w.cell? q = some (.int .u64 hi)) :
    Calls Tryd.prog 99 #[.int .i64 i, .pointer (some p), .pointer (some q)] w fun e w' => e = .returned (.bool (hi.testBit (i - 64))) ∧ w' = w := by
  obtain ⟨d, rfl⟩ : ∃ d, i = d + 64 := ⟨i - 64, by omega⟩
  have HB := Lib.hid (u64_bit hi d hhi)
  have he : (((d + 64 : Nat) : Int) - 64) = (d : Int) := by omega
  clear hhi
  go_enter Tryd.func99, Tryd.ntmps99
  go_wp2
  go_ret
  refine ⟨?_, rfl⟩
  rw [Nat.add_sub_cancel, ← HB.out]
  try simp
theorem whole_bit (lo hi i : Nat) (hlo : lo < 18446744073709551616) : (lo + hi * 18446744073709551616).testBit i = if i < 64 then lo.testBit i else hi.testBit (i - 64) := by
  have e : lo + hi * 18446744073709551616 = 2 ^ 64 * hi + lo := by omega
  rw [e, Nat.testBit_two_pow_mul_add _ hlo]
def spec_Whole.f (a0 a1 : Int) : Option (List Int) :=
  if 0 ≤ a0 ∧ a0 < 18446744073709551616 ∧ 0 ≤ a1 ∧ a1 < 18446744073709551616 then some (Dig.dg (a0.toNat + a1.toNat * 18446744073709551616)) else none
set_option maxHeartbeats 2000000 in
set_option maxRecDepth 100000 in
theorem spec_Whole.calls (a0 a1 : Int) (r : List Int) (w : World) (h : spec_Whole.f a0 a1 = some r) :
    Calls Tryd.prog 45 #[.int .u64 a0, .int .u64 a1] w fun e w' => ∃ v0_ : Value, e = .returned (v0_) ∧ Kd.V (Kd.int .i64) 3 w' w.heap.size (fun k_ => (w.heap.size ≤ k_)) v0_ r ∧ Below w.heap.size w w' := by
  unfold spec_Whole.f at h
  split at h
  case isFalse => cases h
  rename_i hb
  obtain ⟨h0, h1, h2, h3⟩ := hb
  obtain ⟨lo, rfl⟩ := Int.eq_ofNat_of_zero_le h0
  obtain ⟨hi, rfl⟩ := Int.eq_ofNat_of_zero_le h2
  rw [Int.toNat_natCast, Int.toNat_natCast] at h
  have hlo : lo < 18446744073709551616 := by omega
  have hhi : hi < 18446744073709551616 := by omega
  clear h0 h1 h2 h3
  obtain rfl := Option.some.inj h
  have hmf : ∀ (fn : Fn) (first cap : Array Value) (w : World), (Instr.makeFunc fn first cap).run Tryd.prog w = .ok (.func fn first cap) w := fun _ _ _ _ => rfl
  have hm : lo + hi * 18446744073709551616 < 2 ^ 128 := by omega
  have hof : Dig.ofb (lo + hi * 18446744073709551616).testBit 128 = lo + hi * 18446744073709551616 := Dig.ofb_is hm (fun _ _ => rfl)
  have hr : spec_trim.f 10 (Dig.digs 9 (Dig.ofb (lo + hi * 18446744073709551616).testBit 128)) = some (Dig.dg (lo + hi * 18446744073709551616)) := by
    rw [hof]
    exact trim_digs 9 _ 10 (by omega) (by decide) (by decide)
  have hcl : Hid (∀ (i : Nat) (W : World), i < 128 → Below (w.heap.size + 2) ((w.alloc (.cells #[.int .u64 lo] 22)).alloc (.cells #[.int .u64 hi] 22)) W → Calls Tryd.prog 99 (#[.int .i64 i] ++ #[.pointer (some ⟨w.heap.size, 0, none⟩), .pointer (some ⟨w.heap.size + 1, 0, none⟩)]) W
      (fun e W' => e = .returned (.bool ((lo + hi * 18446744073709551616).testBit i)) ∧ Below W.heap.size W W')) := by
    intro i W hi128 hW
    have c0 : W.cell? ⟨w.heap.size, 0, none⟩ = some (.int .u64 lo) := by
      rw [hW.cell (p := ⟨w.heap.size, 0, none⟩) (by simp), World.cell?_alloc_past _ _ _ (by simp), World.cell?_alloc_at _ _ _ _ rfl]; rfl
    have c1 : W.cell? ⟨w.heap.size + 1, 0, none⟩ = some (.int .u64 hi) := by
      rw [hW.cell (p := ⟨w.heap.size + 1, 0, none⟩) (by simp), World.cell?_alloc_at _ _ _ _ (by simp)]; rfl
    rw [whole_bit lo hi i hlo]
    split
    · exact (whole1_lo lo i _ _ W (by assumption) hlo c0).mono fun e w' ⟨he, hw⟩ => ⟨he, by rw [hw]; exact Below.refl _ _⟩
    · exact (whole1_hi hi i _ _ W (by omega) hi128 hhi c1).mono fun e w' ⟨he, hw⟩ => ⟨he, by rw [hw]; exact Below.refl _ _⟩
  have HC := Lib.hid (spec_OfBits.calls ((w.alloc (.cells #[.int .u64 lo] 22)).alloc (.cells #[.int .u64 hi] 22)) 99 #[.pointer (some ⟨w.heap.size, 0, none⟩), .pointer (some ⟨w.heap.size + 1, 0, none⟩)] _
    (fun _ _ => rfl) (by simpa using hcl) 10 _ hr)
  clear hr hof hm hcl hlo hhi h
  go_enter Tryd.func45, Tryd.ntmps45
  go_wp2_with fail
  refine HC.out.mono ?_
  rintro e w1 ⟨v0, rfl, hv, hb⟩
  have HV := Lib.hid hv
  have HB := Lib.hid hb
  clear hv hb HC
  go_wp2
  go_ret
  refine ⟨_, rfl, Kd.V_mono HV.out (fun q hq => by simp at hq; omega), ?_⟩
  exact (((Below.refl w.heap.size w).alloc (Nat.le_refl _) _).alloc (by simp) _).trans (HB.out.mono (by simp; omega))
/-! ### laws_wideWhole: function 18 -/
def laws_wideWhole.f (a0_0 : Int) (a0_1 : Int) : Option (List Int) := (spec_Whole.f a0_0 a0_1).bind fun t268 => (some t268)
set_option maxHeartbeats 8000000 in
set_option maxRecDepth 100000 in
theorem laws_wideWhole.calls (a0_0 : Int) (a0_1 : Int) (r : List Int) (w : World) (h : laws_wideWhole.f a0_0 a0_1 = some r) :
    Calls Tryd.prog 18 #[.agg #[.int .u64 a0_0, .int .u64 a0_1]] w fun e w' => ∃ v0_ : Value, e = .returned (v0_) ∧ Kd.V (Kd.int .i64) 3 w' w.heap.size (fun k_ => (w.heap.size ≤ k_)) v0_ r ∧ Below w.heap.size w w' := by
  have hu24 := Tryd.underlying24
  have HB := Aside0.mk (Below.refl w.heap.size w)
  have H : ((spec_Whole.f a0_0 a0_1).bind fun t268 => (some t268)) = some r := h
  clear h
  replace H := Option.bind_eq_some_iff.mp H
  obtain ⟨t268, A20, H⟩ := H
  replace H : (some t268) = some r := H
  have A2 := Aside0.mk A20
  clear A20
  obtain rfl := Option.some.inj H
  go_enter Tryd.func18, Tryd.ntmps18
  go_wp2_with (first | ((with_reducible refine gate_dst (N := 1) rfl ?_); refine box_event ?hg (N := 1) ?hd (cs := #[.int .u64 a0_0, .int .u64 a0_1]) (t := 24) ?hr ?_; (case hd => rfl); (case hg => rfl); (case hr => first | (go_simp; done) | (go_simp; rfl)); intro gb267 hg w3 hbox hb; have n0_ := Aside0.mk (below_step (by repeat (first | (with_reducible first | exact HB.out | apply below_alloc | apply pw_below_drewN | apply below_drew1) | exact HB.out)) hb); have n1_ := Aside0.mk (hbox); have n2_ := Aside0.mk ((by rw [hg]; exact (below_size (by repeat (first | (with_reducible first | exact HB.out | apply below_alloc | apply pw_below_drewN | apply below_drew1) | exact HB.out))) : w.heap.size ≤ gb267)); have n3_ := Aside0.mk ((by rw [hg]; exact (below_size (by repeat (first | (with_reducible first | exact HB.out | apply below_alloc | apply pw_below_drewN | apply below_drew1) | exact HB.out))) : w.heap.size ≤ gb267)); clear HB; have HB := n0_; have BK267 := n1_; have GW267 := n2_; have GE267 := n3_; clear n0_ n1_ n2_ n3_; clear hb hbox hg; have hcz4_0 : w3.cell? ⟨gb267, 0, none⟩ = some (.int .u64 a0_0) := (blk_cell BK267.out 0).trans rfl; have hcz4_1 : w3.cell? ⟨gb267, 1, none⟩ = some (.int .u64 a0_1) := (blk_cell BK267.out 1).trans rfl; have hfz4_0 := blk_frozen BK267.out 0; have hfz4_1 := blk_frozen BK267.out 1) | ((with_reducible refine gate_callee (f := 45) rfl ?_); refine goesL_ (some 7) rfl rfl Tryd.func45 (by kernel_rfl) rfl #[.int .u64 a0_0, .int .u64 a0_1] rfl (by (try simp only [List.map_toArray, List.map_cons, List.map_nil]); first | done | rfl | (simp only [List.length_drop, List.length_take]; rfl)) ?_; (with_reducible refine (spec_Whole.calls a0_0 a0_1 t268 _ A2.out).mono ?_); rintro e w5 ⟨v269, rfl, ho0, hb⟩; refine ⟨_, rfl, ?_⟩; have n0_ := Aside0.mk (Kd.V_lower (Kd.V_mono (ok' := fun k_ => (w.heap.size ≤ k_) ∧ k_ ≠ gb267) ho0 (fun k_ hk_ => ⟨(Nat.le_trans (below_size (by repeat (first | (with_reducible first | exact HB.out | apply below_alloc | apply pw_below_drewN | apply below_drew1 | refine below_set ?_ GE267.out) | exact HB.out))) hk_), (Kd.freshB (g := gb267) (o := .cells #[.int .u64 a0_0, .int .u64 a0_1] 24 (0, 0)) (by exact BK267.out) k_ hk_)⟩)) (below_size (by repeat (first | (with_reducible first | exact HB.out | apply below_alloc | apply pw_below_drewN | apply below_drew1 | refine below_set ?_ GE267.out) | exact HB.out)))); have n1_ := Aside0.mk (blk_below (g := gb267) (o := .cells #[.int .u64 a0_0, .int .u64 a0_1] 24 (0, 0)) (by exact BK267.out) hb); have n2_ := Aside0.mk (below_step (by repeat (first | (with_reducible first | exact HB.out | apply below_alloc | apply pw_below_drewN | apply below_drew1 | refine below_set ?_ GE267.out) | exact HB.out)) hb); clear BK267; clear HB; have HO270 := n0_; have BK267 := n1_; have HB := n2_; clear n0_ n1_ n2_; (try clear hb); (try clear hb2); (try clear hk); (try clear hi); (try clear ho0)))
  go_ret
  exact ⟨_, by first | rfl | (simp [errW_none, errW_some] <;> rfl) | (simp [*, errW_none, errW_some] <;> rfl), by (with_reducible repeat (first | apply Kd.V_alloc | apply Kd.V_drewN | apply Kd.V_drew)); exact Kd.V_mono HO270.out (fun _ hk => hk.1), by repeat (first | (with_reducible first | exact HB.out | apply below_alloc | apply pw_below_drewN | apply below_drew1 | refine below_set ?_ GE267.out) | exact HB.out)⟩
/-! ### laws_wideSmall: function 31 -/
def laws_wideSmall.f (a0 : Int) : Option (List Int) := (spec_Whole.f a0 0).bind fun t271 => (some t271)
set_option maxHeartbeats 8000000 in
set_option maxRecDepth 100000 in
theorem laws_wideSmall.calls (a0 : Int) (r : List Int) (w : World) (h : laws_wideSmall.f a0 = some r) :
    Calls Tryd.prog 31 #[.int .u64 a0] w fun e w' => ∃ v0_ : Value, e = .returned (v0_) ∧ Kd.V (Kd.int .i64) 3 w' w.heap.size (fun k_ => (w.heap.size ≤ k_)) v0_ r ∧ Below w.heap.size w w' := by
  have HB := Aside0.mk (Below.refl w.heap.size w)
  have H : ((spec_Whole.f a0 0).bind fun t271 => (some t271)) = some r := h
  clear h
  replace H := Option.bind_eq_some_iff.mp H
  obtain ⟨t271, A20, H⟩ := H
  replace H : (some t271) = some r := H
  have A2 := Aside0.mk A20
  clear A20
  obtain rfl := Option.some.inj H
  go_enter Tryd.func31, Tryd.ntmps31
  go_wp2_with (first | ((with_reducible refine gate_callee (f := 45) rfl ?_); refine goesL_ (some 4) rfl rfl Tryd.func45 (by kernel_rfl) rfl #[.int .u64 a0, .int .u64 0] rfl (by (try simp only [List.map_toArray, List.map_cons, List.map_nil]); first | done | rfl | (simp only [List.length_drop, List.length_take]; rfl)) ?_; (with_reducible refine (spec_Whole.calls a0 0 t271 _ A2.out).mono ?_); rintro e w3 ⟨v272, rfl, ho0, hb⟩; refine ⟨_, rfl, ?_⟩; have n0_ := Aside0.mk (Kd.V_lower (Kd.V_mono (ok' := fun k_ => (w.heap.size ≤ k_)) ho0 (fun k_ hk_ => (Nat.le_trans (below_size (by repeat (first | (with_reducible first | exact HB.out | apply below_alloc | apply pw_below_drewN | apply below_drew1) | exact HB.out))) hk_))) (below_size (by repeat (first | (with_reducible first | exact HB.out | apply below_alloc | apply pw_below_drewN | apply below_drew1) | exact HB.out)))); have n1_ := Aside0.mk (below_step (by repeat (first | (with_reducible first | exact HB.out | apply below_alloc | apply pw_below_drewN | apply below_drew1) | exact HB.out)) hb); clear HB; have HO273 := n0_; have HB := n1_; clear n0_ n1_; (try clear hb); (try clear hb2); (try clear hk); (try clear hi); (try clear ho0)))
  go_ret
  exact ⟨_, by first | rfl | (simp [errW_none, errW_some] <;> rfl) | (simp [*, errW_none, errW_some] <;> rfl), by (with_reducible repeat (first | apply Kd.V_alloc | apply Kd.V_drewN | apply Kd.V_drew)); exact HO273.out, by repeat (first | (with_reducible first | exact HB.out | apply below_alloc | apply pw_below_drewN | apply below_drew1) | exact HB.out)⟩
/-! ### spec_Halves: function 43 -/
def spec_Halves.l0 : Nat → List Int → Int → Int → Int → Option (Int × Int)
  | 0, _, _, _, _ => none
  | k + 1, x0, x2, x3, x5 => if x5 < 64 then ((spec_Big_Bit.f x0 x5).bind fun t274 => (if t274 = true then (if 0 ≤ x5 then ((spec_Big_Bit.f x0 (wrap64 (64 + x5))).bind fun t275 => (if t275 = true then (spec_Halves.l0 k x0 (Go.bits .or .u64 x2 (shl .u64 1 x5)) (Go.bits .or .u64 x3 (shl .u64 1 x5)) (wrap64 (x5 + 1))) else (spec_Halves.l0 k x0 (Go.bits .or .u64 x2 (shl .u64 1 x5)) x3 (wrap64 (x5 + 1))))) else (none)) else ((spec_Big_Bit.f x0 (wrap64 (64 + x5))).bind fun t276 => (if t276 = true then (if 0 ≤ x5 then (spec_Halves.l0 k x0 x2 (Go.bits .or .u64 x3 (shl .u64 1 x5)) (wrap64 (x5 + 1))) else (none)) else (spec_Halves.l0 k x0 x2 x3 (wrap64 (x5 + 1))))))) else (some (x2, x3))
def spec_Halves.f (k : Nat) (l0 : List Int) : Option (Int × Int) := spec_Halves.l0 k l0 0 0 0
theorem spec_Halves.mono_l : ∀ k, (∀ y0 y1 y2 y3, LeO (spec_Halves.l0 k y0 y1 y2 y3) (spec_Halves.l0 (k + 1) y0 y1 y2 y3))
  | 0 => fun _ _ _ _ r h => by simp [spec_Halves.l0] at h
  | k + 1 => by
    have ih0 := spec_Halves.mono_l k
    · intro y0 y1 y2 y3
      unfold spec_Halves.l0
      repeat' first
      | (with_reducible exact ih0 _ _ _ _)
      | (with_reducible exact LeO.refl _)
      | (with_reducible exact LeO.none _)
      | (with_reducible refine LeO.ite ?_ ?_)
      | (with_reducible refine LeO.bind ?_ (fun _ => ?_))
      | exact ih0 _ _ _ _
      | exact LeO.none _
      | refine LeO.ite ?_ ?_
      | refine LeO.bind ?_ (fun _ => ?_)
theorem spec_Halves.mono : ∀ a0 k, LeO (spec_Halves.f k a0) (spec_Halves.f (k + 1) a0) := by
  intro a0 k
  have ih0 := spec_Halves.mono_l k
  unfold spec_Halves.f
  repeat' first
      | (with_reducible exact ih0 _ _ _ _)
      | (with_reducible exact LeO.refl _)
      | (with_reducible exact LeO.none _)
      | (with_reducible refine LeO.ite ?_ ?_)
      | (with_reducible refine LeO.bind ?_ (fun _ => ?_))
      | exact ih0 _ _ _ _
      | exact LeO.none _
      | refine LeO.ite ?_ ?_
      | refine LeO.bind ?_ (fun _ => ?_)
set_option maxHeartbeats 8000000 in
set_option maxRecDepth 100000 in
theorem spec_Halves.calls (k : Nat) (A0 : Option Addr) (c0 : Nat) (l0 : List Int) (r1 : Int) (r2 : Int) (w : World) (hr0 : Kd.C (Kd.int .i64) w A0 l0.length l0) (hc0 : l0.length ≤ c0) (h : spec_Halves.f k l0 = some (r1, r2)) :
    Calls Tryd.prog 43 #[.slice A0 l0.length c0] w fun e w' => e = .returned (.tuple #[.int .u64 r1, .int .u64 r2]) ∧ Drawn0 w w' := by
  have HR0 := Aside0.mk hr0
  have HC0 := Aside0.mk hc0
  clear hr0 hc0
  have H : (spec_Halves.l0 k l0 0 0 0) = some (r1, r2) := h
  clear h
  have H' := Aside0.mk H
  clear H
  go_enter Tryd.func43, Tryd.ntmps43
  go_wp2
  go_loopg [2, 3, 5] k (fun kq v2 v3 v5 w' => ∃ (x2_1 : Int) (x3_1 : Int) (x5_1 : Int), v2 = .int .u64 x2_1 ∧ v3 = .int .u64 x3_1 ∧ v5 = .int .i64 x5_1 ∧ Aside0 (spec_Halves.l0 kq l0 x2_1 x3_1 x5_1 = some (r1, r2)) ∧ Aside0 (kq ≤ k) ∧ Drawn0 w w')
  case atStart => exact ⟨(0), (0), (0), (by first | rfl | (simp; done) | (simp [*]; done)), (by first | rfl | (simp; done) | (simp [*]; done)), (by first | rfl | (simp; done) | (simp [*]; done)), H', ⟨Nat.le_refl _⟩, by repeat (first | exact Drawn0.refl _ | apply Drawn0.step)⟩
  case round =>
    clear H'
    obtain ⟨x2_1, x3_1, x5_1, rfl, rfl, rfl, HA, HK1, ⟨m1, rfl⟩⟩ := hrel
    cases gk with
    | zero => exact absurd HA.out (by simp [spec_Halves.l0])
    | succ k1 =>
      have H := HA.out
      clear HA
      simp only [spec_Halves.l0] at H
      by_cases c2 : x5_1 < 64
      · rw [if_pos c2] at H
        have c2b0 : decide (x5_1 < 64) = true := decide_eq_true c2
        clear c2
        replace H := Option.bind_eq_some_iff.mp H
        obtain ⟨t274, A30, H⟩ := H
        replace H : (if t274 = true then (if 0 ≤ x5_1 then ((spec_Big_Bit.f l0 (wrap64 (64 + x5_1))).bind fun t275 => (if t275 = true then (spec_Halves.l0 k1 l0 (Go.bits .or .u64 x2_1 (shl .u64 1 x5_1)) (Go.bits .or .u64 x3_1 (shl .u64 1 x5_1)) (wrap64 (x5_1 + 1))) else (spec_Halves.l0 k1 l0 (Go.bits .or .u64 x2_1 (shl .u64 1 x5_1)) x3_1 (wrap64 (x5_1 + 1))))) else (none)) else ((spec_Big_Bit.f l0 (wrap64 (64 + x5_1))).bind fun t276 => (if t276 = true then (if 0 ≤ x5_1 then (spec_Halves.l0 k1 l0 x2_1 (Go.bits .or .u64 x3_1 (shl .u64 1 x5_1)) (wrap64 (x5_1 + 1))) else (none)) else (spec_Halves.l0 k1 l0 x2_1 x3_1 (wrap64 (x5_1 + 1)))))) = some (r1, r2) := H
        have A3 := Aside0.mk A30
        clear A30
        by_cases c4 : t274 = true
        · subst c4
          have H1 : (if 0 ≤ x5_1 then ((spec_Big_Bit.f l0 (wrap64 (64 + x5_1))).bind fun t275 => (if t275 = true then (spec_Halves.l0 k1 l0 (Go.bits .or .u64 x2_1 (shl .u64 1 x5_1)) (Go.bits .or .u64 x3_1 (shl .u64 1 x5_1)) (wrap64 (x5_1 + 1))) else (spec_Halves.l0 k1 l0 (Go.bits .or .u64 x2_1 (shl .u64 1 x5_1)) x3_1 (wrap64 (x5_1 + 1))))) else (none)) = some (r1, r2) := by rw [if_pos rfl] at H; exact H
          clear H
          have H := H1
          clear H1
          by_cases c5 : 0 ≤ x5_1
          · rw [if_pos c5] at H
            have c5b0 := eq_true c5
            have c5b1 : decide (0 ≤ x5_1) = true := decide_eq_true c5
            clear c5
            obtain ⟨ji6, hji6⟩ : ∃ j_ : Int, (shl .u64 1 x5_1) = j_ := ⟨_, rfl⟩
            replace H : ((spec_Big_Bit.f l0 (wrap64 (64 + x5_1))).bind fun t275 => (if t275 = true then (spec_Halves.l0 k1 l0 (Go.bits .or .u64 x2_1 (ji6)) (Go.bits .or .u64 x3_1 (ji6)) (wrap64 (x5_1 + 1))) else (spec_Halves.l0 k1 l0 (Go.bits .or .u64 x2_1 (ji6)) x3_1 (wrap64 (x5_1 + 1))))) = some (r1, r2) := by first | (rw [hji6] at H; exact H) | (simp only [hji6] at H ⊢; exact H)
            (try rw [hji6] at A3)
            have hji6_ : (IntKind.u64.wrap (1 * 2 ^ min x5_1.toNat 64)) = ji6 := hji6
            have hji6z : x5_1 ≤ 64 → (IntKind.u64.wrap (1 * 2 ^ x5_1.toNat)) = ji6 := shl_small hji6
            have hji6u : (IntKind.u64.wrap (2 ^ min x5_1.toNat 64)) = ji6 := by have h_ := hji6_; rw [Int.one_mul] at h_; exact h_
            have hji6v : x5_1 ≤ 64 → (IntKind.u64.wrap (2 ^ x5_1.toNat)) = ji6 := fun hle_ => by have h_ := hji6z hle_; rw [Int.one_mul] at h_; exact h_
            replace H := Option.bind_eq_some_iff.mp H
            obtain ⟨t275, A70, H⟩ := H
            replace H : (if t275 = true then (spec_Halves.l0 k1 l0 (Go.bits .or .u64 x2_1 (ji6)) (Go.bits .or .u64 x3_1 (ji6)) (wrap64 (x5_1 + 1))) else (spec_Halves.l0 k1 l0 (Go.bits .or .u64 x2_1 (ji6)) x3_1 (wrap64 (x5_1 + 1)))) = some (r1, r2) := H
            have A7 := Aside0.mk A70
            clear A70
            by_cases c8 : t275 = true
            · subst c8
              have H1 : (spec_Halves.l0 k1 l0 (Go.bits .or .u64 x2_1 (ji6)) (Go.bits .or .u64 x3_1 (ji6)) (wrap64 (x5_1 + 1))) = some (r1, r2) := by rw [if_pos rfl] at H; exact H
              clear H
              have H := H1
              clear H1
              have c9b0 := eq_true (of_decide_eq_true (by first | (with_reducible assumption) | assumption) : 0 ≤ x5_1)
              have H' := Aside0.mk H
              clear H
              go_wp2_with (first | ((with_reducible refine gate_callee (f := 20) rfl ?_); refine goesL_ (some 10) rfl rfl Tryd.func20 (by kernel_rfl) rfl #[.slice A0 l0.length c0, .int .i64 x5_1] rfl (by (try simp only [List.map_toArray, List.map_cons, List.map_nil]); first | done | rfl | (simp only [List.length_drop, List.length_take]; rfl)) ?_; (with_reducible refine (spec_Big_Bit.calls _ _ l0 x5_1 true _ ?side1 ?side2 A3.out).mono ?_); (case side1 => repeat (first | exact HR0.out | (with_reducible refine Kd.C_alloc ?_ _) | (with_reducible refine Kd.C_drewN ?_ _) | (with_reducible refine Kd.C_drew ?_))); (case side2 => exact HC0.out); rintro e w' ⟨rfl, ⟨nd, rfl⟩⟩; refine ⟨_, rfl, ?_⟩) | ((with_reducible refine gate_callee (f := 20) rfl ?_); refine goesL_ (some 18) rfl rfl Tryd.func20 (by kernel_rfl) rfl #[.slice A0 l0.length c0, .int .i64 (wrap64 (64 + x5_1))] rfl (by (try simp only [List.map_toArray, List.map_cons, List.map_nil]); first | done | rfl | (simp only [List.length_drop, List.length_take]; rfl)) ?_; (with_reducible refine (spec_Big_Bit.calls _ _ l0 (wrap64 (64 + x5_1)) true _ ?side1 ?side2 A7.out).mono ?_); (case side1 => repeat (first | exact HR0.out | (with_reducible refine Kd.C_alloc ?_ _) | (with_reducible refine Kd.C_drewN ?_ _) | (with_reducible refine Kd.C_drew ?_))); (case side2 => exact HC0.out); rintro e w' ⟨rfl, ⟨nd, rfl⟩⟩; refine ⟨_, rfl, ?_⟩))
              go_roundg k1
              case measure => have := HK1.out; omega
              case rel => exact ⟨(Go.bits .or .u64 x2_1 (ji6)), (Go.bits .or .u64 x3_1 (ji6)), (wrap64 (x5_1 + 1)), (by first | rfl | (simp; done) | (simp only [← hji6] <;> (first | rfl | simp)) | (simp [*]; done)), (by first | rfl | (simp; done) | (simp only [← hji6] <;> (first | rfl | simp)) | (simp [*]; done)), (by first | rfl | (simp; done) | (simp [*]; done)), H', ⟨by have := HK1.out; omega⟩, by repeat (first | exact Drawn0.refl _ | apply Drawn0.step)⟩
            · replace c8 := Bool.eq_false_iff.mpr c8
              subst c8
              have H1 : (spec_Halves.l0 k1 l0 (Go.bits .or .u64 x2_1 (ji6)) x3_1 (wrap64 (x5_1 + 1))) = some (r1, r2) := by rw [if_neg (show ¬ (false = true) by decide)] at H; exact H
              clear H
              have H := H1
              clear H1
              have H' := Aside0.mk H
              clear H
              go_wp2_with (first | ((with_reducible refine gate_callee (f := 20) rfl ?_); refine goesL_ (some 10) rfl rfl Tryd.func20 (by kernel_rfl) rfl #[.slice A0 l0.length c0, .int .i64 x5_1] rfl (by (try simp only [List.map_toArray, List.map_cons, List.map_nil]); first | done | rfl | (simp only [List.length_drop, List.length_take]; rfl)) ?_; (with_reducible refine (spec_Big_Bit.calls _ _ l0 x5_1 true _ ?side1 ?side2 A3.out).mono ?_); (case side1 => repeat (first | exact HR0.out | (with_reducible refine Kd.C_alloc ?_ _) | (with_reducible refine Kd.C_drewN ?_ _) | (with_reducible refine Kd.C_drew ?_))); (case side2 => exact HC0.out); rintro e w' ⟨rfl, ⟨nd, rfl⟩⟩; refine ⟨_, rfl, ?_⟩) | ((with_reducible refine gate_callee (f := 20) rfl ?_); refine goesL_ (some 18) rfl rfl Tryd.func20 (by kernel_rfl) rfl #[.slice A0 l0.length c0, .int .i64 (wrap64 (64 + x5_1))] rfl (by (try simp only [List.map_toArray, List.map_cons, List.map_nil]); first | done | rfl | (simp only [List.length_drop, List.length_take]; rfl)) ?_; (with_reducible refine (spec_Big_Bit.calls _ _ l0 (wrap64 (64 + x5_1)) false _ ?side1 ?side2 A7.out).mono ?_); (case side1 => repeat (first | exact HR0.out | (with_reducible refine Kd.C_alloc ?_ _) | (with_reducible refine Kd.C_drewN ?_ _) | (with_reducible refine Kd.C_drew ?_))); (case side2 => exact HC0.out); rintro e w' ⟨rfl, ⟨nd, rfl⟩⟩; refine ⟨_, rfl, ?_⟩))
              go_roundg k1
              case measure => have := HK1.out; omega
              case rel => exact ⟨(Go.bits .or .u64 x2_1 (ji6)), (x3_1), (wrap64 (x5_1 + 1)), (by first | rfl | (simp; done) | (simp only [← hji6] <;> (first | rfl | simp)) | (simp [*]; done)), (by first | rfl | (simp; done) | (simp [*]; done)), (by first | rfl | (simp; done) | (simp [*]; done)), H', ⟨by have := HK1.out; omega⟩, by repeat (first | exact Drawn0.refl _ | apply Drawn0.step)⟩
          · rw [if_neg c5] at H
            exact absurd H (by simp)
        · replace c4 := Bool.eq_false_iff.mpr c4
          subst c4
          have H1 : ((spec_Big_Bit.f l0 (wrap64 (64 + x5_1))).bind fun t276 => (if t276 = true then (if 0 ≤ x5_1 then (spec_Halves.l0 k1 l0 x2_1 (Go.bits .or .u64 x3_1 (shl .u64 1 x5_1)) (wrap64 (x5_1 + 1))) else (none)) else (spec_Halves.l0 k1 l0 x2_1 x3_1 (wrap64 (x5_1 + 1))))) = some (r1, r2) := by rw [if_neg (show ¬ (false = true) by decide)] at H; exact H
          clear H
          have H := H1
          clear H1
          replace H := Option.bind_eq_some_iff.mp H
          obtain ⟨t276, A110, H⟩ := H
          replace H : (if t276 = true then (if 0 ≤ x5_1 then (spec_Halves.l0 k1 l0 x2_1 (Go.bits .or .u64 x3_1 (shl .u64 1 x5_1)) (wrap64 (x5_1 + 1))) else (none)) else (spec_Halves.l0 k1 l0 x2_1 x3_1 (wrap64 (x5_1 + 1)))) = some (r1, r2) := H
          have A11 := Aside0.mk A110
          clear A110
          by_cases c12 : t276 = true
          · subst c12
            have H1 : (if 0 ≤ x5_1 then (spec_Halves.l0 k1 l0 x2_1 (Go.bits .or .u64 x3_1 (shl .u64 1 x5_1)) (wrap64 (x5_1 + 1))) else (none)) = some (r1, r2) := by rw [if_pos rfl] at H; exact H
            clear H
            have H := H1
            clear H1
            by_cases c13 : 0 ≤ x5_1
            · rw [if_pos c13] at H
              have c13b0 := eq_true c13
              have c13b1 : decide (0 ≤ x5_1) = true := decide_eq_true c13
              clear c13
              obtain ⟨ji14, hji14⟩ : ∃ j_ : Int, (shl .u64 1 x5_1) = j_ := ⟨_, rfl⟩
              replace H : (spec_Halves.l0 k1 l0 x2_1 (Go.bits .or .u64 x3_1 (ji14)) (wrap64 (x5_1 + 1))) = some (r1, r2) := by first | (rw [hji14] at H; exact H) | (simp only [hji14] at H ⊢; exact H)
              (try rw [hji14] at A3)
              (try rw [hji14] at A11)
              have hji14_ : (IntKind.u64.wrap (1 * 2 ^ min x5_1.toNat 64)) = ji14 := hji14
              have hji14z : x5_1 ≤ 64 → (IntKind.u64.wrap (1 * 2 ^ x5_1.toNat)) = ji14 := shl_small hji14
              have hji14u : (IntKind.u64.wrap (2 ^ min x5_1.toNat 64)) = ji14 := by have h_ := hji14_; rw [Int.one_mul] at h_; exact h_
              have hji14v : x5_1 ≤ 64 → (IntKind.u64.wrap (2 ^ x5_1.toNat)) = ji14 := fun hle_ => by have h_ := hji14z hle_; rw [Int.one_mul] at h_; exact h_
              have H' := Aside0.mk H
              clear H
              go_wp2_with (first | ((with_reducible refine gate_callee (f := 20) rfl ?_); refine goesL_ (some 10) rfl rfl Tryd.func20 (by kernel_rfl) rfl #[.slice A0 l0.length c0, .int .i64 x5_1] rfl (by (try simp only [List.map_toArray, List.map_cons, List.map_nil]); first | done | rfl | (simp only [List.length_drop, List.length_take]; rfl)) ?_; (with_reducible refine (spec_Big_Bit.calls _ _ l0 x5_1 false _ ?side1 ?side2 A3.out).mono ?_); (case side1 => repeat (first | exact HR0.out | (with_reducible refine Kd.C_alloc ?_ _) | (with_reducible refine Kd.C_drewN ?_ _) | (with_reducible refine Kd.C_drew ?_))); (case side2 => exact HC0.out); rintro e w' ⟨rfl, ⟨nd, rfl⟩⟩; refine ⟨_, rfl, ?_⟩) | ((with_reducible refine gate_callee (f := 20) rfl ?_); refine goesL_ (some 18) rfl rfl Tryd.func20 (by kernel_rfl) rfl #[.slice A0 l0.length c0, .int .i64 (wrap64 (64 + x5_1))] rfl (by (try simp only [List.map_toArray, List.map_cons, List.map_nil]); first | done | rfl | (simp only [List.length_drop, List.length_take]; rfl)) ?_; (with_reducible refine (spec_Big_Bit.calls _ _ l0 (wrap64 (64 + x5_1)) true _ ?side1 ?side2 A11.out).mono ?_); (case side1 => repeat (first | exact HR0.out | (with_reducible refine Kd.C_alloc ?_ _) | (with_reducible refine Kd.C_drewN ?_ _) | (with_reducible refine Kd.C_drew ?_))); (case side2 => exact HC0.out); rintro e w' ⟨rfl, ⟨nd, rfl⟩⟩; refine ⟨_, rfl, ?_⟩))
              go_roundg k1
              case measure => have := HK1.out; omega
              case rel => exact ⟨(x2_1), (Go.bits .or .u64 x3_1 (ji14)), (wrap64 (x5_1 + 1)), (by first | rfl | (simp; done) | (simp [*]; done)), (by first | rfl | (simp; done) | (simp only [← hji14] <;> (first | rfl | simp)) | (simp [*]; done)), (by first | rfl | (simp; done) | (simp [*]; done)), H', ⟨by have := HK1.out; omega⟩, by repeat (first | exact Drawn0.refl _ | apply Drawn0.step)⟩
            · rw [if_neg c13] at H
              exact absurd H (by simp)
          · replace c12 := Bool.eq_false_iff.mpr c12
            subst c12
            have H1 : (spec_Halves.l0 k1 l0 x2_1 x3_1 (wrap64 (x5_1 + 1))) = some (r1, r2) := by rw [if_neg (show ¬ (false = true) by decide)] at H; exact H
            clear H
            have H := H1
            clear H1
            have H' := Aside0.mk H
            clear H
            go_wp2_with (first | ((with_reducible refine gate_callee (f := 20) rfl ?_); refine goesL_ (some 10) rfl rfl Tryd.func20 (by kernel_rfl) rfl #[.slice A0 l0.length c0, .int .i64 x5_1] rfl (by (try simp only [List.map_toArray, List.map_cons, List.map_nil]); first | done | rfl | (simp only [List.length_drop, List.length_take]; rfl)) ?_; (with_reducible refine (spec_Big_Bit.calls _ _ l0 x5_1 false _ ?side1 ?side2 A3.out).mono ?_); (case side1 => repeat (first | exact HR0.out | (with_reducible refine Kd.C_alloc ?_ _) | (with_reducible refine Kd.C_drewN ?_ _) | (with_reducible refine Kd.C_drew ?_))); (case side2 => exact HC0.out); rintro e w' ⟨rfl, ⟨nd, rfl⟩⟩; refine ⟨_, rfl, ?_⟩) | ((with_reducible refine gate_callee (f := 20) rfl ?_); refine goesL_ (some 18) rfl rfl Tryd.func20 (by kernel_rfl) rfl #[.slice A0 l0.length c0, .int .i64 (wrap64 (64 + x5_1))] rfl (by (try simp only [List.map_toArray, List.map_cons, List.map_nil]); first | done | rfl | (simp only [List.length_drop, List.length_take]; rfl)) ?_; (with_reducible refine (spec_Big_Bit.calls _ _ l0 (wrap64 (64 + x5_1)) false _ ?side1 ?side2 A11.out).mono ?_); (case side1 => repeat (first | exact HR0.out | (with_reducible refine Kd.C_alloc ?_ _) | (with_reducible refine Kd.C_drewN ?_ _) | (with_reducible refine Kd.C_drew ?_))); (case side2 => exact HC0.out); rintro e w' ⟨rfl, ⟨nd, rfl⟩⟩; refine ⟨_, rfl, ?_⟩))
            go_roundg k1
            case measure => have := HK1.out; omega
            case rel => exact ⟨(x2_1), (x3_1), (wrap64 (x5_1 + 1)), (by first | rfl | (simp; done) | (simp [*]; done)), (by first | rfl | (simp; done) | (simp [*]; done)), (by first | rfl | (simp; done) | (simp [*]; done)), H', ⟨by have := HK1.out; omega⟩, by repeat (first | exact Drawn0.refl _ | apply Drawn0.step)⟩
      · rw [if_neg c2] at H
        have c2b0 : decide (x5_1 < 64) = false := decide_eq_false c2
        clear c2
        simp only [Option.some.injEq, Prod.mk.injEq] at H
        obtain ⟨rfl, rfl⟩ := H
        go_wp2
        go_ret2
        exact ⟨by first | rfl | (simp; done) | (simp [*]; done), by repeat (first | exact Drawn0.refl _ | apply Drawn0.step)⟩
/-! ### laws_wideIs: function 14 -/
def laws_wideIs.f (k : Nat) (a0_0 : Int) (a0_1 : Int) (l1 : List Int) : Option (Bool) := (spec_Halves.f k l1).bind fun bt278 => (some (a0_0 == bt278.1 && (a0_1 == bt278.2)))
theorem laws_wideIs.mono : ∀ a0 a1 a2 k, LeO (laws_wideIs.f k a0 a1 a2) (laws_wideIs.f (k + 1) a0 a1 a2) := by
  intro a0 a1 a2 k
  unfold laws_wideIs.f
  repeat' first
      | (with_reducible exact spec_Halves.mono _ _)
      | (with_reducible exact LeO.refl _)
      | (with_reducible exact LeO.none _)
      | (with_reducible refine LeO.ite ?_ ?_)
      | (with_reducible refine LeO.bind ?_ (fun _ => ?_))
      | exact spec_Halves.mono _ _
      | exact LeO.none _
      | refine LeO.ite ?_ ?_
      | refine LeO.bind ?_ (fun _ => ?_)
set_option maxHeartbeats 8000000 in
set_option maxRecDepth 100000 in
theorem laws_wideIs.calls (k : Nat) (a0_0 : Int) (a0_1 : Int) (A1 : Option Addr) (c1 : Nat) (l1 : List Int) (r : Bool) (w : World) (hr1 : Kd.C (Kd.int .i64) w A1 l1.length l1) (hc1 : l1.length ≤ c1) (h : laws_wideIs.f k a0_0 a0_1 l1 = some r) :
    Calls Tryd.prog 14 #[.agg #[.int .u64 a0_0, .int .u64 a0_1], .slice A1 l1.length c1] w fun e w' => e = .returned (.bool r) ∧ Below w.heap.size w w' := by
  have hu24 := Tryd.underlying24
  have HR1 := Aside0.mk hr1
  have HC1 := Aside0.mk hc1
  clear hr1 hc1
  have HB := Aside0.mk (Below.refl w.heap.size w)
  have H : ((spec_Halves.f k l1).bind fun bt278 => (some (a0_0 == bt278.1 && (a0_1 == bt278.2)))) = some r := h
  clear h
  replace H := Option.bind_eq_some_iff.mp H
  obtain ⟨⟨t278, t279⟩, A30, H⟩ := H
  replace H : (some (a0_0 == t278 && (a0_1 == t279))) = some r := H
  have A3 := Aside0.mk A30
  clear A30
  obtain rfl := Option.some.inj H
  go_enter Tryd.func14, Tryd.ntmps14
  go_wp2_with (first | ((with_reducible refine gate_dst (N := 2) rfl ?_); refine box_event ?hg (N := 2) ?hd (cs := #[.int .u64 a0_0, .int .u64 a0_1]) (t := 24) ?hr ?_; (case hd => rfl); (case hg => rfl); (case hr => first | (go_simp; done) | (go_simp; rfl)); intro gb277 hg w4 hbox hb; have n0_ := Aside0.mk (below_step (by repeat (first | (with_reducible first | exact HB.out | apply below_alloc | apply pw_below_drewN | apply below_drew1) | exact HB.out)) hb); have n1_ := Aside0.mk (hbox); have n2_ := Aside0.mk ((by rw [hg]; exact (below_size (by repeat (first | (with_reducible first | exact HB.out | apply below_alloc | apply pw_below_drewN | apply below_drew1) | exact HB.out))) : w.heap.size ≤ gb277)); have n3_ := Aside0.mk ((by rw [hg]; exact (below_size (by repeat (first | (with_reducible first | exact HB.out | apply below_alloc | apply pw_below_drewN | apply below_drew1) | exact HB.out))) : w.heap.size ≤ gb277)); clear HB; have HB := n0_; have BK277 := n1_; have GW277 := n2_; have GE277 := n3_; clear n0_ n1_ n2_ n3_; clear hb hbox hg) | ((with_reducible refine gate_callee (f := 43) rfl ?_); refine goesL_ (some 9) rfl rfl Tryd.func43 (by kernel_rfl) rfl #[.slice A1 l1.length c1] rfl (by (try simp only [List.map_toArray, List.map_cons, List.map_nil]); first | done | rfl | (simp only [List.length_drop, List.length_take]; rfl)) ?_; (with_reducible refine (spec_Halves.calls k _ _ l1 t278 t279 _ ?side1 ?side2 A3.out).mono ?_); (case side1 => repeat (first | exact (Kd.C_below HR1.out HB.out) | (with_reducible refine Kd.C_alloc ?_ _) | (with_reducible refine Kd.C_drewN ?_ _) | (with_reducible refine Kd.C_drew ?_))); (case side2 => exact HC1.out); rintro e w' ⟨rfl, ⟨nd, rfl⟩⟩; refine ⟨_, rfl, ?_⟩; have hcz5_0 : w4.cell? ⟨gb277, 0, none⟩ = some (.int .u64 a0_0) := (blk_cell BK277.out 0).trans rfl; have hcz5_1 : w4.cell? ⟨gb277, 1, none⟩ = some (.int .u64 a0_1) := (blk_cell BK277.out 1).trans rfl; have hfz5_0 := blk_frozen BK277.out 0; have hfz5_1 := blk_frozen BK277.out 1))
  go_ret
  exact ⟨by first | rfl | (simp [errW_none, errW_some] <;> rfl) | (simp [*, errW_none, errW_some] <;> rfl), by repeat (first | (with_reducible first | exact HB.out | apply below_alloc | apply pw_below_drewN | apply below_drew1 | refine below_set ?_ GE277.out) | exact HB.out)⟩
/-! ### impl_wide: function 40 -/
def impl_wide.f (a0_0 : Int) (a0_1 : Int) : Option (Int × Int) := some (a0_0, a0_1)
set_option maxHeartbeats 8000000 in
set_option maxRecDepth 100000 in
theorem impl_wide.calls (a0_0 : Int) (a0_1 : Int) (r1 : Int) (r2 : Int) (w : World) (h : impl_wide.f a0_0 a0_1 = some (r1, r2)) :
    Calls Tryd.prog 40 #[.agg #[.int .u64 a0_0, .int .u64 a0_1]] w fun e w' => e = .returned (.agg #[.int .u64 r1, .int .u64 r2]) ∧ Below w.heap.size w w' := by
  have hu65 := Tryd.underlying65
  have hu24 := Tryd.underlying24
  have HB := Aside0.mk (Below.refl w.heap.size w)
  have H : (some (a0_0, a0_1)) = some (r1, r2) := h
  clear h
  simp only [Option.some.injEq, Prod.mk.injEq] at H
  obtain ⟨rfl, rfl⟩ := H
  go_enter Tryd.func40, Tryd.ntmps40
  go_wp2_with (first | ((with_reducible refine gate_dst (N := 1) rfl ?_); refine box_event ?hg (N := 1) ?hd (cs := #[.int .u64 a0_0, .int .u64 a0_1]) (t := 65) ?hr ?_; (case hd => rfl); (case hg => rfl); (case hr => first | (go_simp; done) | (go_simp; rfl)); intro gb280 hg w2 hbox hb; have n0_ := Aside0.mk (below_step (by repeat (first | (with_reducible first | exact HB.out | apply below_alloc | apply pw_below_drewN | apply below_drew1) | exact HB.out)) hb); have n1_ := Aside0.mk (hbox); have n2_ := Aside0.mk ((by rw [hg]; exact (below_size (by repeat (first | (with_reducible first | exact HB.out | apply below_alloc | apply pw_below_drewN | apply below_drew1) | exact HB.out))) : w.heap.size ≤ gb280)); have n3_ := Aside0.mk ((by rw [hg]; exact (below_size (by repeat (first | (with_reducible first | exact HB.out | apply below_alloc | apply pw_below_drewN | apply below_drew1) | exact HB.out))) : w.heap.size ≤ gb280)); clear HB; have HB := n0_; have BK280 := n1_; have GW280 := n2_; have GE280 := n3_; clear n0_ n1_ n2_ n3_; clear hb hbox hg) | ((with_reducible refine gate_dst (N := 2) rfl ?_); refine box_event ?hg (N := 2) ?hd (cs := #[.int .u64 0, .int .u64 0]) (t := 24) ?hr ?_; (case hd => rfl); (case hg => rfl); (case hr => first | (go_simp; done) | (go_simp; rfl)); intro gb281 hg w3 hbox hb; have n0_ := Aside0.mk (blk_below (g := gb280) (o := .cells #[.int .u64 a0_0, .int .u64 a0_1] 65 (0, 0)) (by exact BK280.out) hb); have n1_ := Aside0.mk (below_step (by repeat (first | (with_reducible first | exact HB.out | apply below_alloc | apply pw_below_drewN | apply below_drew1 | refine below_set ?_ GE280.out) | exact HB.out)) hb); have n2_ := Aside0.mk (hbox); have n3_ := Aside0.mk ((by rw [hg]; exact (below_size (by repeat (first | (with_reducible first | exact HB.out | apply below_alloc | apply pw_below_drewN | apply below_drew1 | refine below_set ?_ GE280.out) | exact HB.out))) : w.heap.size ≤ gb281)); have n4_ := Aside0.mk ((by rw [hg]; exact (below_size (by repeat (first | (with_reducible first | exact HB.out | apply below_alloc | apply pw_below_drewN | apply below_drew1 | refine below_set ?_ GE280.out) | exact HB.out))) : w.heap.size ≤ gb281)); have n5_ := Aside0.mk ((by rw [hg]; exact Nat.ne_of_lt (blk_lt (g := gb280) (o := .cells #[.int .u64 a0_0, .int .u64 a0_1] 65 (0, 0)) (by exact BK280.out)) : gb280 ≠ gb281)); have n6_ := Aside0.mk ((by rw [hg]; exact Nat.ne_of_gt (blk_lt (g := gb280) (o := .cells #[.int .u64 a0_0, .int .u64 a0_1] 65 (0, 0)) (by exact BK280.out)) : gb281 ≠ gb280)); clear BK280; clear HB; have BK280 := n0_; have HB := n1_; have BK281 := n2_; have GW281 := n3_; have GE281 := n4_; have NB280_281 := n5_; have NB281_280 := n6_; clear n0_ n1_ n2_ n3_ n4_ n5_ n6_; clear hb hbox hg; have hnb4 := NB280_281.out; have hnc4 := NB281_280.out; have hcz5_0 : w3.cell? ⟨gb280, 0, none⟩ = some (.int .u64 a0_0) := (blk_cell BK280.out 0).trans rfl; have hcz5_1 : w3.cell? ⟨gb280, 1, none⟩ = some (.int .u64 a0_1) := (blk_cell BK280.out 1).trans rfl; have hfz5_0 := blk_frozen BK280.out 0; have hfz5_1 := blk_frozen BK280.out 1; have hcz6_0 : w3.cell? ⟨gb281, 0, none⟩ = some (.int .u64 0) := (blk_cell BK281.out 0).trans rfl; have hcz6_1 : w3.cell? ⟨gb281, 1, none⟩ = some (.int .u64 0) := (blk_cell BK281.out 1).trans rfl; have hfz6_0 := blk_frozen BK281.out 0; have hfz6_1 := blk_frozen BK281.out 1))
  refine bodyPost_ret (results_cell_row rfl _ _ gb281 24 #[.int .u64 a0_0, .int .u64 a0_1] (0, 0) _ rfl (by (with_reducible repeat (first | refine blk_drewN ?_ _ | refine blk_drew ?_ | refine blk_alloc ?_ _)); refine blk_put (cs := #[.int .u64 a0_0, .int .u64 0]) ?_ 1 _ rfl; (with_reducible repeat (first | refine blk_drewN ?_ _ | refine blk_drew ?_ | refine blk_alloc ?_ _)); refine blk_put (cs := #[.int .u64 0, .int .u64 0]) ?_ 0 _ rfl; (with_reducible repeat (first | refine blk_drewN ?_ _ | refine blk_drew ?_ | refine blk_alloc ?_ _)); exact BK281.out) Tryd.underlying24 rfl (by kernel_rfl)) rfl ?_
  exact ⟨by first | rfl | (simp [errW_none, errW_some] <;> rfl) | (simp [*, errW_none, errW_some] <;> rfl), by repeat (first | (with_reducible first | exact HB.out | apply below_alloc | apply pw_below_drewN | apply below_drew1 | refine below_set ?_ GE280.out | refine below_set ?_ GE281.out) | exact HB.out)⟩
end Go.Proofs.YtiifnofghicnaaaDoor.PAll
