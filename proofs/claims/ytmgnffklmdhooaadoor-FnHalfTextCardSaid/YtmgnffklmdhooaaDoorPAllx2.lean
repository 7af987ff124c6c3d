/- Printed by the kit's print.py, called for several laws at once: functions as plain Lean, and the walks' contracts. -/
import Derived.Test.YtmgnffklmdhooaaDoorPAllx0
import Derived.Test.YtmgnffklmdhooaaDoorPAllx1
namespace Go.Proofs.YtmgnffklmdhooaaDoor.PAll
open Go.RowKit Go.Proofs.YtmgnffklmdhooaaDoorW.PrintWords Go.Proofs.YtmgnffklmdhooaaDoorW.PrintLast Go.Proofs.YtmgnffklmdhooaaDoorW.PrintMore
attribute [local go_sem] max2_int min2_int max_two min_two max_three min_three max_four min_four   -- for this text's walks alone
set_option linter.unusedVariables false
set_option linter.unusedSimpArgs false

/-! ### spec_ReadHalfDigits: function 7 -/
mutual
def spec_ReadHalfDigits.l0 : Nat → ByteArray → Int → Int → Option (List Int × Bool)
  | 0, _, _, _ => none
  | k + 1, x0, x4, x5 => if x5 < (x0.size : Int) then (if 0 ≤ x5 then (if (bt x0 x5) = 46 then (spec_ReadHalfDigits.j1 k x0 x4 x5 (x4 == (x0.size : Int))) else (spec_ReadHalfDigits.j1 k x0 x4 x5 false)) else (none)) else (if x4 = 0 then (spec_ReadHalfDigits.j2 k x0 x4 (mx (wrap64 ((wrap64 ((x0.size : Int) - x4)) - 1)) 0) true) else (if x4 = (wrap64 ((x0.size : Int) - 1)) then (spec_ReadHalfDigits.j2 k x0 x4 (mx (wrap64 ((wrap64 ((x0.size : Int) - x4)) - 1)) 0) true) else (if (mx (wrap64 ((wrap64 ((x0.size : Int) - x4)) - 1)) 0) > 200 then (spec_ReadHalfDigits.j2 k x0 x4 (mx (wrap64 ((wrap64 ((x0.size : Int) - x4)) - 1)) 0) true) else (if 0 < (x0.size : Int) then (if (bt x0 0) = 48 then (if x4 > 1 then (spec_ReadHalfDigits.j2 k x0 x4 (mx (wrap64 ((wrap64 ((x0.size : Int) - x4)) - 1)) 0) true) else (if (mx (wrap64 ((wrap64 ((x0.size : Int) - x4)) - 1)) 0) > 0 then (if 0 ≤ (wrap64 ((x0.size : Int) - 1)) then (if (wrap64 ((x0.size : Int) - 1)) < (x0.size : Int) then (spec_ReadHalfDigits.j2 k x0 x4 (mx (wrap64 ((wrap64 ((x0.size : Int) - x4)) - 1)) 0) ((bt x0 (wrap64 ((x0.size : Int) - 1))) == 48)) else (none)) else (none)) else (spec_ReadHalfDigits.j2 k x0 x4 (mx (wrap64 ((wrap64 ((x0.size : Int) - x4)) - 1)) 0) false))) else (if (mx (wrap64 ((wrap64 ((x0.size : Int) - x4)) - 1)) 0) > 0 then (if 0 ≤ (wrap64 ((x0.size : Int) - 1)) then (if (wrap64 ((x0.size : Int) - 1)) < (x0.size : Int) then (spec_ReadHalfDigits.j2 k x0 x4 (mx (wrap64 ((wrap64 ((x0.size : Int) - x4)) - 1)) 0) ((bt x0 (wrap64 ((x0.size : Int) - 1))) == 48)) else (none)) else (none)) else (spec_ReadHalfDigits.j2 k x0 x4 (mx (wrap64 ((wrap64 ((x0.size : Int) - x4)) - 1)) 0) false))) else (none)))))
def spec_ReadHalfDigits.j1 : Nat → ByteArray → Int → Int → Bool → Option (List Int × Bool)
  | 0, _, _, _, _ => none
  | k + 1, x0, x4, x5, x26 => if x26 = true then (spec_ReadHalfDigits.l0 k x0 x5 (wrap64 (x5 + 1))) else (if 0 ≤ x5 then (if x5 < (x0.size : Int) then (if (bt x0 x5) < 48 then (some (([] : List Int), false)) else (if (bt x0 x5) > 57 then (some (([] : List Int), false)) else (spec_ReadHalfDigits.l0 k x0 x4 (wrap64 (x5 + 1))))) else (none)) else (none))
def spec_ReadHalfDigits.j2 : Nat → ByteArray → Int → Int → Bool → Option (List Int × Bool)
  | 0, _, _, _, _ => none
  | k + 1, x0, x4, x6, x77 => if x77 = true then (some (([] : List Int), false)) else (if 0 ≤ (wrap64 (200 - x6)) then (if (wrap64 (200 - x6) : Int).toNat ≤ 35184372088832 then (spec_ReadHalfDigits.l1 k x0 x4 (List.replicate (wrap64 (200 - x6) : Int).toNat 0) (wrap64 ((x0.size : Int) - 1))) else (none)) else (none))
def spec_ReadHalfDigits.l1 : Nat → ByteArray → Int → List Int → Int → Option (List Int × Bool)
  | 0, _, _, _, _ => none
  | k + 1, x0, x4, x7, x8 => if x8 ≥ 0 then (if x8 = x4 then (spec_ReadHalfDigits.l1 k x0 x4 x7 (wrap64 (x8 - 1))) else (if 0 ≤ x8 then (if x8 < (x0.size : Int) then (if x7.length < 17592186044416 then (spec_ReadHalfDigits.l1 k x0 x4 (x7 ++ [((bt x0 x8) - 48) % 256]) (wrap64 (x8 - 1))) else (none)) else (none)) else (none))) else ((spec_halfTrim.f k x7).bind fun t113 => (some (t113, true)))
end
def spec_ReadHalfDigits.f (k : Nat) (a0 : ByteArray) : Option (List Int × Bool) := spec_ReadHalfDigits.l0 k a0 (a0.size : Int) 0
theorem spec_ReadHalfDigits.mono_l : ∀ k, (∀ y0 y1 y2, LeO (spec_ReadHalfDigits.l0 k y0 y1 y2) (spec_ReadHalfDigits.l0 (k + 1) y0 y1 y2)) ∧ (∀ y0 y1 y2 y3, LeO (spec_ReadHalfDigits.j1 k y0 y1 y2 y3) (spec_ReadHalfDigits.j1 (k + 1) y0 y1 y2 y3)) ∧ (∀ y0 y1 y2 y3, LeO (spec_ReadHalfDigits.j2 k y0 y1 y2 y3) (spec_ReadHalfDigits.j2 (k + 1) y0 y1 y2 y3)) ∧ (∀ y0 y1 y2 y3, LeO (spec_ReadHalfDigits.l1 k y0 y1 y2 y3) (spec_ReadHalfDigits.l1 (k + 1) y0 y1 y2 y3))
  | 0 => ⟨fun _ _ _ r h => by simp [spec_ReadHalfDigits.l0] at h, fun _ _ _ _ r h => by simp [spec_ReadHalfDigits.j1] at h, fun _ _ _ _ r h => by simp [spec_ReadHalfDigits.j2] at h, fun _ _ _ _ r h => by simp [spec_ReadHalfDigits.l1] at h⟩
  | k + 1 => by
    obtain ⟨ih0, ih1, ih2, ih3⟩ := spec_ReadHalfDigits.mono_l k
    refine ⟨?_, ?_, ?_, ?_⟩
    · intro y0 y1 y2
      unfold spec_ReadHalfDigits.l0
      repeat' first
      | (with_reducible exact ih0 _ _ _)
      | (with_reducible exact ih1 _ _ _ _)
      | (with_reducible exact ih2 _ _ _ _)
      | (with_reducible exact ih3 _ _ _ _)
      | (with_reducible exact spec_halfTrim.mono _ _)
      | (with_reducible exact LeO.refl _)
      | (with_reducible exact LeO.none _)
      | (with_reducible refine LeO.ite ?_ ?_)
      | (with_reducible refine LeO.bind ?_ (fun _ => ?_))
      | exact ih0 _ _ _
      | exact ih1 _ _ _ _
      | exact ih2 _ _ _ _
      | exact ih3 _ _ _ _
      | exact spec_halfTrim.mono _ _
      | exact LeO.none _
      | refine LeO.ite ?_ ?_
      | refine LeO.bind ?_ (fun _ => ?_)
    · intro y0 y1 y2 y3
      unfold spec_ReadHalfDigits.j1
      repeat' first
      | (with_reducible exact ih0 _ _ _)
      | (with_reducible exact ih1 _ _ _ _)
      | (with_reducible exact ih2 _ _ _ _)
      | (with_reducible exact ih3 _ _ _ _)
      | (with_reducible exact spec_halfTrim.mono _ _)
      | (with_reducible exact LeO.refl _)
      | (with_reducible exact LeO.none _)
      | (with_reducible refine LeO.ite ?_ ?_)
      | (with_reducible refine LeO.bind ?_ (fun _ => ?_))
      | exact ih0 _ _ _
      | exact ih1 _ _ _ _
      | exact ih2 _ _ _ _
      | exact ih3 _ _ _ _
      | exact spec_halfTrim.mono _ _
      | exact LeO.none _
      | refine LeO.ite ?_ ?_
      | refine LeO.bind ?_ (fun _ => ?_)
    · intro y0 y1 y2 y3
      unfold spec_ReadHalfDigits.j2
      repeat' first
      | (with_reducible exact ih0 _ _ _)
      | (with_reducible exact ih1 _ _ _ _)
      | (with_reducible exact ih2 _ _ _ _)
      | (with_reducible exact ih3 _ _ _ _)
      | (with_reducible exact spec_halfTrim.mono _ _)
      | (with_reducible exact LeO.refl _)
      | (with_reducible exact LeO.none _)
      | (with_reducible refine LeO.ite ?_ ?_)
      | (with_reducible refine LeO.bind ?_ (fun _ => ?_))
      | exact ih0 _ _ _
      | exact ih1 _ _ _ _
      | exact ih2 _ _ _ _
      | exact ih3 _ _ _ _
      | exact spec_halfTrim.mono _ _
      | exact LeO.none _
      | refine LeO.ite ?_ ?_
      | refine LeO.bind ?_ (fun _ => ?_)
    · intro y0 y1 y2 y3
      unfold spec_ReadHalfDigits.l1
      repeat' first
      | (with_reducible exact ih0 _ _ _)
      | (with_reducible exact ih1 _ _ _ _)
      | (with_reducible exact ih2 _ _ _ _)
      | (with_reducible exact ih3 _ _ _ _)
      | (with_reducible exact spec_halfTrim.mono _ _)
      | (with_reducible exact LeO.refl _)
      | (with_reducible exact LeO.none _)
      | (with_reducible refine LeO.ite ?_ ?_)
      | (with_reducible refine LeO.bind ?_ (fun _ => ?_))
      | exact ih0 _ _ _
      | exact ih1 _ _ _ _
      | exact ih2 _ _ _ _
      | exact ih3 _ _ _ _
      | exact spec_halfTrim.mono _ _
      | exact LeO.none _
      | refine LeO.ite ?_ ?_
      | refine LeO.bind ?_ (fun _ => ?_)
theorem spec_ReadHalfDigits.mono : ∀ a0 k, LeO (spec_ReadHalfDigits.f k a0) (spec_ReadHalfDigits.f (k + 1) a0) := by
  intro a0 k
  obtain ⟨ih0, ih1, ih2, ih3⟩ := spec_ReadHalfDigits.mono_l k
  unfold spec_ReadHalfDigits.f
  repeat' first
      | (with_reducible exact ih0 _ _ _)
      | (with_reducible exact ih1 _ _ _ _)
      | (with_reducible exact ih2 _ _ _ _)
      | (with_reducible exact ih3 _ _ _ _)
      | (with_reducible exact spec_halfTrim.mono _ _)
      | (with_reducible exact LeO.refl _)
      | (with_reducible exact LeO.none _)
      | (with_reducible refine LeO.ite ?_ ?_)
      | (with_reducible refine LeO.bind ?_ (fun _ => ?_))
      | exact ih0 _ _ _
      | exact ih1 _ _ _ _
      | exact ih2 _ _ _ _
      | exact ih3 _ _ _ _
      | exact spec_halfTrim.mono _ _
      | exact LeO.none _
      | refine LeO.ite ?_ ?_
      | refine LeO.bind ?_ (fun _ => ?_)
set_option maxHeartbeats 8000000 in
set_option maxRecDepth 100000 in
theorem spec_ReadHalfDigits.calls (k : Nat) (a0 : ByteArray) (r1 : List Int) (r2 : Bool) (w : World) (h : spec_ReadHalfDigits.f k a0 = some (r1, r2)) :
    Calls Tryd.prog 7 #[.string a0] w fun e w' => ∃ v0_ : Value, e = .returned (.tuple #[v0_, .bool r2]) ∧ Kd.V (Kd.int .i64) 3 w' w.heap.size (fun k_ => (w.heap.size ≤ k_)) v0_ r1 ∧ Below w.heap.size w w' := by
  have HB := Aside0.mk (Below.refl w.heap.size w)
  have H : (spec_ReadHalfDigits.l0 k a0 (a0.size : Int) 0) = some (r1, r2) := h
  clear h
  have H' := Aside0.mk H
  clear H
  go_enter Tryd.func7, Tryd.ntmps7
  go_wp2
  go_loopg [4, 5] k (fun kq v4 v5 w' => ∃ (x4_1 : Int) (x5_1 : Int), v4 = .int .i64 x4_1 ∧ v5 = .int .i64 x5_1 ∧ Aside0 (spec_ReadHalfDigits.l0 kq a0 x4_1 x5_1 = some (r1, r2)) ∧ Aside0 (kq ≤ k) ∧ Aside0 (Below w.heap.size w w'))
  case atStart => exact ⟨((a0.size : Int)), (0), (by first | rfl | (simp; done) | (simp [*]; done)), (by first | rfl | (simp; done) | (simp [*]; done)), H', ⟨Nat.le_refl _⟩, ⟨by repeat (first | (with_reducible first | exact HB.out | apply below_alloc | apply pw_below_drewN | apply below_drew1) | exact HB.out)⟩⟩
  case round =>
    clear H'
    obtain ⟨x4_1, x5_1, rfl, rfl, HA, HK1, HB⟩ := hrel
    cases gk with
    | zero => exact absurd HA.out (by simp [spec_ReadHalfDigits.l0])
    | succ k1 =>
      have H := HA.out
      clear HA
      simp only [spec_ReadHalfDigits.l0] at H
      by_cases c2 : x5_1 < (a0.size : Int)
      · rw [if_pos c2] at H
        have c2b0 : decide (x5_1 < (a0.size : Int)) = true := decide_eq_true c2
        clear c2
        have HC3 := Aside0.mk H
        clear H
        go_upto_region 5 with (fail)
        go_cut [26] (fun v26 wc => ∃ (kq : Nat) (x26_2 : Bool), v26 = .bool x26_2 ∧ Aside0 (spec_ReadHalfDigits.j1 kq a0 x4_1 x5_1 x26_2 = some (r1, r2)) ∧ Aside0 (kq ≤ k1) ∧ Aside0 (Below w.heap.size w wc))
        case first =>
          have H := HC3.out
          clear HC3
          by_cases c4 : 0 ≤ x5_1
          · rw [if_pos c4] at H
            have c4b0 : decide (0 ≤ x5_1) = true := decide_eq_true c4
            clear c4
            (first | rw [c4b0] | (simp only [i64_w, i32_w]; rw [c4b0]) | skip)
            by_cases c6 : (bt a0 x5_1) = 46
            · rw [if_pos c6] at H
              have c6b0 : ((bt a0 x5_1) == 46) = true := beq_iff_eq.mpr c6
              have c6b1 : ((bt a0 x5_1) != 46) = false := bne_eq_false_iff_eq.mpr c6
              clear c6
              have H' := Aside0.mk H
              clear H
              have p5 : 0 ≤ (x5_1 : Int) := of_decide_eq_true (by first | (with_reducible assumption) | assumption)
              have q5 : x5_1 < (a0.size : Int) := of_decide_eq_true (by first | (with_reducible assumption) | assumption)
              have hx5 := bt_at a0 x5_1
              replace p5 := eq_true p5
              replace q5 := eq_true q5
              go_wp2
              go_meet
              case rel => exact ⟨_, ((x4_1 == (a0.size : Int))), (by first | rfl | (simp; done) | (simp [*]; done)), H', ⟨by have := HK1.out; first | omega | exact Nat.le_refl _⟩, ⟨by repeat (first | (with_reducible first | exact HB.out | apply below_alloc | apply pw_below_drewN | apply below_drew1) | exact HB.out)⟩⟩
            · rw [if_neg c6] at H
              have c6b0 : ((bt a0 x5_1) == 46) = false := beq_eq_false_iff_ne.mpr c6
              have c6b1 : ((bt a0 x5_1) != 46) = true := bne_iff_ne.mpr c6
              have H' := Aside0.mk H
              clear H
              have p5 : 0 ≤ (x5_1 : Int) := of_decide_eq_true (by first | (with_reducible assumption) | assumption)
              have q5 : x5_1 < (a0.size : Int) := of_decide_eq_true (by first | (with_reducible assumption) | assumption)
              have hx5 := bt_at a0 x5_1
              replace p5 := eq_true p5
              replace q5 := eq_true q5
              go_wp2
              go_meet
              case rel => exact ⟨_, (false), (by first | rfl | (simp; done) | (simp [*]; done)), H', ⟨by have := HK1.out; first | omega | exact Nat.le_refl _⟩, ⟨by repeat (first | (with_reducible first | exact HB.out | apply below_alloc | apply pw_below_drewN | apply below_drew1) | exact HB.out)⟩⟩
          · rw [if_neg c4] at H
            exact absurd H (by simp)
        case rest =>
          clear HC3
          try clear c2
          try clear c2b0
          try clear p2
          try clear c4
          try clear c4b0
          try clear p5
          try clear q5
          try clear hx5
          try clear c6
          try clear c6b0
          try clear c6b1
          try clear p5
          try clear q5
          obtain ⟨kq, x26_2, rfl, HA, HJ2, HB⟩ := hcut
          cases kq with
          | zero => exact absurd HA.out (by simp [spec_ReadHalfDigits.j1])
          | succ kj2 =>
            have H := HA.out
            clear HA
            simp only [spec_ReadHalfDigits.j1] at H
            by_cases c7 : x26_2 = true
            · subst c7
              have H1 : (spec_ReadHalfDigits.l0 kj2 a0 x5_1 (wrap64 (x5_1 + 1))) = some (r1, r2) := by rw [if_pos rfl] at H; exact H
              clear H
              have H := H1
              clear H1
              have H' := Aside0.mk H
              clear H
              go_wp2
              go_roundg kj2
              case measure => have := HK1.out; have := HJ2.out; omega
              case rel => exact ⟨(x5_1), (wrap64 (x5_1 + 1)), (by first | rfl | (simp; done) | (simp [*]; done)), (by first | rfl | (simp; done) | (simp [*]; done)), H', ⟨by have := HK1.out; have := HJ2.out; omega⟩, ⟨by repeat (first | (with_reducible first | exact HB.out | apply below_alloc | apply pw_below_drewN | apply below_drew1) | exact HB.out)⟩⟩
            · replace c7 := Bool.eq_false_iff.mpr c7
              subst c7
              have H1 : (if 0 ≤ x5_1 then (if x5_1 < (a0.size : Int) then (if (bt a0 x5_1) < 48 then (some (([] : List Int), false)) else (if (bt a0 x5_1) > 57 then (some (([] : List Int), false)) else (spec_ReadHalfDigits.l0 kj2 a0 x4_1 (wrap64 (x5_1 + 1))))) else (none)) else (none)) = some (r1, r2) := by rw [if_neg (show ¬ (false = true) by decide)] at H; exact H
              clear H
              have H := H1
              clear H1
              by_cases c8 : 0 ≤ x5_1
              · rw [if_pos c8] at H
                have c8b0 : decide (0 ≤ x5_1) = true := decide_eq_true c8
                clear c8
                by_cases c9 : x5_1 < (a0.size : Int)
                · rw [if_pos c9] at H
                  have c9b0 : decide (x5_1 < (a0.size : Int)) = true := decide_eq_true c9
                  clear c9
                  by_cases c11 : (bt a0 x5_1) < 48
                  · rw [if_pos c11] at H
                    have c11b0 : decide ((bt a0 x5_1) < 48) = true := decide_eq_true c11
                    clear c11
                    simp only [Option.some.injEq, Prod.mk.injEq] at H
                    obtain ⟨rfl, rfl⟩ := H
                    have p10 : 0 ≤ (x5_1 : Int) := of_decide_eq_true (by first | (with_reducible assumption) | assumption)
                    have q10 : x5_1 < (a0.size : Int) := of_decide_eq_true (by first | (with_reducible assumption) | assumption)
                    have hx10 := bt_at a0 x5_1
                    replace p10 := eq_true p10
                    replace q10 := eq_true q10
                    go_wp2
                    go_ret2
                    exact ⟨_, by first | rfl | (simp [errW_none, errW_some] <;> rfl) | (simp [*, errW_none, errW_some] <;> rfl), Kd.R_V (by first | exact Kd.R_nil _ _ _ 0 _ | exact Kd.R_nil _ _ _ _ _ | exact Kd.N_nil _ _ _ _ _ | exact Kd.V_nil _ _ _ _ _ | exact Kd.Q_nil _ _ _ _ _ | exact Kd.S_nil _ _ _ _ _), by repeat (first | (with_reducible first | exact HB.out | apply below_alloc | apply pw_below_drewN | apply below_drew1) | exact HB.out)⟩
                  · rw [if_neg c11] at H
                    have c11b0 : decide ((bt a0 x5_1) < 48) = false := decide_eq_false c11
                    clear c11
                    by_cases c13 : (bt a0 x5_1) > 57
                    · rw [if_pos c13] at H
                      have c13b0 : decide (57 < (bt a0 x5_1)) = true := decide_eq_true c13
                      clear c13
                      simp only [Option.some.injEq, Prod.mk.injEq] at H
                      obtain ⟨rfl, rfl⟩ := H
                      have p10 : 0 ≤ (x5_1 : Int) := of_decide_eq_true (by first | (with_reducible assumption) | assumption)
                      have q10 : x5_1 < (a0.size : Int) := of_decide_eq_true (by first | (with_reducible assumption) | assumption)
                      have hx10 := bt_at a0 x5_1
                      replace p10 := eq_true p10
                      replace q10 := eq_true q10
                      have p12 : 0 ≤ (x5_1 : Int) := of_decide_eq_true (by first | (with_reducible assumption) | assumption)
                      have q12 : x5_1 < (a0.size : Int) := of_decide_eq_true (by first | (with_reducible assumption) | assumption)
                      have hx12 := bt_at a0 x5_1
                      replace p12 := eq_true p12
                      replace q12 := eq_true q12
                      go_wp2
                      go_ret2
                      exact ⟨_, by first | rfl | (simp [errW_none, errW_some] <;> rfl) | (simp [*, errW_none, errW_some] <;> rfl), Kd.R_V (by first | exact Kd.R_nil _ _ _ 0 _ | exact Kd.R_nil _ _ _ _ _ | exact Kd.N_nil _ _ _ _ _ | exact Kd.V_nil _ _ _ _ _ | exact Kd.Q_nil _ _ _ _ _ | exact Kd.S_nil _ _ _ _ _), by repeat (first | (with_reducible first | exact HB.out | apply below_alloc | apply pw_below_drewN | apply below_drew1) | exact HB.out)⟩
                    · rw [if_neg c13] at H
                      have c13b0 : decide (57 < (bt a0 x5_1)) = false := decide_eq_false c13
                      clear c13
                      have H' := Aside0.mk H
                      clear H
                      have p10 : 0 ≤ (x5_1 : Int) := of_decide_eq_true (by first | (with_reducible assumption) | assumption)
                      have q10 : x5_1 < (a0.size : Int) := of_decide_eq_true (by first | (with_reducible assumption) | assumption)
                      have hx10 := bt_at a0 x5_1
                      replace p10 := eq_true p10
                      replace q10 := eq_true q10
                      have p12 : 0 ≤ (x5_1 : Int) := of_decide_eq_true (by first | (with_reducible assumption) | assumption)
                      have q12 : x5_1 < (a0.size : Int) := of_decide_eq_true (by first | (with_reducible assumption) | assumption)
                      have hx12 := bt_at a0 x5_1
                      replace p12 := eq_true p12
                      replace q12 := eq_true q12
                      go_wp2
                      go_roundg kj2
                      case measure => have := HK1.out; have := HJ2.out; omega
                      case rel => exact ⟨(x4_1), (wrap64 (x5_1 + 1)), (by first | rfl | (simp; done) | (simp [*]; done)), (by first | rfl | (simp; done) | (simp [*]; done)), H', ⟨by have := HK1.out; have := HJ2.out; omega⟩, ⟨by repeat (first | (with_reducible first | exact HB.out | apply below_alloc | apply pw_below_drewN | apply below_drew1) | exact HB.out)⟩⟩
                · rw [if_neg c9] at H
                  exact absurd H (by simp)
              · rw [if_neg c8] at H
                exact absurd H (by simp)
      · rw [if_neg c2] at H
        have c2b0 : decide (x5_1 < (a0.size : Int)) = false := decide_eq_false c2
        clear c2
        obtain ⟨ji14, hji14⟩ : ∃ j_ : Int, (mx (wrap64 ((wrap64 ((a0.size : Int) - x4_1)) - 1)) 0) = j_ := ⟨_, rfl⟩
        replace H : (if x4_1 = 0 then (spec_ReadHalfDigits.j2 k1 a0 x4_1 ji14 true) else (if x4_1 = (wrap64 ((a0.size : Int) - 1)) then (spec_ReadHalfDigits.j2 k1 a0 x4_1 ji14 true) else (if (ji14) > 200 then (spec_ReadHalfDigits.j2 k1 a0 x4_1 ji14 true) else (if 0 < (a0.size : Int) then (if (bt a0 0) = 48 then (if x4_1 > 1 then (spec_ReadHalfDigits.j2 k1 a0 x4_1 ji14 true) else (if (ji14) > 0 then (if 0 ≤ (wrap64 ((a0.size : Int) - 1)) then (if (wrap64 ((a0.size : Int) - 1)) < (a0.size : Int) then (spec_ReadHalfDigits.j2 k1 a0 x4_1 ji14 ((bt a0 (wrap64 ((a0.size : Int) - 1))) == 48)) else (none)) else (none)) else (spec_ReadHalfDigits.j2 k1 a0 x4_1 ji14 false))) else (if (ji14) > 0 then (if 0 ≤ (wrap64 ((a0.size : Int) - 1)) then (if (wrap64 ((a0.size : Int) - 1)) < (a0.size : Int) then (spec_ReadHalfDigits.j2 k1 a0 x4_1 ji14 ((bt a0 (wrap64 ((a0.size : Int) - 1))) == 48)) else (none)) else (none)) else (spec_ReadHalfDigits.j2 k1 a0 x4_1 ji14 false))) else (none))))) = some (r1, r2) := by first | (rw [hji14] at H; exact H) | (simp only [hji14] at H ⊢; exact H)
        have hji14_ : (if (wrap64 ((wrap64 ((a0.size : Int) - x4_1)) - 1)) < 0 then 0 else (wrap64 ((wrap64 ((a0.size : Int) - x4_1)) - 1))) = ji14 := hji14
        have HC15 := Aside0.mk H
        clear H
        go_upto_region 10 with (fail)
        go_cut [77] (fun v77 wc => ∃ (kq : Nat) (x77_14 : Bool), v77 = .bool x77_14 ∧ Aside0 (spec_ReadHalfDigits.j2 kq a0 x4_1 ji14 x77_14 = some (r1, r2)) ∧ Aside0 (kq ≤ k1) ∧ Aside0 (Below w.heap.size w wc))
        case first =>
          have H := HC15.out
          clear HC15
          by_cases c16 : x4_1 = 0
          · rw [if_pos c16] at H
            have c16b0 : (x4_1 == 0) = true := beq_iff_eq.mpr c16
            have c16b1 : (x4_1 != 0) = false := bne_eq_false_iff_eq.mpr c16
            clear c16
            (first | rw [c16b0] | (simp only [i64_w, i32_w]; rw [c16b0]) | skip)
            have H' := Aside0.mk H
            clear H
            go_wp2
            go_meet
            case rel => exact ⟨_, (true), (by first | rfl | (simp; done) | (simp [*]; done)), H', ⟨by have := HK1.out; first | omega | exact Nat.le_refl _⟩, ⟨by repeat (first | (with_reducible first | exact HB.out | apply below_alloc | apply pw_below_drewN | apply below_drew1) | exact HB.out)⟩⟩
          · rw [if_neg c16] at H
            have c16b0 : (x4_1 == 0) = false := beq_eq_false_iff_ne.mpr c16
            have c16b1 : (x4_1 != 0) = true := bne_iff_ne.mpr c16
            (first | rw [c16b0] | (simp only [i64_w, i32_w]; rw [c16b0]) | skip)
            by_cases c17 : x4_1 = (wrap64 ((a0.size : Int) - 1))
            · rw [if_pos c17] at H
              have c17b0 : (x4_1 == (wrap64 ((a0.size : Int) - 1))) = true := beq_iff_eq.mpr c17
              have c17b1 : (x4_1 != (wrap64 ((a0.size : Int) - 1))) = false := bne_eq_false_iff_eq.mpr c17
              clear c17
              have H' := Aside0.mk H
              clear H
              go_wp2
              go_meet
              case rel => exact ⟨_, (true), (by first | rfl | (simp; done) | (simp [*]; done)), H', ⟨by have := HK1.out; first | omega | exact Nat.le_refl _⟩, ⟨by repeat (first | (with_reducible first | exact HB.out | apply below_alloc | apply pw_below_drewN | apply below_drew1) | exact HB.out)⟩⟩
            · rw [if_neg c17] at H
              have c17b0 : (x4_1 == (wrap64 ((a0.size : Int) - 1))) = false := beq_eq_false_iff_ne.mpr c17
              have c17b1 : (x4_1 != (wrap64 ((a0.size : Int) - 1))) = true := bne_iff_ne.mpr c17
              by_cases c18 : (ji14) > 200
              · rw [if_pos c18] at H
                have c18b0 : decide (200 < (ji14)) = true := decide_eq_true c18
                clear c18
                have H' := Aside0.mk H
                clear H
                go_wp2
                go_meet
                case rel => exact ⟨_, (true), (by first | rfl | (simp; done) | (simp [*]; done)), H', ⟨by have := HK1.out; first | omega | exact Nat.le_refl _⟩, ⟨by repeat (first | (with_reducible first | exact HB.out | apply below_alloc | apply pw_below_drewN | apply below_drew1) | exact HB.out)⟩⟩
              · rw [if_neg c18] at H
                have c18b0 : decide (200 < (ji14)) = false := decide_eq_false c18
                clear c18
                by_cases c19 : 0 < (a0.size : Int)
                · rw [if_pos c19] at H
                  have c19b0 : decide (0 < (a0.size : Int)) = true := decide_eq_true c19
                  have c19b1 : decide (0 < a0.size) = true := decide_eq_true (by omega)
                  clear c19
                  by_cases c21 : (bt a0 0) = 48
                  · rw [if_pos c21] at H
                    have c21b0 : ((bt a0 0) == 48) = true := beq_iff_eq.mpr c21
                    have c21b1 : ((bt a0 0) != 48) = false := bne_eq_false_iff_eq.mpr c21
                    clear c21
                    by_cases c22 : x4_1 > 1
                    · rw [if_pos c22] at H
                      have c22b0 : decide (1 < x4_1) = true := decide_eq_true c22
                      clear c22
                      have H' := Aside0.mk H
                      clear H
                      have p20 : 0 ≤ (0 : Int) := (by omega)
                      have q20 : 0 < a0.size := (by have : (0 : Int) < (a0.size : Int) := of_decide_eq_true (by first | (with_reducible assumption) | assumption); omega)
                      have hx20 : ∀ h : 0 < a0.size, ((a0[0]'h).toNat : Int) = bt a0 0 := bt_at a0 0
                      clear p20
                      have qi20 : (0 < (a0.size : Int)) = True := eq_true (of_decide_eq_true (by first | (with_reducible assumption) | assumption))
                      replace q20 := eq_true q20
                      go_wp2
                      go_meet
                      case rel => exact ⟨_, (true), (by first | rfl | (simp; done) | (simp [*]; done)), H', ⟨by have := HK1.out; first | omega | exact Nat.le_refl _⟩, ⟨by repeat (first | (with_reducible first | exact HB.out | apply below_alloc | apply pw_below_drewN | apply below_drew1) | exact HB.out)⟩⟩
                    · rw [if_neg c22] at H
                      have c22b0 : decide (1 < x4_1) = false := decide_eq_false c22
                      clear c22
                      by_cases c23 : (ji14) > 0
                      · rw [if_pos c23] at H
                        have c23b0 : decide (0 < (ji14)) = true := decide_eq_true c23
                        clear c23
                        obtain ⟨ji24, hji24⟩ : ∃ j_ : Int, (wrap64 ((a0.size : Int) - 1)) = j_ := ⟨_, rfl⟩
                        replace H : (if 0 ≤ (ji24) then (if (ji24) < (a0.size : Int) then (spec_ReadHalfDigits.j2 k1 a0 x4_1 ji14 ((bt a0 (ji24)) == 48)) else (none)) else (none)) = some (r1, r2) := by first | (rw [hji24] at H; exact H) | (simp only [hji24] at H ⊢; exact H)
                        (try rw [hji24] at c17b0)
                        (try rw [hji24] at c17b1)
                        have hji24w : (IntKind.i64.wrap ((a0.size : Int) - 1)) = ji24 := (i64_w _).trans hji24
                        by_cases c25 : 0 ≤ (ji24)
                        · rw [if_pos c25] at H
                          have c25b0 : decide (0 ≤ (ji24)) = true := decide_eq_true c25
                          clear c25
                          by_cases c26 : (ji24) < (a0.size : Int)
                          · rw [if_pos c26] at H
                            have c26b0 : decide ((ji24) < (a0.size : Int)) = true := decide_eq_true c26
                            clear c26
                            have H' := Aside0.mk H
                            clear H
                            have p20 : 0 ≤ (0 : Int) := (by omega)
                            have q20 : 0 < a0.size := (by have : (0 : Int) < (a0.size : Int) := of_decide_eq_true (by first | (with_reducible assumption) | assumption); omega)
                            have hx20 : ∀ h : 0 < a0.size, ((a0[0]'h).toNat : Int) = bt a0 0 := bt_at a0 0
                            clear p20
                            have qi20 : (0 < (a0.size : Int)) = True := eq_true (of_decide_eq_true (by first | (with_reducible assumption) | assumption))
                            replace q20 := eq_true q20
                            have p27 : 0 ≤ ((ji24) : Int) := of_decide_eq_true (by first | (with_reducible assumption) | assumption)
                            have q27 : (ji24) < (a0.size : Int) := of_decide_eq_true (by first | (with_reducible assumption) | assumption)
                            have hx27 := bt_at a0 (ji24)
                            replace p27 := eq_true p27
                            replace q27 := eq_true q27
                            go_wp2
                            go_meet
                            case rel => exact ⟨_, (((bt a0 (ji24)) == 48)), (by first | rfl | (simp; done) | (simp only [← hji24] <;> (first | rfl | simp)) | (simp [*]; done)), H', ⟨by have := HK1.out; first | omega | exact Nat.le_refl _⟩, ⟨by repeat (first | (with_reducible first | exact HB.out | apply below_alloc | apply pw_below_drewN | apply below_drew1) | exact HB.out)⟩⟩
                          · rw [if_neg c26] at H
                            exact absurd H (by simp)
                        · rw [if_neg c25] at H
                          exact absurd H (by simp)
                      · rw [if_neg c23] at H
                        have c23b0 : decide (0 < (ji14)) = false := decide_eq_false c23
                        clear c23
                        have H' := Aside0.mk H
                        clear H
                        have p20 : 0 ≤ (0 : Int) := (by omega)
                        have q20 : 0 < a0.size := (by have : (0 : Int) < (a0.size : Int) := of_decide_eq_true (by first | (with_reducible assumption) | assumption); omega)
                        have hx20 : ∀ h : 0 < a0.size, ((a0[0]'h).toNat : Int) = bt a0 0 := bt_at a0 0
                        clear p20
                        have qi20 : (0 < (a0.size : Int)) = True := eq_true (of_decide_eq_true (by first | (with_reducible assumption) | assumption))
                        replace q20 := eq_true q20
                        go_wp2
                        go_meet
                        case rel => exact ⟨_, (false), (by first | rfl | (simp; done) | (simp [*]; done)), H', ⟨by have := HK1.out; first | omega | exact Nat.le_refl _⟩, ⟨by repeat (first | (with_reducible first | exact HB.out | apply below_alloc | apply pw_below_drewN | apply below_drew1) | exact HB.out)⟩⟩
                  · rw [if_neg c21] at H
                    have c21b0 : ((bt a0 0) == 48) = false := beq_eq_false_iff_ne.mpr c21
                    have c21b1 : ((bt a0 0) != 48) = true := bne_iff_ne.mpr c21
                    by_cases c28 : (ji14) > 0
                    · rw [if_pos c28] at H
                      have c28b0 : decide (0 < (ji14)) = true := decide_eq_true c28
                      clear c28
                      obtain ⟨ji29, hji29⟩ : ∃ j_ : Int, (wrap64 ((a0.size : Int) - 1)) = j_ := ⟨_, rfl⟩
                      replace H : (if 0 ≤ (ji29) then (if (ji29) < (a0.size : Int) then (spec_ReadHalfDigits.j2 k1 a0 x4_1 ji14 ((bt a0 (ji29)) == 48)) else (none)) else (none)) = some (r1, r2) := by first | (rw [hji29] at H; exact H) | (simp only [hji29] at H ⊢; exact H)
                      (try rw [hji29] at c17b0)
                      (try rw [hji29] at c17b1)
                      have hji29w : (IntKind.i64.wrap ((a0.size : Int) - 1)) = ji29 := (i64_w _).trans hji29
                      by_cases c30 : 0 ≤ (ji29)
                      · rw [if_pos c30] at H
                        have c30b0 : decide (0 ≤ (ji29)) = true := decide_eq_true c30
                        clear c30
                        by_cases c31 : (ji29) < (a0.size : Int)
                        · rw [if_pos c31] at H
                          have c31b0 : decide ((ji29) < (a0.size : Int)) = true := decide_eq_true c31
                          clear c31
                          have H' := Aside0.mk H
                          clear H
                          have p20 : 0 ≤ (0 : Int) := (by omega)
                          have q20 : 0 < a0.size := (by have : (0 : Int) < (a0.size : Int) := of_decide_eq_true (by first | (with_reducible assumption) | assumption); omega)
                          have hx20 : ∀ h : 0 < a0.size, ((a0[0]'h).toNat : Int) = bt a0 0 := bt_at a0 0
                          clear p20
                          have qi20 : (0 < (a0.size : Int)) = True := eq_true (of_decide_eq_true (by first | (with_reducible assumption) | assumption))
                          replace q20 := eq_true q20
                          have p32 : 0 ≤ ((ji29) : Int) := of_decide_eq_true (by first | (with_reducible assumption) | assumption)
                          have q32 : (ji29) < (a0.size : Int) := of_decide_eq_true (by first | (with_reducible assumption) | assumption)
                          have hx32 := bt_at a0 (ji29)
                          replace p32 := eq_true p32
                          replace q32 := eq_true q32
                          go_wp2
                          go_meet
                          case rel => exact ⟨_, (((bt a0 (ji29)) == 48)), (by first | rfl | (simp; done) | (simp only [← hji29] <;> (first | rfl | simp)) | (simp [*]; done)), H', ⟨by have := HK1.out; first | omega | exact Nat.le_refl _⟩, ⟨by repeat (first | (with_reducible first | exact HB.out | apply below_alloc | apply pw_below_drewN | apply below_drew1) | exact HB.out)⟩⟩
                        · rw [if_neg c31] at H
                          exact absurd H (by simp)
                      · rw [if_neg c30] at H
                        exact absurd H (by simp)
                    · rw [if_neg c28] at H
                      have c28b0 : decide (0 < (ji14)) = false := decide_eq_false c28
                      clear c28
                      have H' := Aside0.mk H
                      clear H
                      have p20 : 0 ≤ (0 : Int) := (by omega)
                      have q20 : 0 < a0.size := (by have : (0 : Int) < (a0.size : Int) := of_decide_eq_true (by first | (with_reducible assumption) | assumption); omega)
                      have hx20 : ∀ h : 0 < a0.size, ((a0[0]'h).toNat : Int) = bt a0 0 := bt_at a0 0
                      clear p20
                      have qi20 : (0 < (a0.size : Int)) = True := eq_true (of_decide_eq_true (by first | (with_reducible assumption) | assumption))
                      replace q20 := eq_true q20
                      go_wp2
                      go_meet
                      case rel => exact ⟨_, (false), (by first | rfl | (simp; done) | (simp [*]; done)), H', ⟨by have := HK1.out; first | omega | exact Nat.le_refl _⟩, ⟨by repeat (first | (with_reducible first | exact HB.out | apply below_alloc | apply pw_below_drewN | apply below_drew1) | exact HB.out)⟩⟩
                · rw [if_neg c19] at H
                  exact absurd H (by simp)
        case rest =>
          clear HC15
          try clear c1
          try clear p1
          try clear q1
          try clear hx1
          try clear c2
          try clear c2b0
          try clear p2
          try clear q2
          try clear hx2
          try clear qi2
          try clear c3
          try clear p3
          try clear q3
          try clear hx3
          try clear c4
          try clear c4b0
          try clear p5
          try clear q5
          try clear hx5
          try clear c6
          try clear c6b0
          try clear c6b1
          try clear p6
          try clear c7
          try clear c8
          try clear c8b0
          try clear c9
          try clear c9b0
          try clear p10
          try clear q10
          try clear hx10
          try clear c11
          try clear c11b0
          try clear p12
          try clear q12
          try clear hx12
          try clear c13
          try clear c13b0
          try clear c16
          try clear c16b0
          try clear c16b1
          try clear c17
          try clear c17b0
          try clear c17b1
          try clear c18
          try clear c18b0
          try clear c19
          try clear c19b0
          try clear c19b1
          try clear p20
          try clear q20
          try clear hx20
          try clear qi20
          try clear c21
          try clear c21b0
          try clear c21b1
          try clear c22
          try clear c22b0
          try clear c23
          try clear c23b0
          try clear c25
          try clear c25b0
          try clear c26
          try clear c26b0
          try clear p27
          try clear q27
          try clear hx27
          try clear c28
          try clear c28b0
          try clear c30
          try clear c30b0
          try clear c31
          try clear c31b0
          try clear p32
          try clear q32
          try clear hx32
          try clear p10
          try clear p12
          try clear p2
          try clear p20
          try clear p27
          try clear p32
          try clear p5
          try clear q10
          try clear q12
          try clear q20
          try clear q27
          try clear q32
          try clear q5
          obtain ⟨kq, x77_14, rfl, HA, HJ14, HB⟩ := hcut
          cases kq with
          | zero => exact absurd HA.out (by simp [spec_ReadHalfDigits.j2])
          | succ kj14 =>
            have H := HA.out
            clear HA
            simp only [spec_ReadHalfDigits.j2] at H
            by_cases c33 : x77_14 = true
            · subst c33
              have H1 : (some (([] : List Int), false)) = some (r1, r2) := by rw [if_pos rfl] at H; exact H
              clear H
              have H := H1
              clear H1
              simp only [Option.some.injEq, Prod.mk.injEq] at H
              obtain ⟨rfl, rfl⟩ := H
              go_wp2
              go_ret2
              exact ⟨_, by first | rfl | (simp [errW_none, errW_some] <;> rfl) | (simp only [← hji14]; first | rfl | (simp [errW_none, errW_some] <;> rfl)) | (simp [*, errW_none, errW_some] <;> rfl), Kd.R_V (by first | exact Kd.R_nil _ _ _ 0 _ | exact Kd.R_nil _ _ _ _ _ | exact Kd.N_nil _ _ _ _ _ | exact Kd.V_nil _ _ _ _ _ | exact Kd.Q_nil _ _ _ _ _ | exact Kd.S_nil _ _ _ _ _), by repeat (first | (with_reducible first | exact HB.out | apply below_alloc | apply pw_below_drewN | apply below_drew1) | exact HB.out)⟩
            · replace c33 := Bool.eq_false_iff.mpr c33
              subst c33
              have H1 : (if 0 ≤ (wrap64 (200 - ji14)) then (if (wrap64 (200 - ji14) : Int).toNat ≤ 35184372088832 then (spec_ReadHalfDigits.l1 kj14 a0 x4_1 (List.replicate (wrap64 (200 - ji14) : Int).toNat 0) (wrap64 ((a0.size : Int) - 1))) else (none)) else (none)) = some (r1, r2) := by rw [if_neg (show ¬ (false = true) by decide)] at H; exact H
              clear H
              have H := H1
              clear H1
              obtain ⟨ji34, hji34⟩ : ∃ j_ : Int, (wrap64 (200 - ji14)) = j_ := ⟨_, rfl⟩
              replace H : (if 0 ≤ (ji34) then (if (ji34 : Int).toNat ≤ 35184372088832 then (spec_ReadHalfDigits.l1 kj14 a0 x4_1 (List.replicate (ji34 : Int).toNat 0) (wrap64 ((a0.size : Int) - 1))) else (none)) else (none)) = some (r1, r2) := by first | (rw [hji34] at H; exact H) | (simp only [hji34] at H ⊢; exact H)
              have hji34w : (IntKind.i64.wrap (200 - ji14)) = ji34 := (i64_w _).trans hji34
              by_cases c35 : 0 ≤ (ji34)
              · rw [if_pos c35] at H
                have c35b0 := eq_true c35
                have c35b1 : decide (0 ≤ (ji34)) = true := decide_eq_true c35
                clear c35
                by_cases c36 : (ji34 : Int).toNat ≤ 35184372088832
                · rw [if_pos c36] at H
                  have c36b0 := eq_true c36
                  have c36b1 : decide ((ji34 : Int).toNat ≤ 35184372088832) = true := decide_eq_true c36
                  clear c36
                  obtain ⟨y107, hy107⟩ : ∃ y_ : List Int, y_ = (List.replicate (ji34 : Int).toNat 0) := ⟨_, rfl⟩
                  replace H : (spec_ReadHalfDigits.l1 kj14 a0 x4_1 y107 (wrap64 ((a0.size : Int) - 1))) = some (r1, r2) := by first | (rw [hy107]; with_reducible exact H) | (have H2_ := (Option.bind_some _ _).symm.trans H; rw [hy107]; with_reducible exact H2_) | (have H2_ := (Option.bind_some _ _).symm.trans H; with_reducible exact H2_) | with_reducible exact H | (rw [hy107]; exact H) | exact H
                  have Ny107 := Aside0.mk hy107
                  clear hy107
                  have H' := Aside0.mk H
                  clear H
                  go_wp2_with (first | ((with_reducible refine gate_dst (N := 80) rfl ?_); (try (refine gate_guard (by rfl) ?_; dsimp only)); refine Kd.R_make (Kd.int .i64) _ 3 rfl (N := 80) rfl 29 _ _ rfl ji34 rfl rfl Tryd.underlying29 (.int .i64 0) 8 info3 rfl (by decide) (by omega) 0 (ok := fun _ => True) (okp := fun _ => True) rfl (fun _ hk => hk) trivial (of_decide_eq_true (by first | (with_reducible assumption) | assumption)) (Nat.le_trans (Nat.mul_le_mul_right _ (of_decide_eq_true (by first | (with_reducible assumption) | assumption) : ji34.toNat ≤ 35184372088832)) (by omega)) (Below.refl _ _) (Nat.le_refl _) ?_; intro v108 w37 ho38 hb hg_ hnew_; clear hg_ hnew_; (first | rw [← Ny107.out] at ho38 | (simp only [Int.reduceToNat] at ho38; rw [← Ny107.out] at ho38)); have n0_ := Aside0.mk (Kd.R_lower (Kd.R_newM (M := fun k_ => (w.heap.size ≤ k_)) ho38 (below_size (by repeat (first | (with_reducible first | exact HB.out | apply below_alloc | apply pw_below_drewN | apply below_drew1) | exact HB.out))) (fun k_ h_ => h_)) (below_size (by repeat (first | (with_reducible first | exact HB.out | apply below_alloc | apply pw_below_drewN | apply below_drew1) | exact HB.out)))); have n1_ := Aside0.mk (below_step (by repeat (first | (with_reducible first | exact HB.out | apply below_alloc | apply pw_below_drewN | apply below_drew1) | exact HB.out)) hb); clear HB; have HO109 := n0_; have HB := n1_; clear n0_ n1_; clear hb ho38))
                  go_loopg [7, 8] kj14 (fun kq v7 v8 w' => ∃ (x7_3 : List Int) (x8_3 : Int), v8 = .int .i64 x8_3 ∧ Aside0 (spec_ReadHalfDigits.l1 kq a0 x4_1 x7_3 x8_3 = some (r1, r2)) ∧ Aside0 (kq ≤ kj14) ∧ Aside0 (Kd.R (Kd.int .i64) 3 w' w.heap.size (fun k_ => (w.heap.size ≤ k_)) v7 x7_3) ∧ Aside0 (Below w.heap.size w w'))
                  case atStart => exact ⟨(y107), (wrap64 ((a0.size : Int) - 1)), (by first | rfl | (simp; done) | (simp [*]; done)), H', ⟨Nat.le_refl _⟩, ⟨by (with_reducible repeat (first | apply Kd.R_alloc | apply Kd.R_drewN | apply Kd.R_drew)); exact Kd.R_mono HO109.out (fun _ hk => hk.1)⟩, ⟨by repeat (first | (with_reducible first | exact HB.out | apply below_alloc | apply pw_below_drewN | apply below_drew1) | exact HB.out)⟩⟩
                  case round =>
                    clear H'
                    try clear c1
                    try clear p1
                    try clear q1
                    try clear hx1
                    try clear c2
                    try clear c2b0
                    try clear p2
                    try clear q2
                    try clear hx2
                    try clear qi2
                    try clear c3
                    try clear p3
                    try clear q3
                    try clear hx3
                    try clear c4
                    try clear c4b0
                    try clear p5
                    try clear q5
                    try clear hx5
                    try clear c6
                    try clear c6b0
                    try clear c6b1
                    try clear p6
                    try clear c7
                    try clear c8
                    try clear c8b0
                    try clear c9
                    try clear c9b0
                    try clear p10
                    try clear q10
                    try clear hx10
                    try clear c11
                    try clear c11b0
                    try clear p12
                    try clear q12
                    try clear hx12
                    try clear c13
                    try clear c13b0
                    try clear c16
                    try clear c16b0
                    try clear c16b1
                    try clear c17
                    try clear c17b0
                    try clear c17b1
                    try clear c18
                    try clear c18b0
                    try clear c19
                    try clear c19b0
                    try clear c19b1
                    try clear p20
                    try clear q20
                    try clear hx20
                    try clear qi20
                    try clear c21
                    try clear c21b0
                    try clear c21b1
                    try clear c22
                    try clear c22b0
                    try clear c23
                    try clear c23b0
                    try clear c25
                    try clear c25b0
                    try clear c26
                    try clear c26b0
                    try clear p27
                    try clear q27
                    try clear hx27
                    try clear c28
                    try clear c28b0
                    try clear c30
                    try clear c30b0
                    try clear c31
                    try clear c31b0
                    try clear p32
                    try clear q32
                    try clear hx32
                    try clear c33
                    try clear c35
                    try clear c35b0
                    try clear c35b1
                    try clear c36
                    try clear c36b0
                    try clear c36b1
                    try clear p1
                    try clear p10
                    try clear p12
                    try clear p2
                    try clear p20
                    try clear p27
                    try clear p3
                    try clear p32
                    try clear p5
                    try clear p6
                    try clear q1
                    try clear q10
                    try clear q12
                    try clear q2
                    try clear q20
                    try clear q27
                    try clear q3
                    try clear q32
                    try clear q5
                    obtain ⟨x7_3, x8_3, rfl, HA, HK3, HO_7, HB⟩ := hrel
                    cases gk with
                    | zero => exact absurd HA.out (by simp [spec_ReadHalfDigits.l1])
                    | succ k3 =>
                      have H := HA.out
                      clear HA
                      simp only [spec_ReadHalfDigits.l1] at H
                      by_cases c39 : x8_3 ≥ 0
                      · rw [if_pos c39] at H
                        have c39b0 : decide (0 ≤ x8_3) = true := decide_eq_true c39
                        clear c39
                        by_cases c40 : x8_3 = x4_1
                        · rw [if_pos c40] at H
                          have c40b0 : (x8_3 == x4_1) = true := beq_iff_eq.mpr c40
                          have c40b1 : (x8_3 != x4_1) = false := bne_eq_false_iff_eq.mpr c40
                          clear c40
                          have H' := Aside0.mk H
                          clear H
                          go_wp2
                          go_roundg k3
                          case measure => have := HK1.out; have := HJ14.out; have := HK3.out; omega
                          case rel => exact ⟨(x7_3), (wrap64 (x8_3 - 1)), (by first | rfl | (simp; done) | (simp [*]; done)), H', ⟨by have := HK1.out; have := HJ14.out; have := HK3.out; omega⟩, ⟨by (with_reducible repeat (first | apply Kd.R_alloc | apply Kd.R_drewN | apply Kd.R_drew)); exact HO_7.out⟩, ⟨by repeat (first | (with_reducible first | exact HB.out | apply below_alloc | apply pw_below_drewN | apply below_drew1) | exact HB.out)⟩⟩
                        · rw [if_neg c40] at H
                          have c40b0 : (x8_3 == x4_1) = false := beq_eq_false_iff_ne.mpr c40
                          have c40b1 : (x8_3 != x4_1) = true := bne_iff_ne.mpr c40
                          by_cases c41 : 0 ≤ x8_3
                          · rw [if_pos c41] at H
                            have c41b0 : decide (0 ≤ x8_3) = true := decide_eq_true c41
                            clear c41
                            by_cases c42 : x8_3 < (a0.size : Int)
                            · rw [if_pos c42] at H
                              have c42b0 : decide (x8_3 < (a0.size : Int)) = true := decide_eq_true c42
                              clear c42
                              by_cases c44 : x7_3.length < 17592186044416
                              · rw [if_pos c44] at H
                                have LMc44 := Aside0.mk c44
                                clear c44
                                obtain ⟨y110, hy110⟩ : ∃ y_ : List Int, y_ = (x7_3 ++ [((bt a0 x8_3) - 48) % 256]) := ⟨_, rfl⟩
                                replace H : (spec_ReadHalfDigits.l1 k3 a0 x4_1 y110 (wrap64 (x8_3 - 1))) = some (r1, r2) := by first | (rw [hy110]; with_reducible exact H) | (have H2_ := (Option.bind_some _ _).symm.trans H; rw [hy110]; with_reducible exact H2_) | (have H2_ := (Option.bind_some _ _).symm.trans H; with_reducible exact H2_) | with_reducible exact H | (rw [hy110]; exact H) | exact H
                                have Ny110 := Aside0.mk hy110
                                clear hy110
                                have H' := Aside0.mk H
                                clear H
                                have p43 : 0 ≤ (x8_3 : Int) := of_decide_eq_true (by first | (with_reducible assumption) | assumption)
                                have q43 : x8_3 < (a0.size : Int) := of_decide_eq_true (by first | (with_reducible assumption) | assumption)
                                have hx43 := bt_at a0 x8_3
                                replace p43 := eq_true p43
                                replace q43 := eq_true q43
                                go_wp2_with (first | ((with_reducible refine gate_builtin (b := .append) (xs := #[.tmp 91, .tmp 97]) rfl ?_); (try (refine gate_guard (by rfl) ?_; dsimp only)); at_builtin; refine Kd.R_append (Kd.int .i64) (w0 := w) w.heap.size rfl (.tmp 91) (.tmp 97) 29 3 (.int .i64 0) 8 rfl Tryd.underlying29 info3 rfl (by decide) (by omega) u7 x7_3 (((bt a0 x8_3) - 48) % 256) [.int .i64 (((bt a0 x8_3) - 48) % 256)] (fun k_ => (w.heap.size ≤ k_)) (fun _ => False) rfl rfl ?aP (fun _ hk => hk.elim) ?aF ?aO ?aB ?aS ?aL ?_; (case aP => exact rfl); (case aB => exact (by repeat (first | (with_reducible first | exact HB.out | apply below_alloc | apply pw_below_drewN | apply below_drew1) | exact HB.out))); (case aF => exact (fun k_ hk => (Nat.le_trans (below_size (by repeat (first | (with_reducible first | exact HB.out | apply below_alloc | apply pw_below_drewN | apply below_drew1) | exact HB.out))) hk))); (case aO => exact (by (with_reducible repeat (first | apply Kd.R_alloc | apply Kd.R_drewN | apply Kd.R_drew)); exact HO_7.out)); (case aS => exact (below_size (by repeat (first | (with_reducible first | exact HB.out | apply below_alloc | apply pw_below_drewN | apply below_drew1) | exact HB.out)))); (case aL => have := LMc44.out; omega); intro v111 w45 ho hb hg hat; rw [← Ny110.out] at ho; have n0_ := Aside0.mk (hb); have n1_ := Aside0.mk (ho); clear HB; clear HO_7; have HB := n0_; have HO112 := n1_; clear n0_ n1_; clear ho hb hg hat))
                                go_roundg k3
                                case measure => have := HK1.out; have := HJ14.out; have := HK3.out; omega
                                case rel => exact ⟨(y110), (wrap64 (x8_3 - 1)), (by first | rfl | (simp; done) | (simp [*]; done)), H', ⟨by have := HK1.out; have := HJ14.out; have := HK3.out; omega⟩, ⟨by (with_reducible repeat (first | apply Kd.R_alloc | apply Kd.R_drewN | apply Kd.R_drew)); exact HO112.out⟩, ⟨by repeat (first | (with_reducible first | exact HB.out | apply below_alloc | apply pw_below_drewN | apply below_drew1) | exact HB.out)⟩⟩
                              · rw [if_neg c44] at H
                                exact absurd H (by simp)
                            · rw [if_neg c42] at H
                              exact absurd H (by simp)
                          · rw [if_neg c41] at H
                            exact absurd H (by simp)
                      · rw [if_neg c39] at H
                        have c39b0 : decide (0 ≤ x8_3) = false := decide_eq_false c39
                        clear c39
                        replace H := Option.bind_eq_some_iff.mp H
                        obtain ⟨t113, A460, H⟩ := H
                        replace H : (some (t113, true)) = some (r1, r2) := H
                        have A46 := Aside0.mk A460
                        clear A460
                        simp only [Option.some.injEq, Prod.mk.injEq] at H
                        obtain ⟨rfl, rfl⟩ := H
                        obtain ⟨Ao47, co47, eo47⟩ := Kd.R_slice HO_7.out
                        subst eo47
                        go_wp2_with (first | ((with_reducible refine gate_callee (f := 15) rfl ?_); refine goesL_ (some 100) rfl rfl Tryd.func15 (by kernel_rfl) rfl #[.slice Ao47 x7_3.length co47] rfl (by (try simp only [List.map_toArray, List.map_cons, List.map_nil]); first | done | rfl | (simp only [List.length_drop, List.length_take]; rfl)) ?_; (with_reducible refine (spec_halfTrim.calls k3 (fun k_ => some k_ = (.slice Ao47 x7_3.length co47 : Value).ownBlock) _ _ x7_3 t113 _ ?side1 A46.out).mono ?_); (case side1 => exact Kd.R_V (Kd.R_tight rfl (HO_7.out))); rintro e w48 ⟨v114, rfl, ho0, hb⟩; refine ⟨_, rfl, ?_⟩; have n0_ := Aside0.mk (Kd.R_below (by (with_reducible repeat (first | apply Kd.R_alloc | apply Kd.R_drewN | apply Kd.R_drew)); exact HO_7.out) hb); have n1_ := Aside0.mk (Kd.V_lower (Kd.V_mono (ok' := fun k_ => (w.heap.size ≤ k_)) ho0 (fun k_ hk_ => Or.elim hk_ (fun hs_ => ((HO_7.out).1 k_ hs_.symm)) (fun hn_ => (Nat.le_trans (below_size (by repeat (first | (with_reducible first | exact HB.out | apply below_alloc | apply pw_below_drewN | apply below_drew1) | exact HB.out))) hn_)))) (below_size (by repeat (first | (with_reducible first | exact HB.out | apply below_alloc | apply pw_below_drewN | apply below_drew1) | exact HB.out)))); have n2_ := Aside0.mk (below_step (by repeat (first | (with_reducible first | exact HB.out | apply below_alloc | apply pw_below_drewN | apply below_drew1) | exact HB.out)) hb); clear HO_7; clear HB; have HO_7 := n0_; have HO115 := n1_; have HB := n2_; clear n0_ n1_ n2_; (try clear hb); (try clear hb2); (try clear hk); (try clear hi); (try clear ho0)))
                        go_ret2
                        exact ⟨_, by first | rfl | (simp [errW_none, errW_some] <;> rfl) | (simp only [← hji14, ← hji34]; first | rfl | (simp [errW_none, errW_some] <;> rfl)) | (simp [*, errW_none, errW_some] <;> rfl), by (with_reducible repeat (first | apply Kd.V_alloc | apply Kd.V_drewN | apply Kd.V_drew)); exact HO115.out, by repeat (first | (with_reducible first | exact HB.out | apply below_alloc | apply pw_below_drewN | apply below_drew1) | exact HB.out)⟩
                · rw [if_neg c36] at H
                  exact absurd H (by simp)
              · rw [if_neg c35] at H
                exact absurd H (by simp)


end Go.Proofs.YtmgnffklmdhooaaDoor.PAll
