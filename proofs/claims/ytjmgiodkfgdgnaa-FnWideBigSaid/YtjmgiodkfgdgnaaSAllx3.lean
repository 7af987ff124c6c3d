/- Printed by the kit's print.py, called for several laws at once: functions as plain Lean, and the walks' contracts. -/
import Derived.Test.YtjmgiodkfgdgnaaSAllx0
import Derived.Test.YtjmgiodkfgdgnaaSAllx1
namespace Go.Proofs.Ytjmgiodkfgdgnaa.SAll
open Go.RowKit Go.Proofs.YtjmgiodkfgdgnaaW.PrintWords Go.Proofs.YtjmgiodkfgdgnaaW.PrintLast Go.Proofs.YtjmgiodkfgdgnaaW.PrintMore
attribute [local go_sem] max2_int min2_int max_two min_two max_three min_three max_four min_four   -- for this text's walks alone
set_option linter.unusedVariables false
set_option linter.unusedSimpArgs false

attribute [local go_sem high] eqA24
/-! ### spec_Big_Bit: function 37 -/
def spec_Big_Bit.f (l0 : List Int) (a1 : Int) : Option (Bool) := if a1 ≥ 0 then (if (wrap64 (Int.tdiv a1 16)) < (l0.length : Int) then (if 0 ≤ (wrap64 (Int.tdiv a1 16)) then (if 0 ≤ (Int.tmod a1 16) then (some ((Go.bits .and .i64 (shr .i64 (rd l0 (wrap64 (Int.tdiv a1 16))) (Int.tmod a1 16)) 1) == 1)) else (none)) else (none)) else (some false)) else (some false)
set_option maxHeartbeats 8000000 in
set_option maxRecDepth 100000 in
theorem spec_Big_Bit.calls (A0 : Option Addr) (c0 : Nat) (l0 : List Int) (a1 : Int) (r : Bool) (w : World) (hr0 : Kd.C (Kd.int .i64) w A0 l0.length l0) (hc0 : l0.length ≤ c0) (h : spec_Big_Bit.f l0 a1 = some r) :
    Calls Try.prog 37 #[.slice A0 l0.length c0, .int .i64 a1] w fun e w' => e = .returned (.bool r) ∧ Drawn0 w w' := by
  have HR0 := Aside0.mk hr0
  have HC0 := Aside0.mk hc0
  clear hr0 hc0
  have H : (if a1 ≥ 0 then (if (wrap64 (Int.tdiv a1 16)) < (l0.length : Int) then (if 0 ≤ (wrap64 (Int.tdiv a1 16)) then (if 0 ≤ (Int.tmod a1 16) then (some ((Go.bits .and .i64 (shr .i64 (rd l0 (wrap64 (Int.tdiv a1 16))) (Int.tmod a1 16)) 1) == 1)) else (none)) else (none)) else (some false)) else (some false)) = some r := h
  clear h
  by_cases c3 : a1 ≥ 0
  · rw [if_pos c3] at H
    have c3b0 : decide (0 ≤ a1) = true := decide_eq_true c3
    clear c3
    by_cases c4 : (wrap64 (Int.tdiv a1 16)) < (l0.length : Int)
    · rw [if_pos c4] at H
      have c4b0 : decide ((wrap64 (Int.tdiv a1 16)) < (l0.length : Int)) = true := decide_eq_true c4
      clear c4
      obtain ⟨ji5, hji5⟩ : ∃ j_ : Int, (wrap64 (Int.tdiv a1 16)) = j_ := ⟨_, rfl⟩
      replace H : (if 0 ≤ (ji5) then (if 0 ≤ (Int.tmod a1 16) then (some ((Go.bits .and .i64 (shr .i64 (rd l0 (ji5)) (Int.tmod a1 16)) 1) == 1)) else (none)) else (none)) = some r := by first | (rw [hji5] at H; exact H) | (simp only [hji5] at H ⊢; exact H)
      (try rw [hji5] at c4b0)
      have hji5w : (IntKind.i64.wrap (Int.tdiv a1 16)) = ji5 := (i64_w _).trans hji5
      by_cases c6 : 0 ≤ (ji5)
      · rw [if_pos c6] at H
        have c6b0 : decide (0 ≤ (ji5)) = true := decide_eq_true c6
        clear c6
        obtain ⟨ji7, hji7⟩ : ∃ j_ : Int, (Int.tmod a1 16) = j_ := ⟨_, rfl⟩
        replace H : (if 0 ≤ (ji7) then (some ((Go.bits .and .i64 (shr .i64 (rd l0 (ji5)) (ji7)) 1) == 1)) else (none)) = some r := by first | (rw [hji7] at H; exact H) | (simp only [hji7] at H ⊢; exact H)
        by_cases c8 : 0 ≤ (ji7)
        · rw [if_pos c8] at H
          have c8b0 := eq_true c8
          have c8b1 : decide (0 ≤ (ji7)) = true := decide_eq_true c8
          clear c8
          obtain ⟨ji9, hji9⟩ : ∃ j_ : Int, (shr .i64 (rd l0 (ji5)) (ji7)) = j_ := ⟨_, rfl⟩
          replace H : (some ((Go.bits .and .i64 (ji9) 1) == 1)) = some r := by first | (rw [hji9] at H; exact H) | (simp only [hji9] at H ⊢; exact H)
          have hji9_ : ((rd l0 (ji5)) / 2 ^ min (ji7).toNat 64) = ji9 := hji9
          have hji9z : (ji7) ≤ 64 → ((rd l0 (ji5)) / 2 ^ (ji7).toNat) = ji9 := shr_small hji9
          obtain rfl := Option.some.inj H
          have p154 : 0 ≤ ((ji5) : Int) := of_decide_eq_true (by first | (with_reducible assumption) | assumption)
          have q154 : (ji5) < (l0.length : Int) := of_decide_eq_true (by first | (with_reducible assumption) | assumption)
          obtain ⟨ad154, e154, hx154_0⟩ := Kd.at_int HR0.out (ji5) p154 q154
          cases e154
          replace p154 := eq_true p154
          replace q154 := eq_true q154
          go_enter Try.func37, Try.ntmps37
          go_wp2
          go_ret
          exact ⟨by first | rfl | (simp; done) | (simp only [← hji5, ← hji7, ← hji9] <;> (first | rfl | simp)) | (simp [*]; done), by repeat (first | exact Drawn0.refl _ | apply Drawn0.step)⟩
        · rw [if_neg c8] at H
          exact absurd H (by simp)
      · rw [if_neg c6] at H
        exact absurd H (by simp)
    · rw [if_neg c4] at H
      have c4b0 : decide ((wrap64 (Int.tdiv a1 16)) < (l0.length : Int)) = false := decide_eq_false c4
      clear c4
      obtain rfl := Option.some.inj H
      go_enter Try.func37, Try.ntmps37
      go_wp2
      go_ret
      exact ⟨by first | rfl | (simp; done) | (simp [*]; done), by repeat (first | exact Drawn0.refl _ | apply Drawn0.step)⟩
  · rw [if_neg c3] at H
    have c3b0 : decide (0 ≤ a1) = false := decide_eq_false c3
    clear c3
    obtain rfl := Option.some.inj H
    go_enter Try.func37, Try.ntmps37
    go_wp2
    go_ret
    exact ⟨by first | rfl | (simp; done) | (simp [*]; done), by repeat (first | exact Drawn0.refl _ | apply Drawn0.step)⟩


/-! ### spec_Big_Length: function 22 -/
def spec_Big_Length.l0 : Nat → List Int → Int → Option (Int)
  | 0, _, _ => none
  | k + 1, x0, x3 => if x3 > 0 then ((spec_Big_Bit.f x0 (wrap64 (x3 - 1))).bind fun t155 => (if t155 = true then (some x3) else (spec_Big_Length.l0 k x0 (wrap64 (x3 - 1))))) else (some x3)
def spec_Big_Length.f (k : Nat) (l0 : List Int) : Option (Int) := spec_Big_Length.l0 k l0 (wrap64 (16 * (l0.length : Int)))
theorem spec_Big_Length.mono_l : ∀ k, (∀ y0 y1, LeO (spec_Big_Length.l0 k y0 y1) (spec_Big_Length.l0 (k + 1) y0 y1))
  | 0 => fun _ _ r h => by simp [spec_Big_Length.l0] at h
  | k + 1 => by
    have ih0 := spec_Big_Length.mono_l k
    · intro y0 y1
      unfold spec_Big_Length.l0
      repeat' first
      | (with_reducible exact ih0 _ _)
      | (with_reducible exact LeO.refl _)
      | (with_reducible exact LeO.none _)
      | (with_reducible refine LeO.ite ?_ ?_)
      | (with_reducible refine LeO.bind ?_ (fun _ => ?_))
      | exact ih0 _ _
      | exact LeO.none _
      | refine LeO.ite ?_ ?_
      | refine LeO.bind ?_ (fun _ => ?_)
theorem spec_Big_Length.mono : ∀ a0 k, LeO (spec_Big_Length.f k a0) (spec_Big_Length.f (k + 1) a0) := by
  intro a0 k
  have ih0 := spec_Big_Length.mono_l k
  unfold spec_Big_Length.f
  repeat' first
      | (with_reducible exact ih0 _ _)
      | (with_reducible exact LeO.refl _)
      | (with_reducible exact LeO.none _)
      | (with_reducible refine LeO.ite ?_ ?_)
      | (with_reducible refine LeO.bind ?_ (fun _ => ?_))
      | exact ih0 _ _
      | exact LeO.none _
      | refine LeO.ite ?_ ?_
      | refine LeO.bind ?_ (fun _ => ?_)
set_option maxHeartbeats 8000000 in
set_option maxRecDepth 100000 in
theorem spec_Big_Length.calls (k : Nat) (A0 : Option Addr) (c0 : Nat) (l0 : List Int) (r : Int) (w : World) (hr0 : Kd.C (Kd.int .i64) w A0 l0.length l0) (hc0 : l0.length ≤ c0) (h : spec_Big_Length.f k l0 = some r) :
    Calls Try.prog 22 #[.slice A0 l0.length c0] w fun e w' => e = .returned (.int .i64 r) ∧ Drawn0 w w' := by
  have HR0 := Aside0.mk hr0
  have HC0 := Aside0.mk hc0
  clear hr0 hc0
  have H : (spec_Big_Length.l0 k l0 (wrap64 (16 * (l0.length : Int)))) = some r := h
  clear h
  have H' := Aside0.mk H
  clear H
  go_enter Try.func22, Try.ntmps22
  go_wp2
  go_loopg [3] k (fun kq v3 w' => ∃ (x3_1 : Int), v3 = .int .i64 x3_1 ∧ Aside0 (spec_Big_Length.l0 kq l0 x3_1 = some r) ∧ Aside0 (kq ≤ k) ∧ Drawn0 w w')
  case atStart => exact ⟨(wrap64 (16 * (l0.length : Int))), (by first | rfl | (simp; done) | (simp [*]; done)), H', ⟨Nat.le_refl _⟩, by repeat (first | exact Drawn0.refl _ | apply Drawn0.step)⟩
  case round =>
    clear H'
    obtain ⟨x3_1, rfl, HA, HK1, ⟨m1, rfl⟩⟩ := hrel
    cases gk with
    | zero => exact absurd HA.out (by simp [spec_Big_Length.l0])
    | succ k1 =>
      have H := HA.out
      clear HA
      simp only [spec_Big_Length.l0] at H
      by_cases c2 : x3_1 > 0
      · rw [if_pos c2] at H
        have c2b0 : decide (0 < x3_1) = true := decide_eq_true c2
        clear c2
        replace H := Option.bind_eq_some_iff.mp H
        obtain ⟨t155, A30, H⟩ := H
        replace H : (if t155 = true then (some x3_1) else (spec_Big_Length.l0 k1 l0 (wrap64 (x3_1 - 1)))) = some r := H
        have A3 := Aside0.mk A30
        clear A30
        by_cases c4 : t155 = true
        · subst c4
          have H1 : (some x3_1) = some r := by rw [if_pos rfl] at H; exact H
          clear H
          have H := H1
          clear H1
          obtain rfl := Option.some.inj H
          go_wp2_with (first | (go_at_call 37; (with_reducible refine (spec_Big_Bit.calls _ _ l0 (wrap64 (x3_1 - 1)) true _ ?side1 ?side2 A3.out).mono ?_); (case side1 => repeat (first | exact HR0.out | (with_reducible refine Kd.C_alloc ?_ _) | (with_reducible refine Kd.C_drewN ?_ _) | (with_reducible refine Kd.C_drew ?_))); (case side2 => exact HC0.out); rintro e w' ⟨rfl, ⟨nd, rfl⟩⟩))
          go_ret
          exact ⟨by first | rfl | (simp; done) | (simp [*]; done), by repeat (first | exact Drawn0.refl _ | apply Drawn0.step)⟩
        · replace c4 := Bool.eq_false_iff.mpr c4
          subst c4
          have H1 : (spec_Big_Length.l0 k1 l0 (wrap64 (x3_1 - 1))) = some r := by rw [if_neg (show ¬ (false = true) by decide)] at H; exact H
          clear H
          have H := H1
          clear H1
          have H' := Aside0.mk H
          clear H
          go_wp2_with (first | (go_at_call 37; (with_reducible refine (spec_Big_Bit.calls _ _ l0 (wrap64 (x3_1 - 1)) false _ ?side1 ?side2 A3.out).mono ?_); (case side1 => repeat (first | exact HR0.out | (with_reducible refine Kd.C_alloc ?_ _) | (with_reducible refine Kd.C_drewN ?_ _) | (with_reducible refine Kd.C_drew ?_))); (case side2 => exact HC0.out); rintro e w' ⟨rfl, ⟨nd, rfl⟩⟩))
          go_roundg k1
          case measure => have := HK1.out; omega
          case rel => exact ⟨(wrap64 (x3_1 - 1)), (by first | rfl | (simp; done) | (simp [*]; done)), H', ⟨by have := HK1.out; omega⟩, by repeat (first | exact Drawn0.refl _ | apply Drawn0.step)⟩
      · rw [if_neg c2] at H
        have c2b0 : decide (0 < x3_1) = false := decide_eq_false c2
        clear c2
        obtain rfl := Option.some.inj H
        go_wp2
        go_ret
        exact ⟨by first | rfl | (simp; done) | (simp [*]; done), by repeat (first | exact Drawn0.refl _ | apply Drawn0.step)⟩


/-! ### spec_Fits: function 9 -/
def spec_Fits.f (k : Nat) (l0 : List Int) : Option (Bool) := (spec_Big_Length.f k l0).bind fun t156 => (some (decide (t156 ≤ 128)))
theorem spec_Fits.mono : ∀ a0 k, LeO (spec_Fits.f k a0) (spec_Fits.f (k + 1) a0) := by
  intro a0 k
  unfold spec_Fits.f
  repeat' first
      | (with_reducible exact spec_Big_Length.mono _ _)
      | (with_reducible exact LeO.refl _)
      | (with_reducible exact LeO.none _)
      | (with_reducible refine LeO.ite ?_ ?_)
      | (with_reducible refine LeO.bind ?_ (fun _ => ?_))
      | exact spec_Big_Length.mono _ _
      | exact LeO.none _
      | refine LeO.ite ?_ ?_
      | refine LeO.bind ?_ (fun _ => ?_)
set_option maxHeartbeats 8000000 in
set_option maxRecDepth 100000 in
theorem spec_Fits.calls (k : Nat) (A0 : Option Addr) (c0 : Nat) (l0 : List Int) (r : Bool) (w : World) (hr0 : Kd.C (Kd.int .i64) w A0 l0.length l0) (hc0 : l0.length ≤ c0) (h : spec_Fits.f k l0 = some r) :
    Calls Try.prog 9 #[.slice A0 l0.length c0] w fun e w' => e = .returned (.bool r) ∧ Drawn0 w w' := by
  have HR0 := Aside0.mk hr0
  have HC0 := Aside0.mk hc0
  clear hr0 hc0
  have H : ((spec_Big_Length.f k l0).bind fun t156 => (some (decide (t156 ≤ 128)))) = some r := h
  clear h
  replace H := Option.bind_eq_some_iff.mp H
  obtain ⟨t156, A20, H⟩ := H
  replace H : (some (decide (t156 ≤ 128))) = some r := H
  have A2 := Aside0.mk A20
  clear A20
  obtain rfl := Option.some.inj H
  go_enter Try.func9, Try.ntmps9
  go_wp2_with (first | ((with_reducible refine gate_callee (f := 22) rfl ?_); refine goesL_ (some 4) rfl rfl Try.func22 (by kernel_rfl) rfl #[.slice A0 l0.length c0] rfl (by (try simp only [List.map_toArray, List.map_cons, List.map_nil]); first | done | rfl | (simp only [List.length_drop, List.length_take]; rfl)) ?_; (with_reducible refine (spec_Big_Length.calls k _ _ l0 t156 _ ?side1 ?side2 A2.out).mono ?_); (case side1 => repeat (first | exact HR0.out | (with_reducible refine Kd.C_alloc ?_ _) | (with_reducible refine Kd.C_drewN ?_ _) | (with_reducible refine Kd.C_drew ?_))); (case side2 => exact HC0.out); rintro e w' ⟨rfl, ⟨nd, rfl⟩⟩; refine ⟨_, rfl, ?_⟩))
  go_ret
  exact ⟨by first | rfl | (simp; done) | (simp [*]; done), by repeat (first | exact Drawn0.refl _ | apply Drawn0.step)⟩


/-! ### spec_Halves: function 23 -/
def spec_Halves.l0 : Nat → List Int → Int → Int → Int → Option (Int × Int)
  | 0, _, _, _, _ => none
  | k + 1, x0, x2, x3, x5 => if x5 < 64 then ((spec_Big_Bit.f x0 x5).bind fun t157 => (if t157 = true then (if 0 ≤ x5 then ((spec_Big_Bit.f x0 (wrap64 (64 + x5))).bind fun t158 => (if t158 = true then (spec_Halves.l0 k x0 (Go.bits .or .u64 x2 (shl .u64 1 x5)) (Go.bits .or .u64 x3 (shl .u64 1 x5)) (wrap64 (x5 + 1))) else (spec_Halves.l0 k x0 (Go.bits .or .u64 x2 (shl .u64 1 x5)) x3 (wrap64 (x5 + 1))))) else (none)) else ((spec_Big_Bit.f x0 (wrap64 (64 + x5))).bind fun t159 => (if t159 = true then (if 0 ≤ x5 then (spec_Halves.l0 k x0 x2 (Go.bits .or .u64 x3 (shl .u64 1 x5)) (wrap64 (x5 + 1))) else (none)) else (spec_Halves.l0 k x0 x2 x3 (wrap64 (x5 + 1))))))) else (some (x2, x3))
def spec_Halves.f (k : Nat) (l0 : List Int) : Option (Int × Int) := spec_Halves.l0 k l0 0 0 0
theorem spec_Halves.mono_l : ∀ k, (∀ y0 y1 y2 y3, LeO (spec_Halves.l0 k y0 y1 y2 y3) (spec_Halves.l0 (k + 1) y0 y1 y2 y3))
  | 0 => fun _ _ _ _ r h => by simp [spec_Halves.l0] at h
  | k + 1 => by
    have ih0 := spec_Halves.mono_l k
    · intro y0 y1 y2 y3
      unfold spec_Halves.l0
      repeat' first
      | (with_reducible exact ih0 _ _ _ _)
      | (with_reducible exact LeO.refl _)
      | (with_reducible exact LeO.none _)
      | (with_reducible refine LeO.ite ?_ ?_)
      | (with_reducible refine LeO.bind ?_ (fun _ => ?_))
      | exact ih0 _ _ _ _
      | exact LeO.none _
      | refine LeO.ite ?_ ?_
      | refine LeO.bind ?_ (fun _ => ?_)
theorem spec_Halves.mono : ∀ a0 k, LeO (spec_Halves.f k a0) (spec_Halves.f (k + 1) a0) := by
  intro a0 k
  have ih0 := spec_Halves.mono_l k
  unfold spec_Halves.f
  repeat' first
      | (with_reducible exact ih0 _ _ _ _)
      | (with_reducible exact LeO.refl _)
      | (with_reducible exact LeO.none _)
      | (with_reducible refine LeO.ite ?_ ?_)
      | (with_reducible refine LeO.bind ?_ (fun _ => ?_))
      | exact ih0 _ _ _ _
      | exact LeO.none _
      | refine LeO.ite ?_ ?_
      | refine LeO.bind ?_ (fun _ => ?_)
set_option maxHeartbeats 8000000 in
set_option maxRecDepth 100000 in
theorem spec_Halves.calls (k : Nat) (A0 : Option Addr) (c0 : Nat) (l0 : List Int) (r1 : Int) (r2 : Int) (w : World) (hr0 : Kd.C (Kd.int .i64) w A0 l0.length l0) (hc0 : l0.length ≤ c0) (h : spec_Halves.f k l0 = some (r1, r2)) :
    Calls Try.prog 23 #[.slice A0 l0.length c0] w fun e w' => e = .returned (.tuple #[.int .u64 r1, .int .u64 r2]) ∧ Drawn0 w w' := by
  have HR0 := Aside0.mk hr0
  have HC0 := Aside0.mk hc0
  clear hr0 hc0
  have H : (spec_Halves.l0 k l0 0 0 0) = some (r1, r2) := h
  clear h
  have H' := Aside0.mk H
  clear H
  go_enter Try.func23, Try.ntmps23
  go_wp2
  go_loopg [2, 3, 5] k (fun kq v2 v3 v5 w' => ∃ (x2_1 : Int) (x3_1 : Int) (x5_1 : Int), v2 = .int .u64 x2_1 ∧ v3 = .int .u64 x3_1 ∧ v5 = .int .i64 x5_1 ∧ Aside0 (spec_Halves.l0 kq l0 x2_1 x3_1 x5_1 = some (r1, r2)) ∧ Aside0 (kq ≤ k) ∧ Drawn0 w w')
  case atStart => exact ⟨(0), (0), (0), (by first | rfl | (simp; done) | (simp [*]; done)), (by first | rfl | (simp; done) | (simp [*]; done)), (by first | rfl | (simp; done) | (simp [*]; done)), H', ⟨Nat.le_refl _⟩, by repeat (first | exact Drawn0.refl _ | apply Drawn0.step)⟩
  case round =>
    clear H'
    obtain ⟨x2_1, x3_1, x5_1, rfl, rfl, rfl, HA, HK1, ⟨m1, rfl⟩⟩ := hrel
    cases gk with
    | zero => exact absurd HA.out (by simp [spec_Halves.l0])
    | succ k1 =>
      have H := HA.out
      clear HA
      simp only [spec_Halves.l0] at H
      by_cases c2 : x5_1 < 64
      · rw [if_pos c2] at H
        have c2b0 : decide (x5_1 < 64) = true := decide_eq_true c2
        clear c2
        replace H := Option.bind_eq_some_iff.mp H
        obtain ⟨t157, A30, H⟩ := H
        replace H : (if t157 = true then (if 0 ≤ x5_1 then ((spec_Big_Bit.f l0 (wrap64 (64 + x5_1))).bind fun t158 => (if t158 = true then (spec_Halves.l0 k1 l0 (Go.bits .or .u64 x2_1 (shl .u64 1 x5_1)) (Go.bits .or .u64 x3_1 (shl .u64 1 x5_1)) (wrap64 (x5_1 + 1))) else (spec_Halves.l0 k1 l0 (Go.bits .or .u64 x2_1 (shl .u64 1 x5_1)) x3_1 (wrap64 (x5_1 + 1))))) else (none)) else ((spec_Big_Bit.f l0 (wrap64 (64 + x5_1))).bind fun t159 => (if t159 = true then (if 0 ≤ x5_1 then (spec_Halves.l0 k1 l0 x2_1 (Go.bits .or .u64 x3_1 (shl .u64 1 x5_1)) (wrap64 (x5_1 + 1))) else (none)) else (spec_Halves.l0 k1 l0 x2_1 x3_1 (wrap64 (x5_1 + 1)))))) = some (r1, r2) := H
        have A3 := Aside0.mk A30
        clear A30
        by_cases c4 : t157 = true
        · subst c4
          have H1 : (if 0 ≤ x5_1 then ((spec_Big_Bit.f l0 (wrap64 (64 + x5_1))).bind fun t158 => (if t158 = true then (spec_Halves.l0 k1 l0 (Go.bits .or .u64 x2_1 (shl .u64 1 x5_1)) (Go.bits .or .u64 x3_1 (shl .u64 1 x5_1)) (wrap64 (x5_1 + 1))) else (spec_Halves.l0 k1 l0 (Go.bits .or .u64 x2_1 (shl .u64 1 x5_1)) x3_1 (wrap64 (x5_1 + 1))))) else (none)) = some (r1, r2) := by rw [if_pos rfl] at H; exact H
          clear H
          have H := H1
          clear H1
          by_cases c5 : 0 ≤ x5_1
          · rw [if_pos c5] at H
            have c5b0 := eq_true c5
            have c5b1 : decide (0 ≤ x5_1) = true := decide_eq_true c5
            clear c5
            obtain ⟨ji6, hji6⟩ : ∃ j_ : Int, (shl .u64 1 x5_1) = j_ := ⟨_, rfl⟩
            replace H : ((spec_Big_Bit.f l0 (wrap64 (64 + x5_1))).bind fun t158 => (if t158 = true then (spec_Halves.l0 k1 l0 (Go.bits .or .u64 x2_1 (ji6)) (Go.bits .or .u64 x3_1 (ji6)) (wrap64 (x5_1 + 1))) else (spec_Halves.l0 k1 l0 (Go.bits .or .u64 x2_1 (ji6)) x3_1 (wrap64 (x5_1 + 1))))) = some (r1, r2) := by first | (rw [hji6] at H; exact H) | (simp only [hji6] at H ⊢; exact H)
            (try rw [hji6] at A3)
            have hji6_ : (IntKind.u64.wrap (1 * 2 ^ min x5_1.toNat 64)) = ji6 := hji6
            have hji6z : x5_1 ≤ 64 → (IntKind.u64.wrap (1 * 2 ^ x5_1.toNat)) = ji6 := shl_small hji6
            have hji6u : (IntKind.u64.wrap (2 ^ min x5_1.toNat 64)) = ji6 := by have h_ := hji6_; rw [Int.one_mul] at h_; exact h_
            have hji6v : x5_1 ≤ 64 → (IntKind.u64.wrap (2 ^ x5_1.toNat)) = ji6 := fun hle_ => by have h_ := hji6z hle_; rw [Int.one_mul] at h_; exact h_
            replace H := Option.bind_eq_some_iff.mp H
            obtain ⟨t158, A70, H⟩ := H
            replace H : (if t158 = true then (spec_Halves.l0 k1 l0 (Go.bits .or .u64 x2_1 (ji6)) (Go.bits .or .u64 x3_1 (ji6)) (wrap64 (x5_1 + 1))) else (spec_Halves.l0 k1 l0 (Go.bits .or .u64 x2_1 (ji6)) x3_1 (wrap64 (x5_1 + 1)))) = some (r1, r2) := H
            have A7 := Aside0.mk A70
            clear A70
            by_cases c8 : t158 = true
            · subst c8
              have H1 : (spec_Halves.l0 k1 l0 (Go.bits .or .u64 x2_1 (ji6)) (Go.bits .or .u64 x3_1 (ji6)) (wrap64 (x5_1 + 1))) = some (r1, r2) := by rw [if_pos rfl] at H; exact H
              clear H
              have H := H1
              clear H1
              have c9b0 := eq_true (of_decide_eq_true (by first | (with_reducible assumption) | assumption) : 0 ≤ x5_1)
              have H' := Aside0.mk H
              clear H
              go_wp2_with (first | ((with_reducible refine gate_callee (f := 37) rfl ?_); refine goesL_ (some 10) rfl rfl Try.func37 (by kernel_rfl) rfl #[.slice A0 l0.length c0, .int .i64 x5_1] rfl (by (try simp only [List.map_toArray, List.map_cons, List.map_nil]); first | done | rfl | (simp only [List.length_drop, List.length_take]; rfl)) ?_; (with_reducible refine (spec_Big_Bit.calls _ _ l0 x5_1 true _ ?side1 ?side2 A3.out).mono ?_); (case side1 => repeat (first | exact HR0.out | (with_reducible refine Kd.C_alloc ?_ _) | (with_reducible refine Kd.C_drewN ?_ _) | (with_reducible refine Kd.C_drew ?_))); (case side2 => exact HC0.out); rintro e w' ⟨rfl, ⟨nd, rfl⟩⟩; refine ⟨_, rfl, ?_⟩) | ((with_reducible refine gate_callee (f := 37) rfl ?_); refine goesL_ (some 18) rfl rfl Try.func37 (by kernel_rfl) rfl #[.slice A0 l0.length c0, .int .i64 (wrap64 (64 + x5_1))] rfl (by (try simp only [List.map_toArray, List.map_cons, List.map_nil]); first | done | rfl | (simp only [List.length_drop, List.length_take]; rfl)) ?_; (with_reducible refine (spec_Big_Bit.calls _ _ l0 (wrap64 (64 + x5_1)) true _ ?side1 ?side2 A7.out).mono ?_); (case side1 => repeat (first | exact HR0.out | (with_reducible refine Kd.C_alloc ?_ _) | (with_reducible refine Kd.C_drewN ?_ _) | (with_reducible refine Kd.C_drew ?_))); (case side2 => exact HC0.out); rintro e w' ⟨rfl, ⟨nd, rfl⟩⟩; refine ⟨_, rfl, ?_⟩))
              go_roundg k1
              case measure => have := HK1.out; omega
              case rel => exact ⟨(Go.bits .or .u64 x2_1 (ji6)), (Go.bits .or .u64 x3_1 (ji6)), (wrap64 (x5_1 + 1)), (by first | rfl | (simp; done) | (simp only [← hji6] <;> (first | rfl | simp)) | (simp [*]; done)), (by first | rfl | (simp; done) | (simp only [← hji6] <;> (first | rfl | simp)) | (simp [*]; done)), (by first | rfl | (simp; done) | (simp [*]; done)), H', ⟨by have := HK1.out; omega⟩, by repeat (first | exact Drawn0.refl _ | apply Drawn0.step)⟩
            · replace c8 := Bool.eq_false_iff.mpr c8
              subst c8
              have H1 : (spec_Halves.l0 k1 l0 (Go.bits .or .u64 x2_1 (ji6)) x3_1 (wrap64 (x5_1 + 1))) = some (r1, r2) := by rw [if_neg (show ¬ (false = true) by decide)] at H; exact H
              clear H
              have H := H1
              clear H1
              have H' := Aside0.mk H
              clear H
              go_wp2_with (first | ((with_reducible refine gate_callee (f := 37) rfl ?_); refine goesL_ (some 10) rfl rfl Try.func37 (by kernel_rfl) rfl #[.slice A0 l0.length c0, .int .i64 x5_1] rfl (by (try simp only [List.map_toArray, List.map_cons, List.map_nil]); first | done | rfl | (simp only [List.length_drop, List.length_take]; rfl)) ?_; (with_reducible refine (spec_Big_Bit.calls _ _ l0 x5_1 true _ ?side1 ?side2 A3.out).mono ?_); (case side1 => repeat (first | exact HR0.out | (with_reducible refine Kd.C_alloc ?_ _) | (with_reducible refine Kd.C_drewN ?_ _) | (with_reducible refine Kd.C_drew ?_))); (case side2 => exact HC0.out); rintro e w' ⟨rfl, ⟨nd, rfl⟩⟩; refine ⟨_, rfl, ?_⟩) | ((with_reducible refine gate_callee (f := 37) rfl ?_); refine goesL_ (some 18) rfl rfl Try.func37 (by kernel_rfl) rfl #[.slice A0 l0.length c0, .int .i64 (wrap64 (64 + x5_1))] rfl (by (try simp only [List.map_toArray, List.map_cons, List.map_nil]); first | done | rfl | (simp only [List.length_drop, List.length_take]; rfl)) ?_; (with_reducible refine (spec_Big_Bit.calls _ _ l0 (wrap64 (64 + x5_1)) false _ ?side1 ?side2 A7.out).mono ?_); (case side1 => repeat (first | exact HR0.out | (with_reducible refine Kd.C_alloc ?_ _) | (with_reducible refine Kd.C_drewN ?_ _) | (with_reducible refine Kd.C_drew ?_))); (case side2 => exact HC0.out); rintro e w' ⟨rfl, ⟨nd, rfl⟩⟩; refine ⟨_, rfl, ?_⟩))
              go_roundg k1
              case measure => have := HK1.out; omega
              case rel => exact ⟨(Go.bits .or .u64 x2_1 (ji6)), (x3_1), (wrap64 (x5_1 + 1)), (by first | rfl | (simp; done) | (simp only [← hji6] <;> (first | rfl | simp)) | (simp [*]; done)), (by first | rfl | (simp; done) | (simp [*]; done)), (by first | rfl | (simp; done) | (simp [*]; done)), H', ⟨by have := HK1.out; omega⟩, by repeat (first | exact Drawn0.refl _ | apply Drawn0.step)⟩
          · rw [if_neg c5] at H
            exact absurd H (by simp)
        · replace c4 := Bool.eq_false_iff.mpr c4
          subst c4
          have H1 : ((spec_Big_Bit.f l0 (wrap64 (64 + x5_1))).bind fun t159 => (if t159 = true then (if 0 ≤ x5_1 then (spec_Halves.l0 k1 l0 x2_1 (Go.bits .or .u64 x3_1 (shl .u64 1 x5_1)) (wrap64 (x5_1 + 1))) else (none)) else (spec_Halves.l0 k1 l0 x2_1 x3_1 (wrap64 (x5_1 + 1))))) = some (r1, r2) := by rw [if_neg (show ¬ (false = true) by decide)] at H; exact H
          clear H
          have H := H1
          clear H1
          replace H := Option.bind_eq_some_iff.mp H
          obtain ⟨t159, A110, H⟩ := H
          replace H : (if t159 = true then (if 0 ≤ x5_1 then (spec_Halves.l0 k1 l0 x2_1 (Go.bits .or .u64 x3_1 (shl .u64 1 x5_1)) (wrap64 (x5_1 + 1))) else (none)) else (spec_Halves.l0 k1 l0 x2_1 x3_1 (wrap64 (x5_1 + 1)))) = some (r1, r2) := H
          have A11 := Aside0.mk A110
          clear A110
          by_cases c12 : t159 = true
          · subst c12
            have H1 : (if 0 ≤ x5_1 then (spec_Halves.l0 k1 l0 x2_1 (Go.bits .or .u64 x3_1 (shl .u64 1 x5_1)) (wrap64 (x5_1 + 1))) else (none)) = some (r1, r2) := by rw [if_pos rfl] at H; exact H
            clear H
            have H := H1
            clear H1
            by_cases c13 : 0 ≤ x5_1
            · rw [if_pos c13] at H
              have c13b0 := eq_true c13
              have c13b1 : decide (0 ≤ x5_1) = true := decide_eq_true c13
              clear c13
              obtain ⟨ji14, hji14⟩ : ∃ j_ : Int, (shl .u64 1 x5_1) = j_ := ⟨_, rfl⟩
              replace H : (spec_Halves.l0 k1 l0 x2_1 (Go.bits .or .u64 x3_1 (ji14)) (wrap64 (x5_1 + 1))) = some (r1, r2) := by first | (rw [hji14] at H; exact H) | (simp only [hji14] at H ⊢; exact H)
              (try rw [hji14] at A3)
              (try rw [hji14] at A11)
              have hji14_ : (IntKind.u64.wrap (1 * 2 ^ min x5_1.toNat 64)) = ji14 := hji14
              have hji14z : x5_1 ≤ 64 → (IntKind.u64.wrap (1 * 2 ^ x5_1.toNat)) = ji14 := shl_small hji14
              have hji14u : (IntKind.u64.wrap (2 ^ min x5_1.toNat 64)) = ji14 := by have h_ := hji14_; rw [Int.one_mul] at h_; exact h_
              have hji14v : x5_1 ≤ 64 → (IntKind.u64.wrap (2 ^ x5_1.toNat)) = ji14 := fun hle_ => by have h_ := hji14z hle_; rw [Int.one_mul] at h_; exact h_
              have H' := Aside0.mk H
              clear H
              go_wp2_with (first | ((with_reducible refine gate_callee (f := 37) rfl ?_); refine goesL_ (some 10) rfl rfl Try.func37 (by kernel_rfl) rfl #[.slice A0 l0.length c0, .int .i64 x5_1] rfl (by (try simp only [List.map_toArray, List.map_cons, List.map_nil]); first | done | rfl | (simp only [List.length_drop, List.length_take]; rfl)) ?_; (with_reducible refine (spec_Big_Bit.calls _ _ l0 x5_1 false _ ?side1 ?side2 A3.out).mono ?_); (case side1 => repeat (first | exact HR0.out | (with_reducible refine Kd.C_alloc ?_ _) | (with_reducible refine Kd.C_drewN ?_ _) | (with_reducible refine Kd.C_drew ?_))); (case side2 => exact HC0.out); rintro e w' ⟨rfl, ⟨nd, rfl⟩⟩; refine ⟨_, rfl, ?_⟩) | ((with_reducible refine gate_callee (f := 37) rfl ?_); refine goesL_ (some 18) rfl rfl Try.func37 (by kernel_rfl) rfl #[.slice A0 l0.length c0, .int .i64 (wrap64 (64 + x5_1))] rfl (by (try simp only [List.map_toArray, List.map_cons, List.map_nil]); first | done | rfl | (simp only [List.length_drop, List.length_take]; rfl)) ?_; (with_reducible refine (spec_Big_Bit.calls _ _ l0 (wrap64 (64 + x5_1)) true _ ?side1 ?side2 A11.out).mono ?_); (case side1 => repeat (first | exact HR0.out | (with_reducible refine Kd.C_alloc ?_ _) | (with_reducible refine Kd.C_drewN ?_ _) | (with_reducible refine Kd.C_drew ?_))); (case side2 => exact HC0.out); rintro e w' ⟨rfl, ⟨nd, rfl⟩⟩; refine ⟨_, rfl, ?_⟩))
              go_roundg k1
              case measure => have := HK1.out; omega
              case rel => exact ⟨(x2_1), (Go.bits .or .u64 x3_1 (ji14)), (wrap64 (x5_1 + 1)), (by first | rfl | (simp; done) | (simp [*]; done)), (by first | rfl | (simp; done) | (simp only [← hji14] <;> (first | rfl | simp)) | (simp [*]; done)), (by first | rfl | (simp; done) | (simp [*]; done)), H', ⟨by have := HK1.out; omega⟩, by repeat (first | exact Drawn0.refl _ | apply Drawn0.step)⟩
            · rw [if_neg c13] at H
              exact absurd H (by simp)
          · replace c12 := Bool.eq_false_iff.mpr c12
            subst c12
            have H1 : (spec_Halves.l0 k1 l0 x2_1 x3_1 (wrap64 (x5_1 + 1))) = some (r1, r2) := by rw [if_neg (show ¬ (false = true) by decide)] at H; exact H
            clear H
            have H := H1
            clear H1
            have H' := Aside0.mk H
            clear H
            go_wp2_with (first | ((with_reducible refine gate_callee (f := 37) rfl ?_); refine goesL_ (some 10) rfl rfl Try.func37 (by kernel_rfl) rfl #[.slice A0 l0.length c0, .int .i64 x5_1] rfl (by (try simp only [List.map_toArray, List.map_cons, List.map_nil]); first | done | rfl | (simp only [List.length_drop, List.length_take]; rfl)) ?_; (with_reducible refine (spec_Big_Bit.calls _ _ l0 x5_1 false _ ?side1 ?side2 A3.out).mono ?_); (case side1 => repeat (first | exact HR0.out | (with_reducible refine Kd.C_alloc ?_ _) | (with_reducible refine Kd.C_drewN ?_ _) | (with_reducible refine Kd.C_drew ?_))); (case side2 => exact HC0.out); rintro e w' ⟨rfl, ⟨nd, rfl⟩⟩; refine ⟨_, rfl, ?_⟩) | ((with_reducible refine gate_callee (f := 37) rfl ?_); refine goesL_ (some 18) rfl rfl Try.func37 (by kernel_rfl) rfl #[.slice A0 l0.length c0, .int .i64 (wrap64 (64 + x5_1))] rfl (by (try simp only [List.map_toArray, List.map_cons, List.map_nil]); first | done | rfl | (simp only [List.length_drop, List.length_take]; rfl)) ?_; (with_reducible refine (spec_Big_Bit.calls _ _ l0 (wrap64 (64 + x5_1)) false _ ?side1 ?side2 A11.out).mono ?_); (case side1 => repeat (first | exact HR0.out | (with_reducible refine Kd.C_alloc ?_ _) | (with_reducible refine Kd.C_drewN ?_ _) | (with_reducible refine Kd.C_drew ?_))); (case side2 => exact HC0.out); rintro e w' ⟨rfl, ⟨nd, rfl⟩⟩; refine ⟨_, rfl, ?_⟩))
            go_roundg k1
            case measure => have := HK1.out; omega
            case rel => exact ⟨(x2_1), (x3_1), (wrap64 (x5_1 + 1)), (by first | rfl | (simp; done) | (simp [*]; done)), (by first | rfl | (simp; done) | (simp [*]; done)), (by first | rfl | (simp; done) | (simp [*]; done)), H', ⟨by have := HK1.out; omega⟩, by repeat (first | exact Drawn0.refl _ | apply Drawn0.step)⟩
      · rw [if_neg c2] at H
        have c2b0 : decide (x5_1 < 64) = false := decide_eq_false c2
        clear c2
        simp only [Option.some.injEq, Prod.mk.injEq] at H
        obtain ⟨rfl, rfl⟩ := H
        go_wp2
        go_ret2
        exact ⟨by first | rfl | (simp; done) | (simp [*]; done), by repeat (first | exact Drawn0.refl _ | apply Drawn0.step)⟩


/-! ### laws_wideIs: function 10 -/
def laws_wideIs.f (k : Nat) (a0_0 : Int) (a0_1 : Int) (l1 : List Int) : Option (Bool) := (spec_Halves.f k l1).bind fun bt161 => (some (a0_0 == bt161.1 && (a0_1 == bt161.2)))
theorem laws_wideIs.mono : ∀ a0 a1 a2 k, LeO (laws_wideIs.f k a0 a1 a2) (laws_wideIs.f (k + 1) a0 a1 a2) := by
  intro a0 a1 a2 k
  unfold laws_wideIs.f
  repeat' first
      | (with_reducible exact spec_Halves.mono _ _)
      | (with_reducible exact LeO.refl _)
      | (with_reducible exact LeO.none _)
      | (with_reducible refine LeO.ite ?_ ?_)
      | (with_reducible refine LeO.bind ?_ (fun _ => ?_))
      | exact spec_Halves.mono _ _
      | exact LeO.none _
      | refine LeO.ite ?_ ?_
      | refine LeO.bind ?_ (fun _ => ?_)
set_option maxHeartbeats 8000000 in
set_option maxRecDepth 100000 in
theorem laws_wideIs.calls (k : Nat) (a0_0 : Int) (a0_1 : Int) (A1 : Option Addr) (c1 : Nat) (l1 : List Int) (r : Bool) (w : World) (hr1 : Kd.C (Kd.int .i64) w A1 l1.length l1) (hc1 : l1.length ≤ c1) (h : laws_wideIs.f k a0_0 a0_1 l1 = some r) :
    Calls Try.prog 10 #[.agg #[.int .u64 a0_0, .int .u64 a0_1], .slice A1 l1.length c1] w fun e w' => e = .returned (.bool r) ∧ Below w.heap.size w w' := by
  have hu24 := Try.underlying24
  have HR1 := Aside0.mk hr1
  have HC1 := Aside0.mk hc1
  clear hr1 hc1
  have HB := Aside0.mk (Below.refl w.heap.size w)
  have H : ((spec_Halves.f k l1).bind fun bt161 => (some (a0_0 == bt161.1 && (a0_1 == bt161.2)))) = some r := h
  clear h
  replace H := Option.bind_eq_some_iff.mp H
  obtain ⟨⟨t161, t162⟩, A30, H⟩ := H
  replace H : (some (a0_0 == t161 && (a0_1 == t162))) = some r := H
  have A3 := Aside0.mk A30
  clear A30
  obtain rfl := Option.some.inj H
  go_enter Try.func10, Try.ntmps10
  go_wp2_with (first | ((with_reducible refine gate_dst (N := 2) rfl ?_); refine box_event ?hg (N := 2) ?hd (cs := #[.int .u64 a0_0, .int .u64 a0_1]) (t := 24) ?hr ?_; (case hd => rfl); (case hg => rfl); (case hr => first | (go_simp; done) | (go_simp; rfl)); intro gb160 hg w4 hbox hb; have n0_ := Aside0.mk (below_step (by repeat (first | (with_reducible first | exact HB.out | apply below_alloc | apply pw_below_drewN | apply below_drew1) | exact HB.out)) hb); have n1_ := Aside0.mk (hbox); have n2_ := Aside0.mk ((by rw [hg]; exact (below_size (by repeat (first | (with_reducible first | exact HB.out | apply below_alloc | apply pw_below_drewN | apply below_drew1) | exact HB.out))) : w.heap.size ≤ gb160)); have n3_ := Aside0.mk ((by rw [hg]; exact (below_size (by repeat (first | (with_reducible first | exact HB.out | apply below_alloc | apply pw_below_drewN | apply below_drew1) | exact HB.out))) : w.heap.size ≤ gb160)); clear HB; have HB := n0_; have BK160 := n1_; have GW160 := n2_; have GE160 := n3_; clear n0_ n1_ n2_ n3_; clear hb hbox hg) | ((with_reducible refine gate_callee (f := 23) rfl ?_); refine goesL_ (some 9) rfl rfl Try.func23 (by kernel_rfl) rfl #[.slice A1 l1.length c1] rfl (by (try simp only [List.map_toArray, List.map_cons, List.map_nil]); first | done | rfl | (simp only [List.length_drop, List.length_take]; rfl)) ?_; (with_reducible refine (spec_Halves.calls k _ _ l1 t161 t162 _ ?side1 ?side2 A3.out).mono ?_); (case side1 => repeat (first | exact (Kd.C_below HR1.out HB.out) | (with_reducible refine Kd.C_alloc ?_ _) | (with_reducible refine Kd.C_drewN ?_ _) | (with_reducible refine Kd.C_drew ?_))); (case side2 => exact HC1.out); rintro e w' ⟨rfl, ⟨nd, rfl⟩⟩; refine ⟨_, rfl, ?_⟩; have hcz5_0 : w4.cell? ⟨gb160, 0, none⟩ = some (.int .u64 a0_0) := (blk_cell BK160.out 0).trans rfl; have hcz5_1 : w4.cell? ⟨gb160, 1, none⟩ = some (.int .u64 a0_1) := (blk_cell BK160.out 1).trans rfl; have hfz5_0 := blk_frozen BK160.out 0; have hfz5_1 := blk_frozen BK160.out 1))
  go_ret
  exact ⟨by first | rfl | (simp [errW_none, errW_some] <;> rfl) | (simp [*, errW_none, errW_some] <;> rfl), by repeat (first | (with_reducible first | exact HB.out | apply below_alloc | apply pw_below_drewN | apply below_drew1 | refine below_set ?_ GE160.out) | exact HB.out)⟩


end Go.Proofs.Ytjmgiodkfgdgnaa.SAll
