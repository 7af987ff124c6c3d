/- Printed by the kit's print.py, called for several laws at once: functions as plain Lean, and the walks' contracts. -/
import Derived.Test.YtiifnofghicnaaaPAllx0
import Derived.Test.YtiifnofghicnaaaPAllx1
import Derived.Test.YtiifnofghicnaaaPAllx3
namespace Go.Proofs.Ytiifnofghicnaaa.PAll
open Go.RowKit Go.Proofs.YtiifnofghicnaaaW.PrintWords Go.Proofs.YtiifnofghicnaaaW.PrintLast Go.Proofs.YtiifnofghicnaaaW.PrintMore
attribute [local go_sem] max2_int min2_int max_two min_two max_three min_three max_four min_four   -- for this text's walks alone
set_option linter.unusedVariables false
set_option linter.unusedSimpArgs false

attribute [local go_sem high] eqA24
/-! ### spec_Halves: function 79 -/
def spec_Halves.l0 : Nat → List Int → Int → Int → Int → Option (Int × Int)
  | 0, _, _, _, _ => none
  | k + 1, x0, x2, x3, x5 => if x5 < 64 then ((spec_Big_Bit.f x0 x5).bind fun t125 => (if t125 = true then (if 0 ≤ x5 then ((spec_Big_Bit.f x0 (wrap64 (64 + x5))).bind fun t126 => (if t126 = true then (spec_Halves.l0 k x0 (Go.bits .or .u64 x2 (shl .u64 1 x5)) (Go.bits .or .u64 x3 (shl .u64 1 x5)) (wrap64 (x5 + 1))) else (spec_Halves.l0 k x0 (Go.bits .or .u64 x2 (shl .u64 1 x5)) x3 (wrap64 (x5 + 1))))) else (none)) else ((spec_Big_Bit.f x0 (wrap64 (64 + x5))).bind fun t127 => (if t127 = true then (if 0 ≤ x5 then (spec_Halves.l0 k x0 x2 (Go.bits .or .u64 x3 (shl .u64 1 x5)) (wrap64 (x5 + 1))) else (none)) else (spec_Halves.l0 k x0 x2 x3 (wrap64 (x5 + 1))))))) else (some (x2, x3))
def spec_Halves.f (k : Nat) (l0 : List Int) : Option (Int × Int) := spec_Halves.l0 k l0 0 0 0
theorem spec_Halves.mono_l : ∀ k, (∀ y0 y1 y2 y3, LeO (spec_Halves.l0 k y0 y1 y2 y3) (spec_Halves.l0 (k + 1) y0 y1 y2 y3))
  | 0 => fun _ _ _ _ r h => by simp [spec_Halves.l0] at h
  | k + 1 => by
    have ih0 := spec_Halves.mono_l k
    · intro y0 y1 y2 y3
      unfold spec_Halves.l0
      repeat' first
      | (with_reducible exact ih0 _ _ _ _)
      | (with_reducible exact LeO.refl _)
      | (with_reducible exact LeO.none _)
      | (with_reducible refine LeO.ite ?_ ?_)
      | (with_reducible refine LeO.bind ?_ (fun _ => ?_))
      | exact ih0 _ _ _ _
      | exact LeO.none _
      | refine LeO.ite ?_ ?_
      | refine LeO.bind ?_ (fun _ => ?_)
theorem spec_Halves.mono : ∀ a0 k, LeO (spec_Halves.f k a0) (spec_Halves.f (k + 1) a0) := by
  intro a0 k
  have ih0 := spec_Halves.mono_l k
  unfold spec_Halves.f
  repeat' first
      | (with_reducible exact ih0 _ _ _ _)
      | (with_reducible exact LeO.refl _)
      | (with_reducible exact LeO.none _)
      | (with_reducible refine LeO.ite ?_ ?_)
      | (with_reducible refine LeO.bind ?_ (fun _ => ?_))
      | exact ih0 _ _ _ _
      | exact LeO.none _
      | refine LeO.ite ?_ ?_
      | refine LeO.bind ?_ (fun _ => ?_)
set_option maxHeartbeats 8000000 in
set_option maxRecDepth 100000 in
theorem spec_Halves.calls (k : Nat) (A0 : Option Addr) (c0 : Nat) (l0 : List Int) (r1 : Int) (r2 : Int) (w : World) (hr0 : Kd.C (Kd.int .i64) w A0 l0.length l0) (hc0 : l0.length ≤ c0) (h : spec_Halves.f k l0 = some (r1, r2)) :
    Calls Try.prog 79 #[.slice A0 l0.length c0] w fun e w' => e = .returned (.tuple #[.int .u64 r1, .int .u64 r2]) ∧ Drawn0 w w' := by
  have HR0 := Aside0.mk hr0
  have HC0 := Aside0.mk hc0
  clear hr0 hc0
  have H : (spec_Halves.l0 k l0 0 0 0) = some (r1, r2) := h
  clear h
  have H' := Aside0.mk H
  clear H
  go_enter Try.func79, Try.ntmps79
  go_wp2
  go_loopg [2, 3, 5] k (fun kq v2 v3 v5 w' => ∃ (x2_1 : Int) (x3_1 : Int) (x5_1 : Int), v2 = .int .u64 x2_1 ∧ v3 = .int .u64 x3_1 ∧ v5 = .int .i64 x5_1 ∧ Aside0 (spec_Halves.l0 kq l0 x2_1 x3_1 x5_1 = some (r1, r2)) ∧ Aside0 (kq ≤ k) ∧ Drawn0 w w')
  case atStart => exact ⟨(0), (0), (0), (by first | rfl | (simp; done) | (simp [*]; done)), (by first | rfl | (simp; done) | (simp [*]; done)), (by first | rfl | (simp; done) | (simp [*]; done)), H', ⟨Nat.le_refl _⟩, by repeat (first | exact Drawn0.refl _ | apply Drawn0.step)⟩
  case round =>
    clear H'
    obtain ⟨x2_1, x3_1, x5_1, rfl, rfl, rfl, HA, HK1, ⟨m1, rfl⟩⟩ := hrel
    cases gk with
    | zero => exact absurd HA.out (by simp [spec_Halves.l0])
    | succ k1 =>
      have H := HA.out
      clear HA
      simp only [spec_Halves.l0] at H
      by_cases c2 : x5_1 < 64
      · rw [if_pos c2] at H
        have c2b0 : decide (x5_1 < 64) = true := decide_eq_true c2
        clear c2
        replace H := Option.bind_eq_some_iff.mp H
        obtain ⟨t125, A30, H⟩ := H
        replace H : (if t125 = true then (if 0 ≤ x5_1 then ((spec_Big_Bit.f l0 (wrap64 (64 + x5_1))).bind fun t126 => (if t126 = true then (spec_Halves.l0 k1 l0 (Go.bits .or .u64 x2_1 (shl .u64 1 x5_1)) (Go.bits .or .u64 x3_1 (shl .u64 1 x5_1)) (wrap64 (x5_1 + 1))) else (spec_Halves.l0 k1 l0 (Go.bits .or .u64 x2_1 (shl .u64 1 x5_1)) x3_1 (wrap64 (x5_1 + 1))))) else (none)) else ((spec_Big_Bit.f l0 (wrap64 (64 + x5_1))).bind fun t127 => (if t127 = true then (if 0 ≤ x5_1 then (spec_Halves.l0 k1 l0 x2_1 (Go.bits .or .u64 x3_1 (shl .u64 1 x5_1)) (wrap64 (x5_1 + 1))) else (none)) else (spec_Halves.l0 k1 l0 x2_1 x3_1 (wrap64 (x5_1 + 1)))))) = some (r1, r2) := H
        have A3 := Aside0.mk A30
        clear A30
        by_cases c4 : t125 = true
        · subst c4
          have H1 : (if 0 ≤ x5_1 then ((spec_Big_Bit.f l0 (wrap64 (64 + x5_1))).bind fun t126 => (if t126 = true then (spec_Halves.l0 k1 l0 (Go.bits .or .u64 x2_1 (shl .u64 1 x5_1)) (Go.bits .or .u64 x3_1 (shl .u64 1 x5_1)) (wrap64 (x5_1 + 1))) else (spec_Halves.l0 k1 l0 (Go.bits .or .u64 x2_1 (shl .u64 1 x5_1)) x3_1 (wrap64 (x5_1 + 1))))) else (none)) = some (r1, r2) := by rw [if_pos rfl] at H; exact H
          clear H
          have H := H1
          clear H1
          by_cases c5 : 0 ≤ x5_1
          · rw [if_pos c5] at H
            have c5b0 := eq_true c5
            have c5b1 : decide (0 ≤ x5_1) = true := decide_eq_true c5
            clear c5
            obtain ⟨ji6, hji6⟩ : ∃ j_ : Int, (shl .u64 1 x5_1) = j_ := ⟨_, rfl⟩
            replace H : ((spec_Big_Bit.f l0 (wrap64 (64 + x5_1))).bind fun t126 => (if t126 = true then (spec_Halves.l0 k1 l0 (Go.bits .or .u64 x2_1 (ji6)) (Go.bits .or .u64 x3_1 (ji6)) (wrap64 (x5_1 + 1))) else (spec_Halves.l0 k1 l0 (Go.bits .or .u64 x2_1 (ji6)) x3_1 (wrap64 (x5_1 + 1))))) = some (r1, r2) := by first | (rw [hji6] at H; exact H) | (simp only [hji6] at H ⊢; exact H)
            (try rw [hji6] at A3)
            have hji6_ : (IntKind.u64.wrap (1 * 2 ^ min x5_1.toNat 64)) = ji6 := hji6
            have hji6z : x5_1 ≤ 64 → (IntKind.u64.wrap (1 * 2 ^ x5_1.toNat)) = ji6 := shl_small hji6
            have hji6u : (IntKind.u64.wrap (2 ^ min x5_1.toNat 64)) = ji6 := by have h_ := hji6_; rw [Int.one_mul] at h_; exact h_
            have hji6v : x5_1 ≤ 64 → (IntKind.u64.wrap (2 ^ x5_1.toNat)) = ji6 := fun hle_ => by have h_ := hji6z hle_; rw [Int.one_mul] at h_; exact h_
            replace H := Option.bind_eq_some_iff.mp H
            obtain ⟨t126, A70, H⟩ := H
            replace H : (if t126 = true then (spec_Halves.l0 k1 l0 (Go.bits .or .u64 x2_1 (ji6)) (Go.bits .or .u64 x3_1 (ji6)) (wrap64 (x5_1 + 1))) else (spec_Halves.l0 k1 l0 (Go.bits .or .u64 x2_1 (ji6)) x3_1 (wrap64 (x5_1 + 1)))) = some (r1, r2) := H
            have A7 := Aside0.mk A70
            clear A70
            by_cases c8 : t126 = true
            · subst c8
              have H1 : (spec_Halves.l0 k1 l0 (Go.bits .or .u64 x2_1 (ji6)) (Go.bits .or .u64 x3_1 (ji6)) (wrap64 (x5_1 + 1))) = some (r1, r2) := by rw [if_pos rfl] at H; exact H
              clear H
              have H := H1
              clear H1
              have c9b0 := eq_true (of_decide_eq_true (by first | (with_reducible assumption) | assumption) : 0 ≤ x5_1)
              have H' := Aside0.mk H
              clear H
              go_wp2_with (first | ((with_reducible refine gate_callee (f := 41) rfl ?_); refine goesL_ (some 10) rfl rfl Try.func41 (by kernel_rfl) rfl #[.slice A0 l0.length c0, .int .i64 x5_1] rfl (by (try simp only [List.map_toArray, List.map_cons, List.map_nil]); first | done | rfl | (simp only [List.length_drop, List.length_take]; rfl)) ?_; (with_reducible refine (spec_Big_Bit.calls _ _ l0 x5_1 true _ ?side1 ?side2 A3.out).mono ?_); (case side1 => repeat (first | exact HR0.out | (with_reducible refine Kd.C_alloc ?_ _) | (with_reducible refine Kd.C_drewN ?_ _) | (with_reducible refine Kd.C_drew ?_))); (case side2 => exact HC0.out); rintro e w' ⟨rfl, ⟨nd, rfl⟩⟩; refine ⟨_, rfl, ?_⟩) | ((with_reducible refine gate_callee (f := 41) rfl ?_); refine goesL_ (some 18) rfl rfl Try.func41 (by kernel_rfl) rfl #[.slice A0 l0.length c0, .int .i64 (wrap64 (64 + x5_1))] rfl (by (try simp only [List.map_toArray, List.map_cons, List.map_nil]); first | done | rfl | (simp only [List.length_drop, List.length_take]; rfl)) ?_; (with_reducible refine (spec_Big_Bit.calls _ _ l0 (wrap64 (64 + x5_1)) true _ ?side1 ?side2 A7.out).mono ?_); (case side1 => repeat (first | exact HR0.out | (with_reducible refine Kd.C_alloc ?_ _) | (with_reducible refine Kd.C_drewN ?_ _) | (with_reducible refine Kd.C_drew ?_))); (case side2 => exact HC0.out); rintro e w' ⟨rfl, ⟨nd, rfl⟩⟩; refine ⟨_, rfl, ?_⟩))
              go_roundg k1
              case measure => have := HK1.out; omega
              case rel => exact ⟨(Go.bits .or .u64 x2_1 (ji6)), (Go.bits .or .u64 x3_1 (ji6)), (wrap64 (x5_1 + 1)), (by first | rfl | (simp; done) | (simp only [← hji6] <;> (first | rfl | simp)) | (simp [*]; done)), (by first | rfl | (simp; done) | (simp only [← hji6] <;> (first | rfl | simp)) | (simp [*]; done)), (by first | rfl | (simp; done) | (simp [*]; done)), H', ⟨by have := HK1.out; omega⟩, by repeat (first | exact Drawn0.refl _ | apply Drawn0.step)⟩
            · replace c8 := Bool.eq_false_iff.mpr c8
              subst c8
              have H1 : (spec_Halves.l0 k1 l0 (Go.bits .or .u64 x2_1 (ji6)) x3_1 (wrap64 (x5_1 + 1))) = some (r1, r2) := by rw [if_neg (show ¬ (false = true) by decide)] at H; exact H
              clear H
              have H := H1
              clear H1
              have H' := Aside0.mk H
              clear H
              go_wp2_with (first | ((with_reducible refine gate_callee (f := 41) rfl ?_); refine goesL_ (some 10) rfl rfl Try.func41 (by kernel_rfl) rfl #[.slice A0 l0.length c0, .int .i64 x5_1] rfl (by (try simp only [List.map_toArray, List.map_cons, List.map_nil]); first | done | rfl | (simp only [List.length_drop, List.length_take]; rfl)) ?_; (with_reducible refine (spec_Big_Bit.calls _ _ l0 x5_1 true _ ?side1 ?side2 A3.out).mono ?_); (case side1 => repeat (first | exact HR0.out | (with_reducible refine Kd.C_alloc ?_ _) | (with_reducible refine Kd.C_drewN ?_ _) | (with_reducible refine Kd.C_drew ?_))); (case side2 => exact HC0.out); rintro e w' ⟨rfl, ⟨nd, rfl⟩⟩; refine ⟨_, rfl, ?_⟩) | ((with_reducible refine gate_callee (f := 41) rfl ?_); refine goesL_ (some 18) rfl rfl Try.func41 (by kernel_rfl) rfl #[.slice A0 l0.length c0, .int .i64 (wrap64 (64 + x5_1))] rfl (by (try simp only [List.map_toArray, List.map_cons, List.map_nil]); first | done | rfl | (simp only [List.length_drop, List.length_take]; rfl)) ?_; (with_reducible refine (spec_Big_Bit.calls _ _ l0 (wrap64 (64 + x5_1)) false _ ?side1 ?side2 A7.out).mono ?_); (case side1 => repeat (first | exact HR0.out | (with_reducible refine Kd.C_alloc ?_ _) | (with_reducible refine Kd.C_drewN ?_ _) | (with_reducible refine Kd.C_drew ?_))); (case side2 => exact HC0.out); rintro e w' ⟨rfl, ⟨nd, rfl⟩⟩; refine ⟨_, rfl, ?_⟩))
              go_roundg k1
              case measure => have := HK1.out; omega
              case rel => exact ⟨(Go.bits .or .u64 x2_1 (ji6)), (x3_1), (wrap64 (x5_1 + 1)), (by first | rfl | (simp; done) | (simp only [← hji6] <;> (first | rfl | simp)) | (simp [*]; done)), (by first | rfl | (simp; done) | (simp [*]; done)), (by first | rfl | (simp; done) | (simp [*]; done)), H', ⟨by have := HK1.out; omega⟩, by repeat (first | exact Drawn0.refl _ | apply Drawn0.step)⟩
          · rw [if_neg c5] at H
            exact absurd H (by simp)
        · replace c4 := Bool.eq_false_iff.mpr c4
          subst c4
          have H1 : ((spec_Big_Bit.f l0 (wrap64 (64 + x5_1))).bind fun t127 => (if t127 = true then (if 0 ≤ x5_1 then (spec_Halves.l0 k1 l0 x2_1 (Go.bits .or .u64 x3_1 (shl .u64 1 x5_1)) (wrap64 (x5_1 + 1))) else (none)) else (spec_Halves.l0 k1 l0 x2_1 x3_1 (wrap64 (x5_1 + 1))))) = some (r1, r2) := by rw [if_neg (show ¬ (false = true) by decide)] at H; exact H
          clear H
          have H := H1
          clear H1
          replace H := Option.bind_eq_some_iff.mp H
          obtain ⟨t127, A110, H⟩ := H
          replace H : (if t127 = true then (if 0 ≤ x5_1 then (spec_Halves.l0 k1 l0 x2_1 (Go.bits .or .u64 x3_1 (shl .u64 1 x5_1)) (wrap64 (x5_1 + 1))) else (none)) else (spec_Halves.l0 k1 l0 x2_1 x3_1 (wrap64 (x5_1 + 1)))) = some (r1, r2) := H
          have A11 := Aside0.mk A110
          clear A110
          by_cases c12 : t127 = true
          · subst c12
            have H1 : (if 0 ≤ x5_1 then (spec_Halves.l0 k1 l0 x2_1 (Go.bits .or .u64 x3_1 (shl .u64 1 x5_1)) (wrap64 (x5_1 + 1))) else (none)) = some (r1, r2) := by rw [if_pos rfl] at H; exact H
            clear H
            have H := H1
            clear H1
            by_cases c13 : 0 ≤ x5_1
            · rw [if_pos c13] at H
              have c13b0 := eq_true c13
              have c13b1 : decide (0 ≤ x5_1) = true := decide_eq_true c13
              clear c13
              obtain ⟨ji14, hji14⟩ : ∃ j_ : Int, (shl .u64 1 x5_1) = j_ := ⟨_, rfl⟩
              replace H : (spec_Halves.l0 k1 l0 x2_1 (Go.bits .or .u64 x3_1 (ji14)) (wrap64 (x5_1 + 1))) = some (r1, r2) := by first | (rw [hji14] at H; exact H) | (simp only [hji14] at H ⊢; exact H)
              (try rw [hji14] at A3)
              (try rw [hji14] at A11)
              have hji14_ : (IntKind.u64.wrap (1 * 2 ^ min x5_1.toNat 64)) = ji14 := hji14
              have hji14z : x5_1 ≤ 64 → (IntKind.u64.wrap (1 * 2 ^ x5_1.toNat)) = ji14 := shl_small hji14
              have hji14u : (IntKind.u64.wrap (2 ^ min x5_1.toNat 64)) = ji14 := by have h_ := hji14_; rw [Int.one_mul] at h_; exact h_
              have hji14v : x5_1 ≤ 64 → (IntKind.u64.wrap (2 ^ x5_1.toNat)) = ji14 := fun hle_ => by have h_ := hji14z hle_; rw [Int.one_mul] at h_; exact h_
              have H' := Aside0.mk H
              clear H
              go_wp2_with (first | ((with_reducible refine gate_callee (f := 41) rfl ?_); refine goesL_ (some 10) rfl rfl Try.func41 (by kernel_rfl) rfl #[.slice A0 l0.length c0, .int .i64 x5_1] rfl (by (try simp only [List.map_toArray, List.map_cons, List.map_nil]); first | done | rfl | (simp only [List.length_drop, List.length_take]; rfl)) ?_; (with_reducible refine (spec_Big_Bit.calls _ _ l0 x5_1 false _ ?side1 ?side2 A3.out).mono ?_); (case side1 => repeat (first | exact HR0.out | (with_reducible refine Kd.C_alloc ?_ _) | (with_reducible refine Kd.C_drewN ?_ _) | (with_reducible refine Kd.C_drew ?_))); (case side2 => exact HC0.out); rintro e w' ⟨rfl, ⟨nd, rfl⟩⟩; refine ⟨_, rfl, ?_⟩) | ((with_reducible refine gate_callee (f := 41) rfl ?_); refine goesL_ (some 18) rfl rfl Try.func41 (by kernel_rfl) rfl #[.slice A0 l0.length c0, .int .i64 (wrap64 (64 + x5_1))] rfl (by (try simp only [List.map_toArray, List.map_cons, List.map_nil]); first | done | rfl | (simp only [List.length_drop, List.length_take]; rfl)) ?_; (with_reducible refine (spec_Big_Bit.calls _ _ l0 (wrap64 (64 + x5_1)) true _ ?side1 ?side2 A11.out).mono ?_); (case side1 => repeat (first | exact HR0.out | (with_reducible refine Kd.C_alloc ?_ _) | (with_reducible refine Kd.C_drewN ?_ _) | (with_reducible refine Kd.C_drew ?_))); (case side2 => exact HC0.out); rintro e w' ⟨rfl, ⟨nd, rfl⟩⟩; refine ⟨_, rfl, ?_⟩))
              go_roundg k1
              case measure => have := HK1.out; omega
              case rel => exact ⟨(x2_1), (Go.bits .or .u64 x3_1 (ji14)), (wrap64 (x5_1 + 1)), (by first | rfl | (simp; done) | (simp [*]; done)), (by first | rfl | (simp; done) | (simp only [← hji14] <;> (first | rfl | simp)) | (simp [*]; done)), (by first | rfl | (simp; done) | (simp [*]; done)), H', ⟨by have := HK1.out; omega⟩, by repeat (first | exact Drawn0.refl _ | apply Drawn0.step)⟩
            · rw [if_neg c13] at H
              exact absurd H (by simp)
          · replace c12 := Bool.eq_false_iff.mpr c12
            subst c12
            have H1 : (spec_Halves.l0 k1 l0 x2_1 x3_1 (wrap64 (x5_1 + 1))) = some (r1, r2) := by rw [if_neg (show ¬ (false = true) by decide)] at H; exact H
            clear H
            have H := H1
            clear H1
            have H' := Aside0.mk H
            clear H
            go_wp2_with (first | ((with_reducible refine gate_callee (f := 41) rfl ?_); refine goesL_ (some 10) rfl rfl Try.func41 (by kernel_rfl) rfl #[.slice A0 l0.length c0, .int .i64 x5_1] rfl (by (try simp only [List.map_toArray, List.map_cons, List.map_nil]); first | done | rfl | (simp only [List.length_drop, List.length_take]; rfl)) ?_; (with_reducible refine (spec_Big_Bit.calls _ _ l0 x5_1 false _ ?side1 ?side2 A3.out).mono ?_); (case side1 => repeat (first | exact HR0.out | (with_reducible refine Kd.C_alloc ?_ _) | (with_reducible refine Kd.C_drewN ?_ _) | (with_reducible refine Kd.C_drew ?_))); (case side2 => exact HC0.out); rintro e w' ⟨rfl, ⟨nd, rfl⟩⟩; refine ⟨_, rfl, ?_⟩) | ((with_reducible refine gate_callee (f := 41) rfl ?_); refine goesL_ (some 18) rfl rfl Try.func41 (by kernel_rfl) rfl #[.slice A0 l0.length c0, .int .i64 (wrap64 (64 + x5_1))] rfl (by (try simp only [List.map_toArray, List.map_cons, List.map_nil]); first | done | rfl | (simp only [List.length_drop, List.length_take]; rfl)) ?_; (with_reducible refine (spec_Big_Bit.calls _ _ l0 (wrap64 (64 + x5_1)) false _ ?side1 ?side2 A11.out).mono ?_); (case side1 => repeat (first | exact HR0.out | (with_reducible refine Kd.C_alloc ?_ _) | (with_reducible refine Kd.C_drewN ?_ _) | (with_reducible refine Kd.C_drew ?_))); (case side2 => exact HC0.out); rintro e w' ⟨rfl, ⟨nd, rfl⟩⟩; refine ⟨_, rfl, ?_⟩))
            go_roundg k1
            case measure => have := HK1.out; omega
            case rel => exact ⟨(x2_1), (x3_1), (wrap64 (x5_1 + 1)), (by first | rfl | (simp; done) | (simp [*]; done)), (by first | rfl | (simp; done) | (simp [*]; done)), (by first | rfl | (simp; done) | (simp [*]; done)), H', ⟨by have := HK1.out; omega⟩, by repeat (first | exact Drawn0.refl _ | apply Drawn0.step)⟩
      · rw [if_neg c2] at H
        have c2b0 : decide (x5_1 < 64) = false := decide_eq_false c2
        clear c2
        simp only [Option.some.injEq, Prod.mk.injEq] at H
        obtain ⟨rfl, rfl⟩ := H
        go_wp2
        go_ret2
        exact ⟨by first | rfl | (simp; done) | (simp [*]; done), by repeat (first | exact Drawn0.refl _ | apply Drawn0.step)⟩


/-! ### laws_wideIs: function 27 -/
def laws_wideIs.f (k : Nat) (a0_0 : Int) (a0_1 : Int) (l1 : List Int) : Option (Bool) := (spec_Halves.f k l1).bind fun bt129 => (some (a0_0 == bt129.1 && (a0_1 == bt129.2)))
theorem laws_wideIs.mono : ∀ a0 a1 a2 k, LeO (laws_wideIs.f k a0 a1 a2) (laws_wideIs.f (k + 1) a0 a1 a2) := by
  intro a0 a1 a2 k
  unfold laws_wideIs.f
  repeat' first
      | (with_reducible exact spec_Halves.mono _ _)
      | (with_reducible exact LeO.refl _)
      | (with_reducible exact LeO.none _)
      | (with_reducible refine LeO.ite ?_ ?_)
      | (with_reducible refine LeO.bind ?_ (fun _ => ?_))
      | exact spec_Halves.mono _ _
      | exact LeO.none _
      | refine LeO.ite ?_ ?_
      | refine LeO.bind ?_ (fun _ => ?_)
set_option maxHeartbeats 8000000 in
set_option maxRecDepth 100000 in
theorem laws_wideIs.calls (k : Nat) (a0_0 : Int) (a0_1 : Int) (A1 : Option Addr) (c1 : Nat) (l1 : List Int) (r : Bool) (w : World) (hr1 : Kd.C (Kd.int .i64) w A1 l1.length l1) (hc1 : l1.length ≤ c1) (h : laws_wideIs.f k a0_0 a0_1 l1 = some r) :
    Calls Try.prog 27 #[.agg #[.int .u64 a0_0, .int .u64 a0_1], .slice A1 l1.length c1] w fun e w' => e = .returned (.bool r) ∧ Below w.heap.size w w' := by
  have hu24 := Try.underlying24
  have HR1 := Aside0.mk hr1
  have HC1 := Aside0.mk hc1
  clear hr1 hc1
  have HB := Aside0.mk (Below.refl w.heap.size w)
  have H : ((spec_Halves.f k l1).bind fun bt129 => (some (a0_0 == bt129.1 && (a0_1 == bt129.2)))) = some r := h
  clear h
  replace H := Option.bind_eq_some_iff.mp H
  obtain ⟨⟨t129, t130⟩, A30, H⟩ := H
  replace H : (some (a0_0 == t129 && (a0_1 == t130))) = some r := H
  have A3 := Aside0.mk A30
  clear A30
  obtain rfl := Option.some.inj H
  go_enter Try.func27, Try.ntmps27
  go_wp2_with (first | ((with_reducible refine gate_dst (N := 2) rfl ?_); refine box_event ?hg (N := 2) ?hd (cs := #[.int .u64 a0_0, .int .u64 a0_1]) (t := 24) ?hr ?_; (case hd => rfl); (case hg => rfl); (case hr => first | (go_simp; done) | (go_simp; rfl)); intro gb128 hg w4 hbox hb; have n0_ := Aside0.mk (below_step (by repeat (first | (with_reducible first | exact HB.out | apply below_alloc | apply pw_below_drewN | apply below_drew1) | exact HB.out)) hb); have n1_ := Aside0.mk (hbox); have n2_ := Aside0.mk ((by rw [hg]; exact (below_size (by repeat (first | (with_reducible first | exact HB.out | apply below_alloc | apply pw_below_drewN | apply below_drew1) | exact HB.out))) : w.heap.size ≤ gb128)); have n3_ := Aside0.mk ((by rw [hg]; exact (below_size (by repeat (first | (with_reducible first | exact HB.out | apply below_alloc | apply pw_below_drewN | apply below_drew1) | exact HB.out))) : w.heap.size ≤ gb128)); clear HB; have HB := n0_; have BK128 := n1_; have GW128 := n2_; have GE128 := n3_; clear n0_ n1_ n2_ n3_; clear hb hbox hg) | ((with_reducible refine gate_callee (f := 79) rfl ?_); refine goesL_ (some 9) rfl rfl Try.func79 (by kernel_rfl) rfl #[.slice A1 l1.length c1] rfl (by (try simp only [List.map_toArray, List.map_cons, List.map_nil]); first | done | rfl | (simp only [List.length_drop, List.length_take]; rfl)) ?_; (with_reducible refine (spec_Halves.calls k _ _ l1 t129 t130 _ ?side1 ?side2 A3.out).mono ?_); (case side1 => repeat (first | exact (Kd.C_below HR1.out HB.out) | (with_reducible refine Kd.C_alloc ?_ _) | (with_reducible refine Kd.C_drewN ?_ _) | (with_reducible refine Kd.C_drew ?_))); (case side2 => exact HC1.out); rintro e w' ⟨rfl, ⟨nd, rfl⟩⟩; refine ⟨_, rfl, ?_⟩; have hcz5_0 : w4.cell? ⟨gb128, 0, none⟩ = some (.int .u64 a0_0) := (blk_cell BK128.out 0).trans rfl; have hcz5_1 : w4.cell? ⟨gb128, 1, none⟩ = some (.int .u64 a0_1) := (blk_cell BK128.out 1).trans rfl; have hfz5_0 := blk_frozen BK128.out 0; have hfz5_1 := blk_frozen BK128.out 1))
  go_ret
  exact ⟨by first | rfl | (simp [errW_none, errW_some] <;> rfl) | (simp [*, errW_none, errW_some] <;> rfl), by repeat (first | (with_reducible first | exact HB.out | apply below_alloc | apply pw_below_drewN | apply below_drew1 | refine below_set ?_ GE128.out) | exact HB.out)⟩


/-! ### impl_wide: function 80 -/
def impl_wide.f (a0_0 : Int) (a0_1 : Int) : Option (Int × Int) := some (a0_0, a0_1)
set_option maxHeartbeats 8000000 in
set_option maxRecDepth 100000 in
theorem impl_wide.calls (a0_0 : Int) (a0_1 : Int) (r1 : Int) (r2 : Int) (w : World) (h : impl_wide.f a0_0 a0_1 = some (r1, r2)) :
    Calls Try.prog 80 #[.agg #[.int .u64 a0_0, .int .u64 a0_1]] w fun e w' => e = .returned (.agg #[.int .u64 r1, .int .u64 r2]) ∧ Below w.heap.size w w' := by
  have hu59 := Try.underlying59
  have hu24 := Try.underlying24
  have HB := Aside0.mk (Below.refl w.heap.size w)
  have H : (some (a0_0, a0_1)) = some (r1, r2) := h
  clear h
  simp only [Option.some.injEq, Prod.mk.injEq] at H
  obtain ⟨rfl, rfl⟩ := H
  go_enter Try.func80, Try.ntmps80
  go_wp2_with (first | ((with_reducible refine gate_dst (N := 1) rfl ?_); refine box_event ?hg (N := 1) ?hd (cs := #[.int .u64 a0_0, .int .u64 a0_1]) (t := 59) ?hr ?_; (case hd => rfl); (case hg => rfl); (case hr => first | (go_simp; done) | (go_simp; rfl)); intro gb131 hg w2 hbox hb; have n0_ := Aside0.mk (below_step (by repeat (first | (with_reducible first | exact HB.out | apply below_alloc | apply pw_below_drewN | apply below_drew1) | exact HB.out)) hb); have n1_ := Aside0.mk (hbox); have n2_ := Aside0.mk ((by rw [hg]; exact (below_size (by repeat (first | (with_reducible first | exact HB.out | apply below_alloc | apply pw_below_drewN | apply below_drew1) | exact HB.out))) : w.heap.size ≤ gb131)); have n3_ := Aside0.mk ((by rw [hg]; exact (below_size (by repeat (first | (with_reducible first | exact HB.out | apply below_alloc | apply pw_below_drewN | apply below_drew1) | exact HB.out))) : w.heap.size ≤ gb131)); clear HB; have HB := n0_; have BK131 := n1_; have GW131 := n2_; have GE131 := n3_; clear n0_ n1_ n2_ n3_; clear hb hbox hg) | ((with_reducible refine gate_dst (N := 2) rfl ?_); refine box_event ?hg (N := 2) ?hd (cs := #[.int .u64 0, .int .u64 0]) (t := 24) ?hr ?_; (case hd => rfl); (case hg => rfl); (case hr => first | (go_simp; done) | (go_simp; rfl)); intro gb132 hg w3 hbox hb; have n0_ := Aside0.mk (blk_below (g := gb131) (o := .cells #[.int .u64 a0_0, .int .u64 a0_1] 59 (0, 0)) (by (with_reducible repeat (first | refine blk_drewN ?_ _ | refine blk_drew ?_ | refine blk_alloc ?_ _)); exact BK131.out) hb); have n1_ := Aside0.mk (below_step (by repeat (first | (with_reducible first | exact HB.out | apply below_alloc | apply pw_below_drewN | apply below_drew1 | refine below_set ?_ GE131.out) | exact HB.out)) hb); have n2_ := Aside0.mk (hbox); have n3_ := Aside0.mk ((by rw [hg]; exact (below_size (by repeat (first | (with_reducible first | exact HB.out | apply below_alloc | apply pw_below_drewN | apply below_drew1 | refine below_set ?_ GE131.out) | exact HB.out))) : w.heap.size ≤ gb132)); have n4_ := Aside0.mk ((by rw [hg]; exact (below_size (by repeat (first | (with_reducible first | exact HB.out | apply below_alloc | apply pw_below_drewN | apply below_drew1 | refine below_set ?_ GE131.out) | exact HB.out))) : w.heap.size ≤ gb132)); have n5_ := Aside0.mk ((by rw [hg]; exact Nat.ne_of_lt (blk_lt (g := gb131) (o := .cells #[.int .u64 a0_0, .int .u64 a0_1] 59 (0, 0)) (by (with_reducible repeat (first | refine blk_drewN ?_ _ | refine blk_drew ?_ | refine blk_alloc ?_ _)); exact BK131.out)) : gb131 ≠ gb132)); have n6_ := Aside0.mk ((by rw [hg]; exact Nat.ne_of_gt (blk_lt (g := gb131) (o := .cells #[.int .u64 a0_0, .int .u64 a0_1] 59 (0, 0)) (by (with_reducible repeat (first | refine blk_drewN ?_ _ | refine blk_drew ?_ | refine blk_alloc ?_ _)); exact BK131.out)) : gb132 ≠ gb131)); clear BK131; clear HB; have BK131 := n0_; have HB := n1_; have BK132 := n2_; have GW132 := n3_; have GE132 := n4_; have NB131_132 := n5_; have NB132_131 := n6_; clear n0_ n1_ n2_ n3_ n4_ n5_ n6_; clear hb hbox hg; have hnb4 := NB131_132.out; have hnc4 := NB132_131.out; have hcz5_0 : w3.cell? ⟨gb131, 0, none⟩ = some (.int .u64 a0_0) := (blk_cell BK131.out 0).trans rfl; have hcz5_1 : w3.cell? ⟨gb131, 1, none⟩ = some (.int .u64 a0_1) := (blk_cell BK131.out 1).trans rfl; have hfz5_0 := blk_frozen BK131.out 0; have hfz5_1 := blk_frozen BK131.out 1; have hcz6_0 : w3.cell? ⟨gb132, 0, none⟩ = some (.int .u64 0) := (blk_cell BK132.out 0).trans rfl; have hcz6_1 : w3.cell? ⟨gb132, 1, none⟩ = some (.int .u64 0) := (blk_cell BK132.out 1).trans rfl; have hfz6_0 := blk_frozen BK132.out 0; have hfz6_1 := blk_frozen BK132.out 1))
  refine bodyPost_ret (results_cell_row rfl _ _ gb132 24 #[.int .u64 a0_0, .int .u64 a0_1] (0, 0) _ rfl (by (with_reducible repeat (first | refine blk_drewN ?_ _ | refine blk_drew ?_ | refine blk_alloc ?_ _)); refine blk_put (cs := #[.int .u64 a0_0, .int .u64 0]) ?_ 1 _ rfl; (with_reducible repeat (first | refine blk_drewN ?_ _ | refine blk_drew ?_ | refine blk_alloc ?_ _)); refine blk_put (cs := #[.int .u64 0, .int .u64 0]) ?_ 0 _ rfl; (with_reducible repeat (first | refine blk_drewN ?_ _ | refine blk_drew ?_ | refine blk_alloc ?_ _)); exact BK132.out) Try.underlying24 rfl (by kernel_rfl)) rfl ?_
  exact ⟨by first | rfl | (simp [errW_none, errW_some] <;> rfl) | (simp [*, errW_none, errW_some] <;> rfl), by repeat (first | (with_reducible first | exact HB.out | apply below_alloc | apply pw_below_drewN | apply below_drew1 | refine below_set ?_ GE131.out | refine below_set ?_ GE132.out) | exact HB.out)⟩


/-! ### uint128_Uint128_And: function 81 -/
def uint128_Uint128_And.f (a0_0 : Int) (a0_1 : Int) (a1_0 : Int) (a1_1 : Int) : Option (Int × Int) := some (Go.bits .and .u64 a0_0 a1_0, Go.bits .and .u64 a0_1 a1_1)
set_option maxHeartbeats 8000000 in
set_option maxRecDepth 100000 in
theorem uint128_Uint128_And.calls (a0_0 : Int) (a0_1 : Int) (a1_0 : Int) (a1_1 : Int) (r1 : Int) (r2 : Int) (w : World) (h : uint128_Uint128_And.f a0_0 a0_1 a1_0 a1_1 = some (r1, r2)) :
    Calls Try.prog 81 #[.agg #[.int .u64 a0_0, .int .u64 a0_1], .agg #[.int .u64 a1_0, .int .u64 a1_1]] w fun e w' => e = .returned (.agg #[.int .u64 r1, .int .u64 r2]) ∧ Below w.heap.size w w' := by
  have hu59 := Try.underlying59
  have HB := Aside0.mk (Below.refl w.heap.size w)
  have H : (some (Go.bits .and .u64 a0_0 a1_0, Go.bits .and .u64 a0_1 a1_1)) = some (r1, r2) := h
  clear h
  simp only [Option.some.injEq, Prod.mk.injEq] at H
  obtain ⟨rfl, rfl⟩ := H
  go_enter Try.func81, Try.ntmps81
  go_wp2_with (first | ((with_reducible refine gate_dst (N := 2) rfl ?_); refine box_event ?hg (N := 2) ?hd (cs := #[.int .u64 a0_0, .int .u64 a0_1]) (t := 59) ?hr ?_; (case hd => rfl); (case hg => rfl); (case hr => first | (go_simp; done) | (go_simp; rfl)); intro gb133 hg w3 hbox hb; have n0_ := Aside0.mk (below_step (by repeat (first | (with_reducible first | exact HB.out | apply below_alloc | apply pw_below_drewN | apply below_drew1) | exact HB.out)) hb); have n1_ := Aside0.mk (hbox); have n2_ := Aside0.mk ((by rw [hg]; exact (below_size (by repeat (first | (with_reducible first | exact HB.out | apply below_alloc | apply pw_below_drewN | apply below_drew1) | exact HB.out))) : w.heap.size ≤ gb133)); have n3_ := Aside0.mk ((by rw [hg]; exact (below_size (by repeat (first | (with_reducible first | exact HB.out | apply below_alloc | apply pw_below_drewN | apply below_drew1) | exact HB.out))) : w.heap.size ≤ gb133)); clear HB; have HB := n0_; have BK133 := n1_; have GW133 := n2_; have GE133 := n3_; clear n0_ n1_ n2_ n3_; clear hb hbox hg) | ((with_reducible refine gate_dst (N := 3) rfl ?_); refine box_event ?hg (N := 3) ?hd (cs := #[.int .u64 a1_0, .int .u64 a1_1]) (t := 59) ?hr ?_; (case hd => rfl); (case hg => rfl); (case hr => first | (go_simp; done) | (go_simp; rfl)); intro gb134 hg w4 hbox hb; have n0_ := Aside0.mk (blk_below (g := gb133) (o := .cells #[.int .u64 a0_0, .int .u64 a0_1] 59 (0, 0)) (by (with_reducible repeat (first | refine blk_drewN ?_ _ | refine blk_drew ?_ | refine blk_alloc ?_ _)); exact BK133.out) hb); have n1_ := Aside0.mk (below_step (by repeat (first | (with_reducible first | exact HB.out | apply below_alloc | apply pw_below_drewN | apply below_drew1 | refine below_set ?_ GE133.out) | exact HB.out)) hb); have n2_ := Aside0.mk (hbox); have n3_ := Aside0.mk ((by rw [hg]; exact (below_size (by repeat (first | (with_reducible first | exact HB.out | apply below_alloc | apply pw_below_drewN | apply below_drew1 | refine below_set ?_ GE133.out) | exact HB.out))) : w.heap.size ≤ gb134)); have n4_ := Aside0.mk ((by rw [hg]; exact (below_size (by repeat (first | (with_reducible first | exact HB.out | apply below_alloc | apply pw_below_drewN | apply below_drew1 | refine below_set ?_ GE133.out) | exact HB.out))) : w.heap.size ≤ gb134)); have n5_ := Aside0.mk ((by rw [hg]; exact Nat.ne_of_lt (blk_lt (g := gb133) (o := .cells #[.int .u64 a0_0, .int .u64 a0_1] 59 (0, 0)) (by (with_reducible repeat (first | refine blk_drewN ?_ _ | refine blk_drew ?_ | refine blk_alloc ?_ _)); exact BK133.out)) : gb133 ≠ gb134)); have n6_ := Aside0.mk ((by rw [hg]; exact Nat.ne_of_gt (blk_lt (g := gb133) (o := .cells #[.int .u64 a0_0, .int .u64 a0_1] 59 (0, 0)) (by (with_reducible repeat (first | refine blk_drewN ?_ _ | refine blk_drew ?_ | refine blk_alloc ?_ _)); exact BK133.out)) : gb134 ≠ gb133)); clear BK133; clear HB; have BK133 := n0_; have HB := n1_; have BK134 := n2_; have GW134 := n3_; have GE134 := n4_; have NB133_134 := n5_; have NB134_133 := n6_; clear n0_ n1_ n2_ n3_ n4_ n5_ n6_; clear hb hbox hg) | ((with_reducible refine gate_dst (N := 4) rfl ?_); refine box_event ?hg (N := 4) ?hd (cs := #[.int .u64 0, .int .u64 0]) (t := 59) ?hr ?_; (case hd => rfl); (case hg => rfl); (case hr => first | (go_simp; done) | (go_simp; rfl)); intro gb135 hg w5 hbox hb; have n0_ := Aside0.mk (blk_below (g := gb133) (o := .cells #[.int .u64 a0_0, .int .u64 a0_1] 59 (0, 0)) (by (with_reducible repeat (first | refine blk_drewN ?_ _ | refine blk_drew ?_ | refine blk_alloc ?_ _)); exact BK133.out) hb); have n1_ := Aside0.mk (blk_below (g := gb134) (o := .cells #[.int .u64 a1_0, .int .u64 a1_1] 59 (0, 0)) (by (with_reducible repeat (first | refine blk_drewN ?_ _ | refine blk_drew ?_ | refine blk_alloc ?_ _)); exact BK134.out) hb); have n2_ := Aside0.mk (below_step (by repeat (first | (with_reducible first | exact HB.out | apply below_alloc | apply pw_below_drewN | apply below_drew1 | refine below_set ?_ GE133.out | refine below_set ?_ GE134.out) | exact HB.out)) hb); have n3_ := Aside0.mk (hbox); have n4_ := Aside0.mk ((by rw [hg]; exact (below_size (by repeat (first | (with_reducible first | exact HB.out | apply below_alloc | apply pw_below_drewN | apply below_drew1 | refine below_set ?_ GE133.out | refine below_set ?_ GE134.out) | exact HB.out))) : w.heap.size ≤ gb135)); have n5_ := Aside0.mk ((by rw [hg]; exact (below_size (by repeat (first | (with_reducible first | exact HB.out | apply below_alloc | apply pw_below_drewN | apply below_drew1 | refine below_set ?_ GE133.out | refine below_set ?_ GE134.out) | exact HB.out))) : w.heap.size ≤ gb135)); have n6_ := Aside0.mk ((by rw [hg]; exact Nat.ne_of_lt (blk_lt (g := gb133) (o := .cells #[.int .u64 a0_0, .int .u64 a0_1] 59 (0, 0)) (by (with_reducible repeat (first | refine blk_drewN ?_ _ | refine blk_drew ?_ | refine blk_alloc ?_ _)); exact BK133.out)) : gb133 ≠ gb135)); have n7_ := Aside0.mk ((by rw [hg]; exact Nat.ne_of_gt (blk_lt (g := gb133) (o := .cells #[.int .u64 a0_0, .int .u64 a0_1] 59 (0, 0)) (by (with_reducible repeat (first | refine blk_drewN ?_ _ | refine blk_drew ?_ | refine blk_alloc ?_ _)); exact BK133.out)) : gb135 ≠ gb133)); have n8_ := Aside0.mk ((by rw [hg]; exact Nat.ne_of_lt (blk_lt (g := gb134) (o := .cells #[.int .u64 a1_0, .int .u64 a1_1] 59 (0, 0)) (by (with_reducible repeat (first | refine blk_drewN ?_ _ | refine blk_drew ?_ | refine blk_alloc ?_ _)); exact BK134.out)) : gb134 ≠ gb135)); have n9_ := Aside0.mk ((by rw [hg]; exact Nat.ne_of_gt (blk_lt (g := gb134) (o := .cells #[.int .u64 a1_0, .int .u64 a1_1] 59 (0, 0)) (by (with_reducible repeat (first | refine blk_drewN ?_ _ | refine blk_drew ?_ | refine blk_alloc ?_ _)); exact BK134.out)) : gb135 ≠ gb134)); clear BK133; clear BK134; clear HB; have BK133 := n0_; have BK134 := n1_; have HB := n2_; have BK135 := n3_; have GW135 := n4_; have GE135 := n5_; have NB133_135 := n6_; have NB135_133 := n7_; have NB134_135 := n8_; have NB135_134 := n9_; clear n0_ n1_ n2_ n3_ n4_ n5_ n6_ n7_ n8_ n9_; clear hb hbox hg; have hnb6 := NB133_134.out; have hnc6 := NB134_133.out; have hnb7 := NB133_135.out; have hnc7 := NB135_133.out; have hcz8_0 : w5.cell? ⟨gb133, 0, none⟩ = some (.int .u64 a0_0) := (blk_cell BK133.out 0).trans rfl; have hcz8_1 : w5.cell? ⟨gb133, 1, none⟩ = some (.int .u64 a0_1) := (blk_cell BK133.out 1).trans rfl; have hfz8_0 := blk_frozen BK133.out 0; have hfz8_1 := blk_frozen BK133.out 1; have hnb9 := NB134_135.out; have hnc9 := NB135_134.out; have hcz10_0 : w5.cell? ⟨gb134, 0, none⟩ = some (.int .u64 a1_0) := (blk_cell BK134.out 0).trans rfl; have hcz10_1 : w5.cell? ⟨gb134, 1, none⟩ = some (.int .u64 a1_1) := (blk_cell BK134.out 1).trans rfl; have hfz10_0 := blk_frozen BK134.out 0; have hfz10_1 := blk_frozen BK134.out 1; have hcz11_0 : w5.cell? ⟨gb135, 0, none⟩ = some (.int .u64 0) := (blk_cell BK135.out 0).trans rfl; have hcz11_1 : w5.cell? ⟨gb135, 1, none⟩ = some (.int .u64 0) := (blk_cell BK135.out 1).trans rfl; have hfz11_0 := blk_frozen BK135.out 0; have hfz11_1 := blk_frozen BK135.out 1))
  refine bodyPost_ret (results_cell_row rfl _ _ gb135 59 #[.int .u64 (Go.bits .and .u64 a0_0 a1_0), .int .u64 (Go.bits .and .u64 a0_1 a1_1)] (0, 0) _ rfl (by (with_reducible repeat (first | refine blk_drewN ?_ _ | refine blk_drew ?_ | refine blk_alloc ?_ _)); refine blk_put (cs := #[.int .u64 (Go.bits .and .u64 a0_0 a1_0), .int .u64 0]) ?_ 1 _ rfl; (with_reducible repeat (first | refine blk_drewN ?_ _ | refine blk_drew ?_ | refine blk_alloc ?_ _)); refine blk_put (cs := #[.int .u64 0, .int .u64 0]) ?_ 0 _ rfl; (with_reducible repeat (first | refine blk_drewN ?_ _ | refine blk_drew ?_ | refine blk_alloc ?_ _)); exact BK135.out) Try.underlying59 rfl (by kernel_rfl)) rfl ?_
  exact ⟨by first | rfl | (simp [errW_none, errW_some] <;> rfl) | (simp [*, errW_none, errW_some] <;> rfl), by repeat (first | (with_reducible first | exact HB.out | apply below_alloc | apply pw_below_drewN | apply below_drew1 | refine below_set ?_ GE133.out | refine below_set ?_ GE134.out | refine below_set ?_ GE135.out) | exact HB.out)⟩


/-! ### impl_WideAnd: function 28 -/
def impl_WideAnd.f (a0_0 : Int) (a0_1 : Int) (a1_0 : Int) (a1_1 : Int) : Option (Int × Int) := (impl_Wide_u.f a0_0 a0_1).bind fun bt139 => ((impl_Wide_u.f a1_0 a1_1).bind fun bt141 => ((uint128_Uint128_And.f bt139.1 bt139.2 bt141.1 bt141.2).bind fun bt143 => ((impl_wide.f bt143.1 bt143.2).bind fun bt145 => (some (bt145.1, bt145.2)))))
set_option maxHeartbeats 8000000 in
set_option maxRecDepth 100000 in
theorem impl_WideAnd.calls (a0_0 : Int) (a0_1 : Int) (a1_0 : Int) (a1_1 : Int) (r1 : Int) (r2 : Int) (w : World) (h : impl_WideAnd.f a0_0 a0_1 a1_0 a1_1 = some (r1, r2)) :
    Calls Try.prog 28 #[.agg #[.int .u64 a0_0, .int .u64 a0_1], .agg #[.int .u64 a1_0, .int .u64 a1_1]] w fun e w' => e = .returned (.agg #[.int .u64 r1, .int .u64 r2]) ∧ Below w.heap.size w w' := by
  have hu24 := Try.underlying24
  have HB := Aside0.mk (Below.refl w.heap.size w)
  have H : ((impl_Wide_u.f a0_0 a0_1).bind fun bt139 => ((impl_Wide_u.f a1_0 a1_1).bind fun bt141 => ((uint128_Uint128_And.f bt139.1 bt139.2 bt141.1 bt141.2).bind fun bt143 => ((impl_wide.f bt143.1 bt143.2).bind fun bt145 => (some (bt145.1, bt145.2)))))) = some (r1, r2) := h
  clear h
  replace H := Option.bind_eq_some_iff.mp H
  obtain ⟨⟨t139, t140⟩, A30, H⟩ := H
  replace H : ((impl_Wide_u.f a1_0 a1_1).bind fun bt141 => ((uint128_Uint128_And.f t139 t140 bt141.1 bt141.2).bind fun bt143 => ((impl_wide.f bt143.1 bt143.2).bind fun bt145 => (some (bt145.1, bt145.2))))) = some (r1, r2) := H
  have A3 := Aside0.mk A30
  clear A30
  replace H := Option.bind_eq_some_iff.mp H
  obtain ⟨⟨t141, t142⟩, A40, H⟩ := H
  replace H : ((uint128_Uint128_And.f t139 t140 t141 t142).bind fun bt143 => ((impl_wide.f bt143.1 bt143.2).bind fun bt145 => (some (bt145.1, bt145.2)))) = some (r1, r2) := H
  have A4 := Aside0.mk A40
  clear A40
  replace H := Option.bind_eq_some_iff.mp H
  obtain ⟨⟨t143, t144⟩, A50, H⟩ := H
  replace H : ((impl_wide.f t143 t144).bind fun bt145 => (some (bt145.1, bt145.2))) = some (r1, r2) := H
  have A5 := Aside0.mk A50
  clear A50
  replace H := Option.bind_eq_some_iff.mp H
  obtain ⟨⟨t145, t146⟩, A60, H⟩ := H
  replace H : (some (t145, t146)) = some (r1, r2) := H
  have A6 := Aside0.mk A60
  clear A60
  simp only [Option.some.injEq, Prod.mk.injEq] at H
  obtain ⟨rfl, rfl⟩ := H
  go_enter Try.func28, Try.ntmps28
  try go_wp2_with (first | ((with_reducible refine gate_dst (N := 2) rfl ?_); refine box_event ?hg (N := 2) ?hd (cs := #[.int .u64 a0_0, .int .u64 a0_1]) (t := 24) ?hr ?_; (case hd => rfl); (case hg => rfl); (case hr => first | (go_simp; done) | (go_simp; rfl)); intro gb136 hg w7 hbox hb; have n0_ := Aside0.mk (below_step (by repeat (first | (with_reducible first | exact HB.out | apply below_alloc | apply pw_below_drewN | apply below_drew1) | exact HB.out)) hb); have n1_ := Aside0.mk (hbox); have n2_ := Aside0.mk ((by rw [hg]; exact (below_size (by repeat (first | (with_reducible first | exact HB.out | apply below_alloc | apply pw_below_drewN | apply below_drew1) | exact HB.out))) : w.heap.size ≤ gb136)); have n3_ := Aside0.mk ((by rw [hg]; exact (below_size (by repeat (first | (with_reducible first | exact HB.out | apply below_alloc | apply pw_below_drewN | apply below_drew1) | exact HB.out))) : w.heap.size ≤ gb136)); clear HB; have HB := n0_; have BK136 := n1_; have GW136 := n2_; have GE136 := n3_; clear n0_ n1_ n2_ n3_; clear hb hbox hg) | ((with_reducible refine gate_dst (N := 3) rfl ?_); refine box_event ?hg (N := 3) ?hd (cs := #[.int .u64 a1_0, .int .u64 a1_1]) (t := 24) ?hr ?_; (case hd => rfl); (case hg => rfl); (case hr => first | (go_simp; done) | (go_simp; rfl)); intro gb137 hg w8 hbox hb; have n0_ := Aside0.mk (blk_below (g := gb136) (o := .cells #[.int .u64 a0_0, .int .u64 a0_1] 24 (0, 0)) (by (with_reducible repeat (first | refine blk_drewN ?_ _ | refine blk_drew ?_ | refine blk_alloc ?_ _)); exact BK136.out) hb); have n1_ := Aside0.mk (below_step (by repeat (first | (with_reducible first | exact HB.out | apply below_alloc | apply pw_below_drewN | apply below_drew1 | refine below_set ?_ GE136.out) | exact HB.out)) hb); have n2_ := Aside0.mk (hbox); have n3_ := Aside0.mk ((by rw [hg]; exact (below_size (by repeat (first | (with_reducible first | exact HB.out | apply below_alloc | apply pw_below_drewN | apply below_drew1 | refine below_set ?_ GE136.out) | exact HB.out))) : w.heap.size ≤ gb137)); have n4_ := Aside0.mk ((by rw [hg]; exact (below_size (by repeat (first | (with_reducible first | exact HB.out | apply below_alloc | apply pw_below_drewN | apply below_drew1 | refine below_set ?_ GE136.out) | exact HB.out))) : w.heap.size ≤ gb137)); have n5_ := Aside0.mk ((by rw [hg]; exact Nat.ne_of_lt (blk_lt (g := gb136) (o := .cells #[.int .u64 a0_0, .int .u64 a0_1] 24 (0, 0)) (by (with_reducible repeat (first | refine blk_drewN ?_ _ | refine blk_drew ?_ | refine blk_alloc ?_ _)); exact BK136.out)) : gb136 ≠ gb137)); have n6_ := Aside0.mk ((by rw [hg]; exact Nat.ne_of_gt (blk_lt (g := gb136) (o := .cells #[.int .u64 a0_0, .int .u64 a0_1] 24 (0, 0)) (by (with_reducible repeat (first | refine blk_drewN ?_ _ | refine blk_drew ?_ | refine blk_alloc ?_ _)); exact BK136.out)) : gb137 ≠ gb136)); clear BK136; clear HB; have BK136 := n0_; have HB := n1_; have BK137 := n2_; have GW137 := n3_; have GE137 := n4_; have NB136_137 := n5_; have NB137_136 := n6_; clear n0_ n1_ n2_ n3_ n4_ n5_ n6_; clear hb hbox hg) | ((with_reducible refine gate_dst (N := 4) rfl ?_); refine box_event ?hg (N := 4) ?hd (cs := #[.int .u64 0, .int .u64 0]) (t := 24) ?hr ?_; (case hd => rfl); (case hg => rfl); (case hr => first | (go_simp; done) | (go_simp; rfl)); intro gb138 hg w9 hbox hb; have n0_ := Aside0.mk (blk_below (g := gb136) (o := .cells #[.int .u64 a0_0, .int .u64 a0_1] 24 (0, 0)) (by (with_reducible repeat (first | refine blk_drewN ?_ _ | refine blk_drew ?_ | refine blk_alloc ?_ _)); exact BK136.out) hb); have n1_ := Aside0.mk (blk_below (g := gb137) (o := .cells #[.int .u64 a1_0, .int .u64 a1_1] 24 (0, 0)) (by (with_reducible repeat (first | refine blk_drewN ?_ _ | refine blk_drew ?_ | refine blk_alloc ?_ _)); exact BK137.out) hb); have n2_ := Aside0.mk (below_step (by repeat (first | (with_reducible first | exact HB.out | apply below_alloc | apply pw_below_drewN | apply below_drew1 | refine below_set ?_ GE136.out | refine below_set ?_ GE137.out) | exact HB.out)) hb); have n3_ := Aside0.mk (hbox); have n4_ := Aside0.mk ((by rw [hg]; exact (below_size (by repeat (first | (with_reducible first | exact HB.out | apply below_alloc | apply pw_below_drewN | apply below_drew1 | refine below_set ?_ GE136.out | refine below_set ?_ GE137.out) | exact HB.out))) : w.heap.size ≤ gb138)); have n5_ := Aside0.mk ((by rw [hg]; exact (below_size (by repeat (first | (with_reducible first | exact HB.out | apply below_alloc | apply pw_below_drewN | apply below_drew1 | refine below_set ?_ GE136.out | refine below_set ?_ GE137.out) | exact HB.out))) : w.heap.size ≤ gb138)); have n6_ := Aside0.mk ((by rw [hg]; exact Nat.ne_of_lt (blk_lt (g := gb136) (o := .cells #[.int .u64 a0_0, .int .u64 a0_1] 24 (0, 0)) (by (with_reducible repeat (first | refine blk_drewN ?_ _ | refine blk_drew ?_ | refine blk_alloc ?_ _)); exact BK136.out)) : gb136 ≠ gb138)); have n7_ := Aside0.mk ((by rw [hg]; exact Nat.ne_of_gt (blk_lt (g := gb136) (o := .cells #[.int .u64 a0_0, .int .u64 a0_1] 24 (0, 0)) (by (with_reducible repeat (first | refine blk_drewN ?_ _ | refine blk_drew ?_ | refine blk_alloc ?_ _)); exact BK136.out)) : gb138 ≠ gb136)); have n8_ := Aside0.mk ((by rw [hg]; exact Nat.ne_of_lt (blk_lt (g := gb137) (o := .cells #[.int .u64 a1_0, .int .u64 a1_1] 24 (0, 0)) (by (with_reducible repeat (first | refine blk_drewN ?_ _ | refine blk_drew ?_ | refine blk_alloc ?_ _)); exact BK137.out)) : gb137 ≠ gb138)); have n9_ := Aside0.mk ((by rw [hg]; exact Nat.ne_of_gt (blk_lt (g := gb137) (o := .cells #[.int .u64 a1_0, .int .u64 a1_1] 24 (0, 0)) (by (with_reducible repeat (first | refine blk_drewN ?_ _ | refine blk_drew ?_ | refine blk_alloc ?_ _)); exact BK137.out)) : gb138 ≠ gb137)); clear BK136; clear BK137; clear HB; have BK136 := n0_; have BK137 := n1_; have HB := n2_; have BK138 := n3_; have GW138 := n4_; have GE138 := n5_; have NB136_138 := n6_; have NB138_136 := n7_; have NB137_138 := n8_; have NB138_137 := n9_; clear n0_ n1_ n2_ n3_ n4_ n5_ n6_ n7_ n8_ n9_; clear hb hbox hg))
  have n0_ := Aside0.mk (blk_drew BK136.out)
  have n1_ := Aside0.mk (blk_drew BK137.out)
  have n2_ := Aside0.mk (blk_drew BK138.out)
  have n3_ := Aside0.mk (below_drew1 HB.out)
  clear BK136
  clear BK137
  clear BK138
  clear HB
  have BK136 := n0_
  have BK137 := n1_
  have BK138 := n2_
  have HB := n3_
  clear n0_ n1_ n2_ n3_
  refine start_ (n := 7) (S := fun w' => w'.cell? ⟨gb136, 0, none⟩ = some (.int .u64 a0_0) ∧ w'.cell? ⟨gb136, 1, none⟩ = some (.int .u64 a0_1) ∧ w'.cell? ⟨gb137, 0, none⟩ = some (.int .u64 a1_0) ∧ w'.cell? ⟨gb137, 1, none⟩ = some (.int .u64 a1_1)) (ds := []) #[false, false, false, false, false, false, false] (by kernel_rfl) rfl rfl ⟨(blk_cell BK136.out 0).trans rfl, (blk_cell BK136.out 1).trans rfl, (blk_cell BK137.out 0).trans rfl, (blk_cell BK137.out 1).trans rfl⟩ (fun hHeld => ?_)
  generalize w9.drew = w10 at BK136 BK137 BK138 HB hHeld ⊢
  refine take_ (i := 0) (N := some 5) (v := ?_) (a' := ?_) #[true, false, false, false, false, false, false] rfl rfl (by kernel_rfl) (fun _ _ _ h => h) (Or.inl ⟨by rfl, ?_⟩) hHeld ?_ ?_
  rotate_left
  · rintro w' ⟨s0, s1, s2, s3⟩
    go_simp
    with_reducible rfl
  rotate_left
  · simp only [Act.put, List.setIfInBounds_toArray, List.set_cons_zero, List.set_cons_succ, i64_w, i32_w]
    rfl
  refine take_ (i := 2) (N := some 7) (v := ?_) (a' := ?_) #[true, false, true, false, false, false, false] rfl rfl (by kernel_rfl) (fun _ _ _ h => h) (Or.inl ⟨by rfl, ?_⟩) hHeld ?_ ?_
  rotate_left
  · rintro w' ⟨s0, s1, s2, s3⟩
    go_simp
    with_reducible rfl
  rotate_left
  · simp only [Act.put, List.setIfInBounds_toArray, List.set_cons_zero, List.set_cons_succ, i64_w, i32_w]
    rfl
  refine one_ (i := 1) (N := some 6) #[true, true, true, false, false, false, false] rfl rfl (by kernel_rfl) (by decide) (fun K hK => ?_)
  refine goes_ Try.func76 (by kernel_rfl) rfl #[.agg #[.int .u64 a0_0, .int .u64 a0_1]] (by rfl) rfl rfl (by (try simp only [List.map_toArray, List.map_cons, List.map_nil]); first | done | rfl | (simp only [List.length_drop, List.length_take]; rfl)) ?_
  with_reducible refine (impl_Wide_u.calls a0_0 a0_1 t139 t140 _ A3.out).mono ?_
  rintro e w11 ⟨rfl, hb⟩
  refine ⟨_, rfl, ?_⟩
  have n0_ := Aside0.mk (blk_below (g := gb136) (o := .cells #[.int .u64 a0_0, .int .u64 a0_1] 24 (0, 0)) (by (with_reducible repeat (first | refine blk_drewN ?_ _ | refine blk_drew ?_ | refine blk_alloc ?_ _)); exact BK136.out) hb)
  have n1_ := Aside0.mk (blk_below (g := gb137) (o := .cells #[.int .u64 a1_0, .int .u64 a1_1] 24 (0, 0)) (by (with_reducible repeat (first | refine blk_drewN ?_ _ | refine blk_drew ?_ | refine blk_alloc ?_ _)); exact BK137.out) hb)
  have n2_ := Aside0.mk (blk_below (g := gb138) (o := .cells #[.int .u64 0, .int .u64 0] 24 (0, 0)) (by (with_reducible repeat (first | refine blk_drewN ?_ _ | refine blk_drew ?_ | refine blk_alloc ?_ _)); exact BK138.out) hb)
  have n3_ := Aside0.mk (below_step (by repeat (first | (with_reducible first | exact HB.out | apply below_alloc | apply pw_below_drewN | apply below_drew1 | refine below_set ?_ GE136.out | refine below_set ?_ GE137.out | refine below_set ?_ GE138.out) | exact HB.out)) hb)
  clear BK136
  clear BK137
  clear BK138
  clear HB
  have BK136 := n0_
  have BK137 := n1_
  have BK138 := n2_
  have HB := n3_
  clear n0_ n1_ n2_ n3_
  (try clear hb)
  (try clear hb2)
  (try clear hk)
  (try clear hi)
  refine hK.out _ _ ⟨(blk_cell BK136.out 0).trans rfl, (blk_cell BK136.out 1).trans rfl, (blk_cell BK137.out 0).trans rfl, (blk_cell BK137.out 1).trans rfl⟩ (fun hHeld => ?_)
  clear hK K
  refine norm_ (a' := ?_) ?_ ?_
  rotate_left
  · show Act.put _ (some 6) _ = _
    simp only [Act.put, List.setIfInBounds_toArray, List.set_cons_zero, List.set_cons_succ, i64_w, i32_w]
    rfl
  refine one_ (i := 3) (N := some 8) #[true, true, true, true, false, false, false] rfl rfl (by kernel_rfl) (by decide) (fun K hK => ?_)
  refine goes_ Try.func76 (by kernel_rfl) rfl #[.agg #[.int .u64 a1_0, .int .u64 a1_1]] (by rfl) rfl rfl (by (try simp only [List.map_toArray, List.map_cons, List.map_nil]); first | done | rfl | (simp only [List.length_drop, List.length_take]; rfl)) ?_
  with_reducible refine (impl_Wide_u.calls a1_0 a1_1 t141 t142 _ A4.out).mono ?_
  rintro e w12 ⟨rfl, hb⟩
  refine ⟨_, rfl, ?_⟩
  have n0_ := Aside0.mk (blk_below (g := gb136) (o := .cells #[.int .u64 a0_0, .int .u64 a0_1] 24 (0, 0)) (by (with_reducible repeat (first | refine blk_drewN ?_ _ | refine blk_drew ?_ | refine blk_alloc ?_ _)); exact BK136.out) hb)
  have n1_ := Aside0.mk (blk_below (g := gb137) (o := .cells #[.int .u64 a1_0, .int .u64 a1_1] 24 (0, 0)) (by (with_reducible repeat (first | refine blk_drewN ?_ _ | refine blk_drew ?_ | refine blk_alloc ?_ _)); exact BK137.out) hb)
  have n2_ := Aside0.mk (blk_below (g := gb138) (o := .cells #[.int .u64 0, .int .u64 0] 24 (0, 0)) (by (with_reducible repeat (first | refine blk_drewN ?_ _ | refine blk_drew ?_ | refine blk_alloc ?_ _)); exact BK138.out) hb)
  have n3_ := Aside0.mk (below_step (by repeat (first | (with_reducible first | exact HB.out | apply below_alloc | apply pw_below_drewN | apply below_drew1 | refine below_set ?_ GE136.out | refine below_set ?_ GE137.out | refine below_set ?_ GE138.out) | exact HB.out)) hb)
  clear BK136
  clear BK137
  clear BK138
  clear HB
  have BK136 := n0_
  have BK137 := n1_
  have BK138 := n2_
  have HB := n3_
  clear n0_ n1_ n2_ n3_
  (try clear hb)
  (try clear hb2)
  (try clear hk)
  (try clear hi)
  refine hK.out _ _ ⟨(blk_cell BK136.out 0).trans rfl, (blk_cell BK136.out 1).trans rfl, (blk_cell BK137.out 0).trans rfl, (blk_cell BK137.out 1).trans rfl⟩ (fun hHeld => ?_)
  clear hK K
  refine norm_ (a' := ?_) ?_ ?_
  rotate_left
  · show Act.put _ (some 8) _ = _
    simp only [Act.put, List.setIfInBounds_toArray, List.set_cons_zero, List.set_cons_succ, i64_w, i32_w]
    rfl
  refine one_ (i := 4) (N := some 9) #[true, true, true, true, true, false, false] rfl rfl (by kernel_rfl) (by decide) (fun K hK => ?_)
  refine goes_ Try.func81 (by kernel_rfl) rfl #[.agg #[.int .u64 t139, .int .u64 t140], .agg #[.int .u64 t141, .int .u64 t142]] (by rfl) rfl rfl (by (try simp only [List.map_toArray, List.map_cons, List.map_nil]); first | done | rfl | (simp only [List.length_drop, List.length_take]; rfl)) ?_
  with_reducible refine (uint128_Uint128_And.calls t139 t140 t141 t142 t143 t144 _ A5.out).mono ?_
  rintro e w13 ⟨rfl, hb⟩
  refine ⟨_, rfl, ?_⟩
  have n0_ := Aside0.mk (blk_below (g := gb136) (o := .cells #[.int .u64 a0_0, .int .u64 a0_1] 24 (0, 0)) (by (with_reducible repeat (first | refine blk_drewN ?_ _ | refine blk_drew ?_ | refine blk_alloc ?_ _)); exact BK136.out) hb)
  have n1_ := Aside0.mk (blk_below (g := gb137) (o := .cells #[.int .u64 a1_0, .int .u64 a1_1] 24 (0, 0)) (by (with_reducible repeat (first | refine blk_drewN ?_ _ | refine blk_drew ?_ | refine blk_alloc ?_ _)); exact BK137.out) hb)
  have n2_ := Aside0.mk (blk_below (g := gb138) (o := .cells #[.int .u64 0, .int .u64 0] 24 (0, 0)) (by (with_reducible repeat (first | refine blk_drewN ?_ _ | refine blk_drew ?_ | refine blk_alloc ?_ _)); exact BK138.out) hb)
  have n3_ := Aside0.mk (below_step (by repeat (first | (with_reducible first | exact HB.out | apply below_alloc | apply pw_below_drewN | apply below_drew1 | refine below_set ?_ GE136.out | refine below_set ?_ GE137.out | refine below_set ?_ GE138.out) | exact HB.out)) hb)
  clear BK136
  clear BK137
  clear BK138
  clear HB
  have BK136 := n0_
  have BK137 := n1_
  have BK138 := n2_
  have HB := n3_
  clear n0_ n1_ n2_ n3_
  (try clear hb)
  (try clear hb2)
  (try clear hk)
  (try clear hi)
  refine hK.out _ _ ⟨(blk_cell BK136.out 0).trans rfl, (blk_cell BK136.out 1).trans rfl, (blk_cell BK137.out 0).trans rfl, (blk_cell BK137.out 1).trans rfl⟩ (fun hHeld => ?_)
  clear hK K
  refine norm_ (a' := ?_) ?_ ?_
  rotate_left
  · show Act.put _ (some 9) _ = _
    simp only [Act.put, List.setIfInBounds_toArray, List.set_cons_zero, List.set_cons_succ, i64_w, i32_w]
    rfl
  refine one_ (i := 5) (N := some 10) #[true, true, true, true, true, true, false] rfl rfl (by kernel_rfl) (by decide) (fun K hK => ?_)
  refine goes_ Try.func80 (by kernel_rfl) rfl #[.agg #[.int .u64 t143, .int .u64 t144]] (by rfl) rfl rfl (by (try simp only [List.map_toArray, List.map_cons, List.map_nil]); first | done | rfl | (simp only [List.length_drop, List.length_take]; rfl)) ?_
  with_reducible refine (impl_wide.calls t143 t144 t145 t146 _ A6.out).mono ?_
  rintro e w14 ⟨rfl, hb⟩
  refine ⟨_, rfl, ?_⟩
  have n0_ := Aside0.mk (blk_below (g := gb136) (o := .cells #[.int .u64 a0_0, .int .u64 a0_1] 24 (0, 0)) (by (with_reducible repeat (first | refine blk_drewN ?_ _ | refine blk_drew ?_ | refine blk_alloc ?_ _)); exact BK136.out) hb)
  have n1_ := Aside0.mk (blk_below (g := gb137) (o := .cells #[.int .u64 a1_0, .int .u64 a1_1] 24 (0, 0)) (by (with_reducible repeat (first | refine blk_drewN ?_ _ | refine blk_drew ?_ | refine blk_alloc ?_ _)); exact BK137.out) hb)
  have n2_ := Aside0.mk (blk_below (g := gb138) (o := .cells #[.int .u64 0, .int .u64 0] 24 (0, 0)) (by (with_reducible repeat (first | refine blk_drewN ?_ _ | refine blk_drew ?_ | refine blk_alloc ?_ _)); exact BK138.out) hb)
  have n3_ := Aside0.mk (below_step (by repeat (first | (with_reducible first | exact HB.out | apply below_alloc | apply pw_below_drewN | apply below_drew1 | refine below_set ?_ GE136.out | refine below_set ?_ GE137.out | refine below_set ?_ GE138.out) | exact HB.out)) hb)
  clear BK136
  clear BK137
  clear BK138
  clear HB
  have BK136 := n0_
  have BK137 := n1_
  have BK138 := n2_
  have HB := n3_
  clear n0_ n1_ n2_ n3_
  (try clear hb)
  (try clear hb2)
  (try clear hk)
  (try clear hi)
  refine hK.out _ _ ⟨(blk_cell BK136.out 0).trans rfl, (blk_cell BK136.out 1).trans rfl, (blk_cell BK137.out 0).trans rfl, (blk_cell BK137.out 1).trans rfl⟩ (fun hHeld => ?_)
  clear hK K
  refine norm_ (a' := ?_) ?_ ?_
  rotate_left
  · show Act.put _ (some 10) _ = _
    simp only [Act.put, List.setIfInBounds_toArray, List.set_cons_zero, List.set_cons_succ, i64_w, i32_w]
    rfl
  refine one_ (i := 6) (N := none) #[true, true, true, true, true, true, true] rfl rfl (by kernel_rfl) (by decide) (fun K hK => ?_)
  have hs15 : w14.cell? ⟨gb138, 0, none⟩ = some (.int .u64 0) := (blk_cell BK138.out 0).trans rfl
  have hfs15 := blk_frozen BK138.out 0
  have hns15_0 := NB136_138.out
  have hns15_1 := NB137_138.out
  have hms15_0 := NB138_136.out
  have hms15_1 := NB138_137.out
  have hs16 : w14.cell? ⟨gb138, 1, none⟩ = some (.int .u64 0) := (blk_cell BK138.out 1).trans rfl
  have hfs16 := blk_frozen BK138.out 1
  have hns16_0 := NB136_138.out
  have hns16_1 := NB137_138.out
  have hms16_0 := NB138_136.out
  have hms16_1 := NB138_137.out
  refine skip_ (w1 := ?_) (by rfl) rfl ?_ ?_
  rotate_left
  · go_simp
    rfl
  refine hK.out _ _ ⟨((cell_far (p := ⟨gb138, _, none⟩) NB136_138.out _).trans (((cell_far (p := ⟨gb138, _, none⟩) NB136_138.out _).trans (hHeld.1)))), ((cell_far (p := ⟨gb138, _, none⟩) NB136_138.out _).trans (((cell_far (p := ⟨gb138, _, none⟩) NB136_138.out _).trans (hHeld.2.1)))), ((cell_far (p := ⟨gb138, _, none⟩) NB137_138.out _).trans (((cell_far (p := ⟨gb138, _, none⟩) NB137_138.out _).trans (hHeld.2.2.1)))), ((cell_far (p := ⟨gb138, _, none⟩) NB137_138.out _).trans (((cell_far (p := ⟨gb138, _, none⟩) NB137_138.out _).trans (hHeld.2.2.2))))⟩ (fun hHeld => ?_)
  clear hK K
  refine done_ (by kernel_rfl) ?_
  try go_wp2
  refine bodyPost_ret (results_cell_row rfl _ _ gb138 24 #[.int .u64 t145, .int .u64 t146] (0, 0) _ rfl (by (with_reducible repeat (first | refine blk_drewN ?_ _ | refine blk_drew ?_ | refine blk_alloc ?_ _)); refine blk_put (cs := #[.int .u64 t145, .int .u64 0]) ?_ 1 _ rfl; (with_reducible repeat (first | refine blk_drewN ?_ _ | refine blk_drew ?_ | refine blk_alloc ?_ _)); refine blk_put (cs := #[.int .u64 0, .int .u64 0]) ?_ 0 _ rfl; (with_reducible repeat (first | refine blk_drewN ?_ _ | refine blk_drew ?_ | refine blk_alloc ?_ _)); exact BK138.out) Try.underlying24 rfl (by kernel_rfl)) rfl ?_
  exact ⟨by first | rfl | (simp [errW_none, errW_some] <;> rfl) | (simp [*, errW_none, errW_some] <;> rfl), by repeat (first | (with_reducible first | exact HB.out | apply below_alloc | apply pw_below_drewN | apply below_drew1 | refine below_set ?_ GE136.out | refine below_set ?_ GE137.out | refine below_set ?_ GE138.out) | exact HB.out)⟩


-- NOT PRINTED: function 29 (laws_wideBits)

/-! ### uint128_Uint128_And64: function 83 -/
def uint128_Uint128_And64.f (a0_0 : Int) (a0_1 : Int) (a1 : Int) : Option (Int × Int) := some (Go.bits .and .u64 a0_0 a1, Go.bits .and .u64 a0_1 0)
set_option maxHeartbeats 8000000 in
set_option maxRecDepth 100000 in
theorem uint128_Uint128_And64.calls (a0_0 : Int) (a0_1 : Int) (a1 : Int) (r1 : Int) (r2 : Int) (w : World) (h : uint128_Uint128_And64.f a0_0 a0_1 a1 = some (r1, r2)) :
    Calls Try.prog 83 #[.agg #[.int .u64 a0_0, .int .u64 a0_1], .int .u64 a1] w fun e w' => e = .returned (.agg #[.int .u64 r1, .int .u64 r2]) ∧ Below w.heap.size w w' := by
  have hu59 := Try.underlying59
  have HB := Aside0.mk (Below.refl w.heap.size w)
  have H : (some (Go.bits .and .u64 a0_0 a1, Go.bits .and .u64 a0_1 0)) = some (r1, r2) := h
  clear h
  simp only [Option.some.injEq, Prod.mk.injEq] at H
  obtain ⟨rfl, rfl⟩ := H
  go_enter Try.func83, Try.ntmps83
  go_wp2_with (first | ((with_reducible refine gate_dst (N := 2) rfl ?_); refine box_event ?hg (N := 2) ?hd (cs := #[.int .u64 a0_0, .int .u64 a0_1]) (t := 59) ?hr ?_; (case hd => rfl); (case hg => rfl); (case hr => first | (go_simp; done) | (go_simp; rfl)); intro gb147 hg w3 hbox hb; have n0_ := Aside0.mk (below_step (by repeat (first | (with_reducible first | exact HB.out | apply below_alloc | apply pw_below_drewN | apply below_drew1) | exact HB.out)) hb); have n1_ := Aside0.mk (hbox); have n2_ := Aside0.mk ((by rw [hg]; exact (below_size (by repeat (first | (with_reducible first | exact HB.out | apply below_alloc | apply pw_below_drewN | apply below_drew1) | exact HB.out))) : w.heap.size ≤ gb147)); have n3_ := Aside0.mk ((by rw [hg]; exact (below_size (by repeat (first | (with_reducible first | exact HB.out | apply below_alloc | apply pw_below_drewN | apply below_drew1) | exact HB.out))) : w.heap.size ≤ gb147)); clear HB; have HB := n0_; have BK147 := n1_; have GW147 := n2_; have GE147 := n3_; clear n0_ n1_ n2_ n3_; clear hb hbox hg) | ((with_reducible refine gate_dst (N := 4) rfl ?_); refine box_event ?hg (N := 4) ?hd (cs := #[.int .u64 0, .int .u64 0]) (t := 59) ?hr ?_; (case hd => rfl); (case hg => rfl); (case hr => first | (go_simp; done) | (go_simp; rfl)); intro gb148 hg w4 hbox hb; have n0_ := Aside0.mk (blk_below (g := gb147) (o := .cells #[.int .u64 a0_0, .int .u64 a0_1] 59 (0, 0)) (by (with_reducible repeat (first | refine blk_drewN ?_ _ | refine blk_drew ?_ | refine blk_alloc ?_ _)); exact BK147.out) hb); have n1_ := Aside0.mk (below_step (by repeat (first | (with_reducible first | exact HB.out | apply below_alloc | apply pw_below_drewN | apply below_drew1 | refine below_set ?_ GE147.out) | exact HB.out)) hb); have n2_ := Aside0.mk (hbox); have n3_ := Aside0.mk ((by rw [hg]; exact (below_size (by repeat (first | (with_reducible first | exact HB.out | apply below_alloc | apply pw_below_drewN | apply below_drew1 | refine below_set ?_ GE147.out) | exact HB.out))) : w.heap.size ≤ gb148)); have n4_ := Aside0.mk ((by rw [hg]; exact (below_size (by repeat (first | (with_reducible first | exact HB.out | apply below_alloc | apply pw_below_drewN | apply below_drew1 | refine below_set ?_ GE147.out) | exact HB.out))) : w.heap.size ≤ gb148)); have n5_ := Aside0.mk ((by rw [hg]; exact Nat.ne_of_lt (blk_lt (g := gb147) (o := .cells #[.int .u64 a0_0, .int .u64 a0_1] 59 (0, 0)) (by (with_reducible repeat (first | refine blk_drewN ?_ _ | refine blk_drew ?_ | refine blk_alloc ?_ _)); exact BK147.out)) : gb147 ≠ gb148)); have n6_ := Aside0.mk ((by rw [hg]; exact Nat.ne_of_gt (blk_lt (g := gb147) (o := .cells #[.int .u64 a0_0, .int .u64 a0_1] 59 (0, 0)) (by (with_reducible repeat (first | refine blk_drewN ?_ _ | refine blk_drew ?_ | refine blk_alloc ?_ _)); exact BK147.out)) : gb148 ≠ gb147)); clear BK147; clear HB; have BK147 := n0_; have HB := n1_; have BK148 := n2_; have GW148 := n3_; have GE148 := n4_; have NB147_148 := n5_; have NB148_147 := n6_; clear n0_ n1_ n2_ n3_ n4_ n5_ n6_; clear hb hbox hg; have hnb5 := NB147_148.out; have hnc5 := NB148_147.out; have hcz6_0 : w4.cell? ⟨gb147, 0, none⟩ = some (.int .u64 a0_0) := (blk_cell BK147.out 0).trans rfl; have hcz6_1 : w4.cell? ⟨gb147, 1, none⟩ = some (.int .u64 a0_1) := (blk_cell BK147.out 1).trans rfl; have hfz6_0 := blk_frozen BK147.out 0; have hfz6_1 := blk_frozen BK147.out 1; have hcz7_0 : w4.cell? ⟨gb148, 0, none⟩ = some (.int .u64 0) := (blk_cell BK148.out 0).trans rfl; have hcz7_1 : w4.cell? ⟨gb148, 1, none⟩ = some (.int .u64 0) := (blk_cell BK148.out 1).trans rfl; have hfz7_0 := blk_frozen BK148.out 0; have hfz7_1 := blk_frozen BK148.out 1))
  refine bodyPost_ret (results_cell_row rfl _ _ gb148 59 #[.int .u64 (Go.bits .and .u64 a0_0 a1), .int .u64 (Go.bits .and .u64 a0_1 0)] (0, 0) _ rfl (by (with_reducible repeat (first | refine blk_drewN ?_ _ | refine blk_drew ?_ | refine blk_alloc ?_ _)); refine blk_put (cs := #[.int .u64 (Go.bits .and .u64 a0_0 a1), .int .u64 0]) ?_ 1 _ rfl; (with_reducible repeat (first | refine blk_drewN ?_ _ | refine blk_drew ?_ | refine blk_alloc ?_ _)); refine blk_put (cs := #[.int .u64 0, .int .u64 0]) ?_ 0 _ rfl; (with_reducible repeat (first | refine blk_drewN ?_ _ | refine blk_drew ?_ | refine blk_alloc ?_ _)); exact BK148.out) Try.underlying59 rfl (by kernel_rfl)) rfl ?_
  exact ⟨by first | rfl | (simp [errW_none, errW_some] <;> rfl) | (simp [*, errW_none, errW_some] <;> rfl), by repeat (first | (with_reducible first | exact HB.out | apply below_alloc | apply pw_below_drewN | apply below_drew1 | refine below_set ?_ GE147.out | refine below_set ?_ GE148.out) | exact HB.out)⟩


/-! ### impl_WideAnd64: function 30 -/
def impl_WideAnd64.f (a0_0 : Int) (a0_1 : Int) (a1 : Int) : Option (Int × Int) := (impl_Wide_u.f a0_0 a0_1).bind fun bt151 => ((uint128_Uint128_And64.f bt151.1 bt151.2 a1).bind fun bt153 => ((impl_wide.f bt153.1 bt153.2).bind fun bt155 => (some (bt155.1, bt155.2))))
set_option maxHeartbeats 8000000 in
set_option maxRecDepth 100000 in
theorem impl_WideAnd64.calls (a0_0 : Int) (a0_1 : Int) (a1 : Int) (r1 : Int) (r2 : Int) (w : World) (h : impl_WideAnd64.f a0_0 a0_1 a1 = some (r1, r2)) :
    Calls Try.prog 30 #[.agg #[.int .u64 a0_0, .int .u64 a0_1], .int .u64 a1] w fun e w' => e = .returned (.agg #[.int .u64 r1, .int .u64 r2]) ∧ Below w.heap.size w w' := by
  have hu24 := Try.underlying24
  have HB := Aside0.mk (Below.refl w.heap.size w)
  have H : ((impl_Wide_u.f a0_0 a0_1).bind fun bt151 => ((uint128_Uint128_And64.f bt151.1 bt151.2 a1).bind fun bt153 => ((impl_wide.f bt153.1 bt153.2).bind fun bt155 => (some (bt155.1, bt155.2))))) = some (r1, r2) := h
  clear h
  replace H := Option.bind_eq_some_iff.mp H
  obtain ⟨⟨t151, t152⟩, A30, H⟩ := H
  replace H : ((uint128_Uint128_And64.f t151 t152 a1).bind fun bt153 => ((impl_wide.f bt153.1 bt153.2).bind fun bt155 => (some (bt155.1, bt155.2)))) = some (r1, r2) := H
  have A3 := Aside0.mk A30
  clear A30
  replace H := Option.bind_eq_some_iff.mp H
  obtain ⟨⟨t153, t154⟩, A40, H⟩ := H
  replace H : ((impl_wide.f t153 t154).bind fun bt155 => (some (bt155.1, bt155.2))) = some (r1, r2) := H
  have A4 := Aside0.mk A40
  clear A40
  replace H := Option.bind_eq_some_iff.mp H
  obtain ⟨⟨t155, t156⟩, A50, H⟩ := H
  replace H : (some (t155, t156)) = some (r1, r2) := H
  have A5 := Aside0.mk A50
  clear A50
  simp only [Option.some.injEq, Prod.mk.injEq] at H
  obtain ⟨rfl, rfl⟩ := H
  go_enter Try.func30, Try.ntmps30
  go_wp2_with (first | ((with_reducible refine gate_dst (N := 2) rfl ?_); refine box_event ?hg (N := 2) ?hd (cs := #[.int .u64 a0_0, .int .u64 a0_1]) (t := 24) ?hr ?_; (case hd => rfl); (case hg => rfl); (case hr => first | (go_simp; done) | (go_simp; rfl)); intro gb149 hg w6 hbox hb; have n0_ := Aside0.mk (below_step (by repeat (first | (with_reducible first | exact HB.out | apply below_alloc | apply pw_below_drewN | apply below_drew1) | exact HB.out)) hb); have n1_ := Aside0.mk (hbox); have n2_ := Aside0.mk ((by rw [hg]; exact (below_size (by repeat (first | (with_reducible first | exact HB.out | apply below_alloc | apply pw_below_drewN | apply below_drew1) | exact HB.out))) : w.heap.size ≤ gb149)); have n3_ := Aside0.mk ((by rw [hg]; exact (below_size (by repeat (first | (with_reducible first | exact HB.out | apply below_alloc | apply pw_below_drewN | apply below_drew1) | exact HB.out))) : w.heap.size ≤ gb149)); clear HB; have HB := n0_; have BK149 := n1_; have GW149 := n2_; have GE149 := n3_; clear n0_ n1_ n2_ n3_; clear hb hbox hg) | ((with_reducible refine gate_dst (N := 4) rfl ?_); refine box_event ?hg (N := 4) ?hd (cs := #[.int .u64 0, .int .u64 0]) (t := 24) ?hr ?_; (case hd => rfl); (case hg => rfl); (case hr => first | (go_simp; done) | (go_simp; rfl)); intro gb150 hg w7 hbox hb; have n0_ := Aside0.mk (blk_below (g := gb149) (o := .cells #[.int .u64 a0_0, .int .u64 a0_1] 24 (0, 0)) (by (with_reducible repeat (first | refine blk_drewN ?_ _ | refine blk_drew ?_ | refine blk_alloc ?_ _)); exact BK149.out) hb); have n1_ := Aside0.mk (below_step (by repeat (first | (with_reducible first | exact HB.out | apply below_alloc | apply pw_below_drewN | apply below_drew1 | refine below_set ?_ GE149.out) | exact HB.out)) hb); have n2_ := Aside0.mk (hbox); have n3_ := Aside0.mk ((by rw [hg]; exact (below_size (by repeat (first | (with_reducible first | exact HB.out | apply below_alloc | apply pw_below_drewN | apply below_drew1 | refine below_set ?_ GE149.out) | exact HB.out))) : w.heap.size ≤ gb150)); have n4_ := Aside0.mk ((by rw [hg]; exact (below_size (by repeat (first | (with_reducible first | exact HB.out | apply below_alloc | apply pw_below_drewN | apply below_drew1 | refine below_set ?_ GE149.out) | exact HB.out))) : w.heap.size ≤ gb150)); have n5_ := Aside0.mk ((by rw [hg]; exact Nat.ne_of_lt (blk_lt (g := gb149) (o := .cells #[.int .u64 a0_0, .int .u64 a0_1] 24 (0, 0)) (by (with_reducible repeat (first | refine blk_drewN ?_ _ | refine blk_drew ?_ | refine blk_alloc ?_ _)); exact BK149.out)) : gb149 ≠ gb150)); have n6_ := Aside0.mk ((by rw [hg]; exact Nat.ne_of_gt (blk_lt (g := gb149) (o := .cells #[.int .u64 a0_0, .int .u64 a0_1] 24 (0, 0)) (by (with_reducible repeat (first | refine blk_drewN ?_ _ | refine blk_drew ?_ | refine blk_alloc ?_ _)); exact BK149.out)) : gb150 ≠ gb149)); clear BK149; clear HB; have BK149 := n0_; have HB := n1_; have BK150 := n2_; have GW150 := n3_; have GE150 := n4_; have NB149_150 := n5_; have NB150_149 := n6_; clear n0_ n1_ n2_ n3_ n4_ n5_ n6_; clear hb hbox hg; have hnb8 := NB149_150.out; have hnc8 := NB150_149.out; have hcz9_0 : w7.cell? ⟨gb149, 0, none⟩ = some (.int .u64 a0_0) := (blk_cell BK149.out 0).trans rfl; have hcz9_1 : w7.cell? ⟨gb149, 1, none⟩ = some (.int .u64 a0_1) := (blk_cell BK149.out 1).trans rfl; have hfz9_0 := blk_frozen BK149.out 0; have hfz9_1 := blk_frozen BK149.out 1) | ((with_reducible refine gate_callee (f := 76) rfl ?_); refine goesL_ (some 6) rfl rfl Try.func76 (by kernel_rfl) rfl #[.agg #[.int .u64 a0_0, .int .u64 a0_1]] rfl (by (try simp only [List.map_toArray, List.map_cons, List.map_nil]); first | done | rfl | (simp only [List.length_drop, List.length_take]; rfl)) ?_; (with_reducible refine (impl_Wide_u.calls a0_0 a0_1 t151 t152 _ A3.out).mono ?_); rintro e w10 ⟨rfl, hb⟩; refine ⟨_, rfl, ?_⟩; have n0_ := Aside0.mk (blk_below (g := gb149) (o := .cells #[.int .u64 a0_0, .int .u64 a0_1] 24 (0, 0)) (by (with_reducible repeat (first | refine blk_drewN ?_ _ | refine blk_drew ?_ | refine blk_alloc ?_ _)); exact BK149.out) hb); have n1_ := Aside0.mk (blk_below (g := gb150) (o := .cells #[.int .u64 0, .int .u64 0] 24 (0, 0)) (by (with_reducible repeat (first | refine blk_drewN ?_ _ | refine blk_drew ?_ | refine blk_alloc ?_ _)); exact BK150.out) hb); have n2_ := Aside0.mk (below_step (by repeat (first | (with_reducible first | exact HB.out | apply below_alloc | apply pw_below_drewN | apply below_drew1 | refine below_set ?_ GE149.out | refine below_set ?_ GE150.out) | exact HB.out)) hb); clear BK149; clear BK150; clear HB; have BK149 := n0_; have BK150 := n1_; have HB := n2_; clear n0_ n1_ n2_; (try clear hb); (try clear hb2); (try clear hk); (try clear hi)) | ((with_reducible refine gate_callee (f := 83) rfl ?_); refine goesL_ (some 8) rfl rfl Try.func83 (by kernel_rfl) rfl #[.agg #[.int .u64 t151, .int .u64 t152], .int .u64 a1] rfl (by (try simp only [List.map_toArray, List.map_cons, List.map_nil]); first | done | rfl | (simp only [List.length_drop, List.length_take]; rfl)) ?_; (with_reducible refine (uint128_Uint128_And64.calls t151 t152 a1 t153 t154 _ A4.out).mono ?_); rintro e w11 ⟨rfl, hb⟩; refine ⟨_, rfl, ?_⟩; have n0_ := Aside0.mk (blk_below (g := gb149) (o := .cells #[.int .u64 a0_0, .int .u64 a0_1] 24 (0, 0)) (by (with_reducible repeat (first | refine blk_drewN ?_ _ | refine blk_drew ?_ | refine blk_alloc ?_ _)); exact BK149.out) hb); have n1_ := Aside0.mk (blk_below (g := gb150) (o := .cells #[.int .u64 0, .int .u64 0] 24 (0, 0)) (by (with_reducible repeat (first | refine blk_drewN ?_ _ | refine blk_drew ?_ | refine blk_alloc ?_ _)); exact BK150.out) hb); have n2_ := Aside0.mk (below_step (by repeat (first | (with_reducible first | exact HB.out | apply below_alloc | apply pw_below_drewN | apply below_drew1 | refine below_set ?_ GE149.out | refine below_set ?_ GE150.out) | exact HB.out)) hb); clear BK149; clear BK150; clear HB; have BK149 := n0_; have BK150 := n1_; have HB := n2_; clear n0_ n1_ n2_; (try clear hb); (try clear hb2); (try clear hk); (try clear hi)) | ((with_reducible refine gate_callee (f := 80) rfl ?_); refine goesL_ (some 9) rfl rfl Try.func80 (by kernel_rfl) rfl #[.agg #[.int .u64 t153, .int .u64 t154]] rfl (by (try simp only [List.map_toArray, List.map_cons, List.map_nil]); first | done | rfl | (simp only [List.length_drop, List.length_take]; rfl)) ?_; (with_reducible refine (impl_wide.calls t153 t154 t155 t156 _ A5.out).mono ?_); rintro e w12 ⟨rfl, hb⟩; refine ⟨_, rfl, ?_⟩; have n0_ := Aside0.mk (blk_below (g := gb149) (o := .cells #[.int .u64 a0_0, .int .u64 a0_1] 24 (0, 0)) (by (with_reducible repeat (first | refine blk_drewN ?_ _ | refine blk_drew ?_ | refine blk_alloc ?_ _)); exact BK149.out) hb); have n1_ := Aside0.mk (blk_below (g := gb150) (o := .cells #[.int .u64 0, .int .u64 0] 24 (0, 0)) (by (with_reducible repeat (first | refine blk_drewN ?_ _ | refine blk_drew ?_ | refine blk_alloc ?_ _)); exact BK150.out) hb); have n2_ := Aside0.mk (below_step (by repeat (first | (with_reducible first | exact HB.out | apply below_alloc | apply pw_below_drewN | apply below_drew1 | refine below_set ?_ GE149.out | refine below_set ?_ GE150.out) | exact HB.out)) hb); clear BK149; clear BK150; clear HB; have BK149 := n0_; have BK150 := n1_; have HB := n2_; clear n0_ n1_ n2_; (try clear hb); (try clear hb2); (try clear hk); (try clear hi); have hcz13_0 : w12.cell? ⟨gb150, 0, none⟩ = some (.int .u64 0) := (blk_cell BK150.out 0).trans rfl; have hcz13_1 : w12.cell? ⟨gb150, 1, none⟩ = some (.int .u64 0) := (blk_cell BK150.out 1).trans rfl; have hfz13_0 := blk_frozen BK150.out 0; have hfz13_1 := blk_frozen BK150.out 1))
  refine bodyPost_ret (results_cell_row rfl _ _ gb150 24 #[.int .u64 t155, .int .u64 t156] (0, 0) _ rfl (by (with_reducible repeat (first | refine blk_drewN ?_ _ | refine blk_drew ?_ | refine blk_alloc ?_ _)); refine blk_put (cs := #[.int .u64 t155, .int .u64 0]) ?_ 1 _ rfl; (with_reducible repeat (first | refine blk_drewN ?_ _ | refine blk_drew ?_ | refine blk_alloc ?_ _)); refine blk_put (cs := #[.int .u64 0, .int .u64 0]) ?_ 0 _ rfl; (with_reducible repeat (first | refine blk_drewN ?_ _ | refine blk_drew ?_ | refine blk_alloc ?_ _)); exact BK150.out) Try.underlying24 rfl (by kernel_rfl)) rfl ?_
  exact ⟨by first | rfl | (simp [errW_none, errW_some] <;> rfl) | (simp [*, errW_none, errW_some] <;> rfl), by repeat (first | (with_reducible first | exact HB.out | apply below_alloc | apply pw_below_drewN | apply below_drew1 | refine below_set ?_ GE149.out | refine below_set ?_ GE150.out) | exact HB.out)⟩


/-! ### laws_wideSmall: function 31 -/
def laws_wideSmall.f (a0 : Int) : Option (List Int) := (spec_Whole.f a0 0).bind fun t157 => (some t157)
set_option maxHeartbeats 8000000 in
set_option maxRecDepth 100000 in
theorem laws_wideSmall.calls (a0 : Int) (r : List Int) (w : World) (h : laws_wideSmall.f a0 = some r) :
    Calls Try.prog 31 #[.int .u64 a0] w fun e w' => ∃ v0_ : Value, e = .returned (v0_) ∧ Kd.V (Kd.int .i64) 3 w' w.heap.size (fun k_ => (w.heap.size ≤ k_)) v0_ r ∧ Below w.heap.size w w' := by
  have HB := Aside0.mk (Below.refl w.heap.size w)
  have H : ((spec_Whole.f a0 0).bind fun t157 => (some t157)) = some r := h
  clear h
  replace H := Option.bind_eq_some_iff.mp H
  obtain ⟨t157, A20, H⟩ := H
  replace H : (some t157) = some r := H
  have A2 := Aside0.mk A20
  clear A20
  obtain rfl := Option.some.inj H
  go_enter Try.func31, Try.ntmps31
  go_wp2_with (first | ((with_reducible refine gate_callee (f := 78) rfl ?_); refine goesL_ (some 4) rfl rfl Try.func78 (by kernel_rfl) rfl #[.int .u64 a0, .int .u64 0] rfl (by (try simp only [List.map_toArray, List.map_cons, List.map_nil]); first | done | rfl | (simp only [List.length_drop, List.length_take]; rfl)) ?_; (with_reducible refine (spec_Whole.calls a0 0 t157 _ A2.out).mono ?_); rintro e w3 ⟨v158, rfl, ho0, hb⟩; refine ⟨_, rfl, ?_⟩; have n0_ := Aside0.mk (Kd.V_lower (Kd.V_mono (ok' := fun k_ => (w.heap.size ≤ k_)) ho0 (fun k_ hk_ => (Nat.le_trans (below_size (by repeat (first | (with_reducible first | exact HB.out | apply below_alloc | apply pw_below_drewN | apply below_drew1) | exact HB.out))) hk_))) (below_size (by repeat (first | (with_reducible first | exact HB.out | apply below_alloc | apply pw_below_drewN | apply below_drew1) | exact HB.out)))); have n1_ := Aside0.mk (below_step (by repeat (first | (with_reducible first | exact HB.out | apply below_alloc | apply pw_below_drewN | apply below_drew1) | exact HB.out)) hb); clear HB; have HO159 := n0_; have HB := n1_; clear n0_ n1_; (try clear hb); (try clear hb2); (try clear hk); (try clear hi); (try clear ho0)))
  go_ret
  exact ⟨_, by first | rfl | (simp [errW_none, errW_some] <;> rfl) | (simp [*, errW_none, errW_some] <;> rfl), by (with_reducible repeat (first | apply Kd.V_alloc | apply Kd.V_drewN | apply Kd.V_drew)); exact HO159.out, by repeat (first | (with_reducible first | exact HB.out | apply below_alloc | apply pw_below_drewN | apply below_drew1) | exact HB.out)⟩


-- NOT PRINTED: function 4 (laws_FnWideAnd)

/-! ### uint128_Uint128_Or: function 84 -/
def uint128_Uint128_Or.f (a0_0 : Int) (a0_1 : Int) (a1_0 : Int) (a1_1 : Int) : Option (Int × Int) := some (Go.bits .or .u64 a0_0 a1_0, Go.bits .or .u64 a0_1 a1_1)
set_option maxHeartbeats 8000000 in
set_option maxRecDepth 100000 in
theorem uint128_Uint128_Or.calls (a0_0 : Int) (a0_1 : Int) (a1_0 : Int) (a1_1 : Int) (r1 : Int) (r2 : Int) (w : World) (h : uint128_Uint128_Or.f a0_0 a0_1 a1_0 a1_1 = some (r1, r2)) :
    Calls Try.prog 84 #[.agg #[.int .u64 a0_0, .int .u64 a0_1], .agg #[.int .u64 a1_0, .int .u64 a1_1]] w fun e w' => e = .returned (.agg #[.int .u64 r1, .int .u64 r2]) ∧ Below w.heap.size w w' := by
  have hu59 := Try.underlying59
  have HB := Aside0.mk (Below.refl w.heap.size w)
  have H : (some (Go.bits .or .u64 a0_0 a1_0, Go.bits .or .u64 a0_1 a1_1)) = some (r1, r2) := h
  clear h
  simp only [Option.some.injEq, Prod.mk.injEq] at H
  obtain ⟨rfl, rfl⟩ := H
  go_enter Try.func84, Try.ntmps84
  go_wp2_with (first | ((with_reducible refine gate_dst (N := 2) rfl ?_); refine box_event ?hg (N := 2) ?hd (cs := #[.int .u64 a0_0, .int .u64 a0_1]) (t := 59) ?hr ?_; (case hd => rfl); (case hg => rfl); (case hr => first | (go_simp; done) | (go_simp; rfl)); intro gb162 hg w3 hbox hb; have n0_ := Aside0.mk (below_step (by repeat (first | (with_reducible first | exact HB.out | apply below_alloc | apply pw_below_drewN | apply below_drew1) | exact HB.out)) hb); have n1_ := Aside0.mk (hbox); have n2_ := Aside0.mk ((by rw [hg]; exact (below_size (by repeat (first | (with_reducible first | exact HB.out | apply below_alloc | apply pw_below_drewN | apply below_drew1) | exact HB.out))) : w.heap.size ≤ gb162)); have n3_ := Aside0.mk ((by rw [hg]; exact (below_size (by repeat (first | (with_reducible first | exact HB.out | apply below_alloc | apply pw_below_drewN | apply below_drew1) | exact HB.out))) : w.heap.size ≤ gb162)); clear HB; have HB := n0_; have BK162 := n1_; have GW162 := n2_; have GE162 := n3_; clear n0_ n1_ n2_ n3_; clear hb hbox hg) | ((with_reducible refine gate_dst (N := 3) rfl ?_); refine box_event ?hg (N := 3) ?hd (cs := #[.int .u64 a1_0, .int .u64 a1_1]) (t := 59) ?hr ?_; (case hd => rfl); (case hg => rfl); (case hr => first | (go_simp; done) | (go_simp; rfl)); intro gb163 hg w4 hbox hb; have n0_ := Aside0.mk (blk_below (g := gb162) (o := .cells #[.int .u64 a0_0, .int .u64 a0_1] 59 (0, 0)) (by (with_reducible repeat (first | refine blk_drewN ?_ _ | refine blk_drew ?_ | refine blk_alloc ?_ _)); exact BK162.out) hb); have n1_ := Aside0.mk (below_step (by repeat (first | (with_reducible first | exact HB.out | apply below_alloc | apply pw_below_drewN | apply below_drew1 | refine below_set ?_ GE162.out) | exact HB.out)) hb); have n2_ := Aside0.mk (hbox); have n3_ := Aside0.mk ((by rw [hg]; exact (below_size (by repeat (first | (with_reducible first | exact HB.out | apply below_alloc | apply pw_below_drewN | apply below_drew1 | refine below_set ?_ GE162.out) | exact HB.out))) : w.heap.size ≤ gb163)); have n4_ := Aside0.mk ((by rw [hg]; exact (below_size (by repeat (first | (with_reducible first | exact HB.out | apply below_alloc | apply pw_below_drewN | apply below_drew1 | refine below_set ?_ GE162.out) | exact HB.out))) : w.heap.size ≤ gb163)); have n5_ := Aside0.mk ((by rw [hg]; exact Nat.ne_of_lt (blk_lt (g := gb162) (o := .cells #[.int .u64 a0_0, .int .u64 a0_1] 59 (0, 0)) (by (with_reducible repeat (first | refine blk_drewN ?_ _ | refine blk_drew ?_ | refine blk_alloc ?_ _)); exact BK162.out)) : gb162 ≠ gb163)); have n6_ := Aside0.mk ((by rw [hg]; exact Nat.ne_of_gt (blk_lt (g := gb162) (o := .cells #[.int .u64 a0_0, .int .u64 a0_1] 59 (0, 0)) (by (with_reducible repeat (first | refine blk_drewN ?_ _ | refine blk_drew ?_ | refine blk_alloc ?_ _)); exact BK162.out)) : gb163 ≠ gb162)); clear BK162; clear HB; have BK162 := n0_; have HB := n1_; have BK163 := n2_; have GW163 := n3_; have GE163 := n4_; have NB162_163 := n5_; have NB163_162 := n6_; clear n0_ n1_ n2_ n3_ n4_ n5_ n6_; clear hb hbox hg) | ((with_reducible refine gate_dst (N := 4) rfl ?_); refine box_event ?hg (N := 4) ?hd (cs := #[.int .u64 0, .int .u64 0]) (t := 59) ?hr ?_; (case hd => rfl); (case hg => rfl); (case hr => first | (go_simp; done) | (go_simp; rfl)); intro gb164 hg w5 hbox hb; have n0_ := Aside0.mk (blk_below (g := gb162) (o := .cells #[.int .u64 a0_0, .int .u64 a0_1] 59 (0, 0)) (by (with_reducible repeat (first | refine blk_drewN ?_ _ | refine blk_drew ?_ | refine blk_alloc ?_ _)); exact BK162.out) hb); have n1_ := Aside0.mk (blk_below (g := gb163) (o := .cells #[.int .u64 a1_0, .int .u64 a1_1] 59 (0, 0)) (by (with_reducible repeat (first | refine blk_drewN ?_ _ | refine blk_drew ?_ | refine blk_alloc ?_ _)); exact BK163.out) hb); have n2_ := Aside0.mk (below_step (by repeat (first | (with_reducible first | exact HB.out | apply below_alloc | apply pw_below_drewN | apply below_drew1 | refine below_set ?_ GE162.out | refine below_set ?_ GE163.out) | exact HB.out)) hb); have n3_ := Aside0.mk (hbox); have n4_ := Aside0.mk ((by rw [hg]; exact (below_size (by repeat (first | (with_reducible first | exact HB.out | apply below_alloc | apply pw_below_drewN | apply below_drew1 | refine below_set ?_ GE162.out | refine below_set ?_ GE163.out) | exact HB.out))) : w.heap.size ≤ gb164)); have n5_ := Aside0.mk ((by rw [hg]; exact (below_size (by repeat (first | (with_reducible first | exact HB.out | apply below_alloc | apply pw_below_drewN | apply below_drew1 | refine below_set ?_ GE162.out | refine below_set ?_ GE163.out) | exact HB.out))) : w.heap.size ≤ gb164)); have n6_ := Aside0.mk ((by rw [hg]; exact Nat.ne_of_lt (blk_lt (g := gb162) (o := .cells #[.int .u64 a0_0, .int .u64 a0_1] 59 (0, 0)) (by (with_reducible repeat (first | refine blk_drewN ?_ _ | refine blk_drew ?_ | refine blk_alloc ?_ _)); exact BK162.out)) : gb162 ≠ gb164)); have n7_ := Aside0.mk ((by rw [hg]; exact Nat.ne_of_gt (blk_lt (g := gb162) (o := .cells #[.int .u64 a0_0, .int .u64 a0_1] 59 (0, 0)) (by (with_reducible repeat (first | refine blk_drewN ?_ _ | refine blk_drew ?_ | refine blk_alloc ?_ _)); exact BK162.out)) : gb164 ≠ gb162)); have n8_ := Aside0.mk ((by rw [hg]; exact Nat.ne_of_lt (blk_lt (g := gb163) (o := .cells #[.int .u64 a1_0, .int .u64 a1_1] 59 (0, 0)) (by (with_reducible repeat (first | refine blk_drewN ?_ _ | refine blk_drew ?_ | refine blk_alloc ?_ _)); exact BK163.out)) : gb163 ≠ gb164)); have n9_ := Aside0.mk ((by rw [hg]; exact Nat.ne_of_gt (blk_lt (g := gb163) (o := .cells #[.int .u64 a1_0, .int .u64 a1_1] 59 (0, 0)) (by (with_reducible repeat (first | refine blk_drewN ?_ _ | refine blk_drew ?_ | refine blk_alloc ?_ _)); exact BK163.out)) : gb164 ≠ gb163)); clear BK162; clear BK163; clear HB; have BK162 := n0_; have BK163 := n1_; have HB := n2_; have BK164 := n3_; have GW164 := n4_; have GE164 := n5_; have NB162_164 := n6_; have NB164_162 := n7_; have NB163_164 := n8_; have NB164_163 := n9_; clear n0_ n1_ n2_ n3_ n4_ n5_ n6_ n7_ n8_ n9_; clear hb hbox hg; have hnb6 := NB162_163.out; have hnc6 := NB163_162.out; have hnb7 := NB162_164.out; have hnc7 := NB164_162.out; have hcz8_0 : w5.cell? ⟨gb162, 0, none⟩ = some (.int .u64 a0_0) := (blk_cell BK162.out 0).trans rfl; have hcz8_1 : w5.cell? ⟨gb162, 1, none⟩ = some (.int .u64 a0_1) := (blk_cell BK162.out 1).trans rfl; have hfz8_0 := blk_frozen BK162.out 0; have hfz8_1 := blk_frozen BK162.out 1; have hnb9 := NB163_164.out; have hnc9 := NB164_163.out; have hcz10_0 : w5.cell? ⟨gb163, 0, none⟩ = some (.int .u64 a1_0) := (blk_cell BK163.out 0).trans rfl; have hcz10_1 : w5.cell? ⟨gb163, 1, none⟩ = some (.int .u64 a1_1) := (blk_cell BK163.out 1).trans rfl; have hfz10_0 := blk_frozen BK163.out 0; have hfz10_1 := blk_frozen BK163.out 1; have hcz11_0 : w5.cell? ⟨gb164, 0, none⟩ = some (.int .u64 0) := (blk_cell BK164.out 0).trans rfl; have hcz11_1 : w5.cell? ⟨gb164, 1, none⟩ = some (.int .u64 0) := (blk_cell BK164.out 1).trans rfl; have hfz11_0 := blk_frozen BK164.out 0; have hfz11_1 := blk_frozen BK164.out 1))
  refine bodyPost_ret (results_cell_row rfl _ _ gb164 59 #[.int .u64 (Go.bits .or .u64 a0_0 a1_0), .int .u64 (Go.bits .or .u64 a0_1 a1_1)] (0, 0) _ rfl (by (with_reducible repeat (first | refine blk_drewN ?_ _ | refine blk_drew ?_ | refine blk_alloc ?_ _)); refine blk_put (cs := #[.int .u64 (Go.bits .or .u64 a0_0 a1_0), .int .u64 0]) ?_ 1 _ rfl; (with_reducible repeat (first | refine blk_drewN ?_ _ | refine blk_drew ?_ | refine blk_alloc ?_ _)); refine blk_put (cs := #[.int .u64 0, .int .u64 0]) ?_ 0 _ rfl; (with_reducible repeat (first | refine blk_drewN ?_ _ | refine blk_drew ?_ | refine blk_alloc ?_ _)); exact BK164.out) Try.underlying59 rfl (by kernel_rfl)) rfl ?_
  exact ⟨by first | rfl | (simp [errW_none, errW_some] <;> rfl) | (simp [*, errW_none, errW_some] <;> rfl), by repeat (first | (with_reducible first | exact HB.out | apply below_alloc | apply pw_below_drewN | apply below_drew1 | refine below_set ?_ GE162.out | refine below_set ?_ GE163.out | refine below_set ?_ GE164.out) | exact HB.out)⟩


/-! ### impl_WideOr: function 33 -/
def impl_WideOr.f (a0_0 : Int) (a0_1 : Int) (a1_0 : Int) (a1_1 : Int) : Option (Int × Int) := (impl_Wide_u.f a0_0 a0_1).bind fun bt168 => ((impl_Wide_u.f a1_0 a1_1).bind fun bt170 => ((uint128_Uint128_Or.f bt168.1 bt168.2 bt170.1 bt170.2).bind fun bt172 => ((impl_wide.f bt172.1 bt172.2).bind fun bt174 => (some (bt174.1, bt174.2)))))
set_option maxHeartbeats 8000000 in
set_option maxRecDepth 100000 in
theorem impl_WideOr.calls (a0_0 : Int) (a0_1 : Int) (a1_0 : Int) (a1_1 : Int) (r1 : Int) (r2 : Int) (w : World) (h : impl_WideOr.f a0_0 a0_1 a1_0 a1_1 = some (r1, r2)) :
    Calls Try.prog 33 #[.agg #[.int .u64 a0_0, .int .u64 a0_1], .agg #[.int .u64 a1_0, .int .u64 a1_1]] w fun e w' => e = .returned (.agg #[.int .u64 r1, .int .u64 r2]) ∧ Below w.heap.size w w' := by
  have hu24 := Try.underlying24
  have HB := Aside0.mk (Below.refl w.heap.size w)
  have H : ((impl_Wide_u.f a0_0 a0_1).bind fun bt168 => ((impl_Wide_u.f a1_0 a1_1).bind fun bt170 => ((uint128_Uint128_Or.f bt168.1 bt168.2 bt170.1 bt170.2).bind fun bt172 => ((impl_wide.f bt172.1 bt172.2).bind fun bt174 => (some (bt174.1, bt174.2)))))) = some (r1, r2) := h
  clear h
  replace H := Option.bind_eq_some_iff.mp H
  obtain ⟨⟨t168, t169⟩, A30, H⟩ := H
  replace H : ((impl_Wide_u.f a1_0 a1_1).bind fun bt170 => ((uint128_Uint128_Or.f t168 t169 bt170.1 bt170.2).bind fun bt172 => ((impl_wide.f bt172.1 bt172.2).bind fun bt174 => (some (bt174.1, bt174.2))))) = some (r1, r2) := H
  have A3 := Aside0.mk A30
  clear A30
  replace H := Option.bind_eq_some_iff.mp H
  obtain ⟨⟨t170, t171⟩, A40, H⟩ := H
  replace H : ((uint128_Uint128_Or.f t168 t169 t170 t171).bind fun bt172 => ((impl_wide.f bt172.1 bt172.2).bind fun bt174 => (some (bt174.1, bt174.2)))) = some (r1, r2) := H
  have A4 := Aside0.mk A40
  clear A40
  replace H := Option.bind_eq_some_iff.mp H
  obtain ⟨⟨t172, t173⟩, A50, H⟩ := H
  replace H : ((impl_wide.f t172 t173).bind fun bt174 => (some (bt174.1, bt174.2))) = some (r1, r2) := H
  have A5 := Aside0.mk A50
  clear A50
  replace H := Option.bind_eq_some_iff.mp H
  obtain ⟨⟨t174, t175⟩, A60, H⟩ := H
  replace H : (some (t174, t175)) = some (r1, r2) := H
  have A6 := Aside0.mk A60
  clear A60
  simp only [Option.some.injEq, Prod.mk.injEq] at H
  obtain ⟨rfl, rfl⟩ := H
  go_enter Try.func33, Try.ntmps33
  try go_wp2_with (first | ((with_reducible refine gate_dst (N := 2) rfl ?_); refine box_event ?hg (N := 2) ?hd (cs := #[.int .u64 a0_0, .int .u64 a0_1]) (t := 24) ?hr ?_; (case hd => rfl); (case hg => rfl); (case hr => first | (go_simp; done) | (go_simp; rfl)); intro gb165 hg w7 hbox hb; have n0_ := Aside0.mk (below_step (by repeat (first | (with_reducible first | exact HB.out | apply below_alloc | apply pw_below_drewN | apply below_drew1) | exact HB.out)) hb); have n1_ := Aside0.mk (hbox); have n2_ := Aside0.mk ((by rw [hg]; exact (below_size (by repeat (first | (with_reducible first | exact HB.out | apply below_alloc | apply pw_below_drewN | apply below_drew1) | exact HB.out))) : w.heap.size ≤ gb165)); have n3_ := Aside0.mk ((by rw [hg]; exact (below_size (by repeat (first | (with_reducible first | exact HB.out | apply below_alloc | apply pw_below_drewN | apply below_drew1) | exact HB.out))) : w.heap.size ≤ gb165)); clear HB; have HB := n0_; have BK165 := n1_; have GW165 := n2_; have GE165 := n3_; clear n0_ n1_ n2_ n3_; clear hb hbox hg) | ((with_reducible refine gate_dst (N := 3) rfl ?_); refine box_event ?hg (N := 3) ?hd (cs := #[.int .u64 a1_0, .int .u64 a1_1]) (t := 24) ?hr ?_; (case hd => rfl); (case hg => rfl); (case hr => first | (go_simp; done) | (go_simp; rfl)); intro gb166 hg w8 hbox hb; have n0_ := Aside0.mk (blk_below (g := gb165) (o := .cells #[.int .u64 a0_0, .int .u64 a0_1] 24 (0, 0)) (by (with_reducible repeat (first | refine blk_drewN ?_ _ | refine blk_drew ?_ | refine blk_alloc ?_ _)); exact BK165.out) hb); have n1_ := Aside0.mk (below_step (by repeat (first | (with_reducible first | exact HB.out | apply below_alloc | apply pw_below_drewN | apply below_drew1 | refine below_set ?_ GE165.out) | exact HB.out)) hb); have n2_ := Aside0.mk (hbox); have n3_ := Aside0.mk ((by rw [hg]; exact (below_size (by repeat (first | (with_reducible first | exact HB.out | apply below_alloc | apply pw_below_drewN | apply below_drew1 | refine below_set ?_ GE165.out) | exact HB.out))) : w.heap.size ≤ gb166)); have n4_ := Aside0.mk ((by rw [hg]; exact (below_size (by repeat (first | (with_reducible first | exact HB.out | apply below_alloc | apply pw_below_drewN | apply below_drew1 | refine below_set ?_ GE165.out) | exact HB.out))) : w.heap.size ≤ gb166)); have n5_ := Aside0.mk ((by rw [hg]; exact Nat.ne_of_lt (blk_lt (g := gb165) (o := .cells #[.int .u64 a0_0, .int .u64 a0_1] 24 (0, 0)) (by (with_reducible repeat (first | refine blk_drewN ?_ _ | refine blk_drew ?_ | refine blk_alloc ?_ _)); exact BK165.out)) : gb165 ≠ gb166)); have n6_ := Aside0.mk ((by rw [hg]; exact Nat.ne_of_gt (blk_lt (g := gb165) (o := .cells #[.int .u64 a0_0, .int .u64 a0_1] 24 (0, 0)) (by (with_reducible repeat (first | refine blk_drewN ?_ _ | refine blk_drew ?_ | refine blk_alloc ?_ _)); exact BK165.out)) : gb166 ≠ gb165)); clear BK165; clear HB; have BK165 := n0_; have HB := n1_; have BK166 := n2_; have GW166 := n3_; have GE166 := n4_; have NB165_166 := n5_; have NB166_165 := n6_; clear n0_ n1_ n2_ n3_ n4_ n5_ n6_; clear hb hbox hg) | ((with_reducible refine gate_dst (N := 4) rfl ?_); refine box_event ?hg (N := 4) ?hd (cs := #[.int .u64 0, .int .u64 0]) (t := 24) ?hr ?_; (case hd => rfl); (case hg => rfl); (case hr => first | (go_simp; done) | (go_simp; rfl)); intro gb167 hg w9 hbox hb; have n0_ := Aside0.mk (blk_below (g := gb165) (o := .cells #[.int .u64 a0_0, .int .u64 a0_1] 24 (0, 0)) (by (with_reducible repeat (first | refine blk_drewN ?_ _ | refine blk_drew ?_ | refine blk_alloc ?_ _)); exact BK165.out) hb); have n1_ := Aside0.mk (blk_below (g := gb166) (o := .cells #[.int .u64 a1_0, .int .u64 a1_1] 24 (0, 0)) (by (with_reducible repeat (first | refine blk_drewN ?_ _ | refine blk_drew ?_ | refine blk_alloc ?_ _)); exact BK166.out) hb); have n2_ := Aside0.mk (below_step (by repeat (first | (with_reducible first | exact HB.out | apply below_alloc | apply pw_below_drewN | apply below_drew1 | refine below_set ?_ GE165.out | refine below_set ?_ GE166.out) | exact HB.out)) hb); have n3_ := Aside0.mk (hbox); have n4_ := Aside0.mk ((by rw [hg]; exact (below_size (by repeat (first | (with_reducible first | exact HB.out | apply below_alloc | apply pw_below_drewN | apply below_drew1 | refine below_set ?_ GE165.out | refine below_set ?_ GE166.out) | exact HB.out))) : w.heap.size ≤ gb167)); have n5_ := Aside0.mk ((by rw [hg]; exact (below_size (by repeat (first | (with_reducible first | exact HB.out | apply below_alloc | apply pw_below_drewN | apply below_drew1 | refine below_set ?_ GE165.out | refine below_set ?_ GE166.out) | exact HB.out))) : w.heap.size ≤ gb167)); have n6_ := Aside0.mk ((by rw [hg]; exact Nat.ne_of_lt (blk_lt (g := gb165) (o := .cells #[.int .u64 a0_0, .int .u64 a0_1] 24 (0, 0)) (by (with_reducible repeat (first | refine blk_drewN ?_ _ | refine blk_drew ?_ | refine blk_alloc ?_ _)); exact BK165.out)) : gb165 ≠ gb167)); have n7_ := Aside0.mk ((by rw [hg]; exact Nat.ne_of_gt (blk_lt (g := gb165) (o := .cells #[.int .u64 a0_0, .int .u64 a0_1] 24 (0, 0)) (by (with_reducible repeat (first | refine blk_drewN ?_ _ | refine blk_drew ?_ | refine blk_alloc ?_ _)); exact BK165.out)) : gb167 ≠ gb165)); have n8_ := Aside0.mk ((by rw [hg]; exact Nat.ne_of_lt (blk_lt (g := gb166) (o := .cells #[.int .u64 a1_0, .int .u64 a1_1] 24 (0, 0)) (by (with_reducible repeat (first | refine blk_drewN ?_ _ | refine blk_drew ?_ | refine blk_alloc ?_ _)); exact BK166.out)) : gb166 ≠ gb167)); have n9_ := Aside0.mk ((by rw [hg]; exact Nat.ne_of_gt (blk_lt (g := gb166) (o := .cells #[.int .u64 a1_0, .int .u64 a1_1] 24 (0, 0)) (by (with_reducible repeat (first | refine blk_drewN ?_ _ | refine blk_drew ?_ | refine blk_alloc ?_ _)); exact BK166.out)) : gb167 ≠ gb166)); clear BK165; clear BK166; clear HB; have BK165 := n0_; have BK166 := n1_; have HB := n2_; have BK167 := n3_; have GW167 := n4_; have GE167 := n5_; have NB165_167 := n6_; have NB167_165 := n7_; have NB166_167 := n8_; have NB167_166 := n9_; clear n0_ n1_ n2_ n3_ n4_ n5_ n6_ n7_ n8_ n9_; clear hb hbox hg))
  have n0_ := Aside0.mk (blk_drew BK165.out)
  have n1_ := Aside0.mk (blk_drew BK166.out)
  have n2_ := Aside0.mk (blk_drew BK167.out)
  have n3_ := Aside0.mk (below_drew1 HB.out)
  clear BK165
  clear BK166
  clear BK167
  clear HB
  have BK165 := n0_
  have BK166 := n1_
  have BK167 := n2_
  have HB := n3_
  clear n0_ n1_ n2_ n3_
  refine start_ (n := 7) (S := fun w' => w'.cell? ⟨gb165, 0, none⟩ = some (.int .u64 a0_0) ∧ w'.cell? ⟨gb165, 1, none⟩ = some (.int .u64 a0_1) ∧ w'.cell? ⟨gb166, 0, none⟩ = some (.int .u64 a1_0) ∧ w'.cell? ⟨gb166, 1, none⟩ = some (.int .u64 a1_1)) (ds := []) #[false, false, false, false, false, false, false] (by kernel_rfl) rfl rfl ⟨(blk_cell BK165.out 0).trans rfl, (blk_cell BK165.out 1).trans rfl, (blk_cell BK166.out 0).trans rfl, (blk_cell BK166.out 1).trans rfl⟩ (fun hHeld => ?_)
  generalize w9.drew = w10 at BK165 BK166 BK167 HB hHeld ⊢
  refine take_ (i := 0) (N := some 5) (v := ?_) (a' := ?_) #[true, false, false, false, false, false, false] rfl rfl (by kernel_rfl) (fun _ _ _ h => h) (Or.inl ⟨by rfl, ?_⟩) hHeld ?_ ?_
  rotate_left
  · rintro w' ⟨s0, s1, s2, s3⟩
    go_simp
    with_reducible rfl
  rotate_left
  · simp only [Act.put, List.setIfInBounds_toArray, List.set_cons_zero, List.set_cons_succ, i64_w, i32_w]
    rfl
  refine take_ (i := 2) (N := some 7) (v := ?_) (a' := ?_) #[true, false, true, false, false, false, false] rfl rfl (by kernel_rfl) (fun _ _ _ h => h) (Or.inl ⟨by rfl, ?_⟩) hHeld ?_ ?_
  rotate_left
  · rintro w' ⟨s0, s1, s2, s3⟩
    go_simp
    with_reducible rfl
  rotate_left
  · simp only [Act.put, List.setIfInBounds_toArray, List.set_cons_zero, List.set_cons_succ, i64_w, i32_w]
    rfl
  refine one_ (i := 1) (N := some 6) #[true, true, true, false, false, false, false] rfl rfl (by kernel_rfl) (by decide) (fun K hK => ?_)
  refine goes_ Try.func76 (by kernel_rfl) rfl #[.agg #[.int .u64 a0_0, .int .u64 a0_1]] (by rfl) rfl rfl (by (try simp only [List.map_toArray, List.map_cons, List.map_nil]); first | done | rfl | (simp only [List.length_drop, List.length_take]; rfl)) ?_
  with_reducible refine (impl_Wide_u.calls a0_0 a0_1 t168 t169 _ A3.out).mono ?_
  rintro e w11 ⟨rfl, hb⟩
  refine ⟨_, rfl, ?_⟩
  have n0_ := Aside0.mk (blk_below (g := gb165) (o := .cells #[.int .u64 a0_0, .int .u64 a0_1] 24 (0, 0)) (by (with_reducible repeat (first | refine blk_drewN ?_ _ | refine blk_drew ?_ | refine blk_alloc ?_ _)); exact BK165.out) hb)
  have n1_ := Aside0.mk (blk_below (g := gb166) (o := .cells #[.int .u64 a1_0, .int .u64 a1_1] 24 (0, 0)) (by (with_reducible repeat (first | refine blk_drewN ?_ _ | refine blk_drew ?_ | refine blk_alloc ?_ _)); exact BK166.out) hb)
  have n2_ := Aside0.mk (blk_below (g := gb167) (o := .cells #[.int .u64 0, .int .u64 0] 24 (0, 0)) (by (with_reducible repeat (first | refine blk_drewN ?_ _ | refine blk_drew ?_ | refine blk_alloc ?_ _)); exact BK167.out) hb)
  have n3_ := Aside0.mk (below_step (by repeat (first | (with_reducible first | exact HB.out | apply below_alloc | apply pw_below_drewN | apply below_drew1 | refine below_set ?_ GE165.out | refine below_set ?_ GE166.out | refine below_set ?_ GE167.out) | exact HB.out)) hb)
  clear BK165
  clear BK166
  clear BK167
  clear HB
  have BK165 := n0_
  have BK166 := n1_
  have BK167 := n2_
  have HB := n3_
  clear n0_ n1_ n2_ n3_
  (try clear hb)
  (try clear hb2)
  (try clear hk)
  (try clear hi)
  refine hK.out _ _ ⟨(blk_cell BK165.out 0).trans rfl, (blk_cell BK165.out 1).trans rfl, (blk_cell BK166.out 0).trans rfl, (blk_cell BK166.out 1).trans rfl⟩ (fun hHeld => ?_)
  clear hK K
  refine norm_ (a' := ?_) ?_ ?_
  rotate_left
  · show Act.put _ (some 6) _ = _
    simp only [Act.put, List.setIfInBounds_toArray, List.set_cons_zero, List.set_cons_succ, i64_w, i32_w]
    rfl
  refine one_ (i := 3) (N := some 8) #[true, true, true, true, false, false, false] rfl rfl (by kernel_rfl) (by decide) (fun K hK => ?_)
  refine goes_ Try.func76 (by kernel_rfl) rfl #[.agg #[.int .u64 a1_0, .int .u64 a1_1]] (by rfl) rfl rfl (by (try simp only [List.map_toArray, List.map_cons, List.map_nil]); first | done | rfl | (simp only [List.length_drop, List.length_take]; rfl)) ?_
  with_reducible refine (impl_Wide_u.calls a1_0 a1_1 t170 t171 _ A4.out).mono ?_
  rintro e w12 ⟨rfl, hb⟩
  refine ⟨_, rfl, ?_⟩
  have n0_ := Aside0.mk (blk_below (g := gb165) (o := .cells #[.int .u64 a0_0, .int .u64 a0_1] 24 (0, 0)) (by (with_reducible repeat (first | refine blk_drewN ?_ _ | refine blk_drew ?_ | refine blk_alloc ?_ _)); exact BK165.out) hb)
  have n1_ := Aside0.mk (blk_below (g := gb166) (o := .cells #[.int .u64 a1_0, .int .u64 a1_1] 24 (0, 0)) (by (with_reducible repeat (first | refine blk_drewN ?_ _ | refine blk_drew ?_ | refine blk_alloc ?_ _)); exact BK166.out) hb)
  have n2_ := Aside0.mk (blk_below (g := gb167) (o := .cells #[.int .u64 0, .int .u64 0] 24 (0, 0)) (by (with_reducible repeat (first | refine blk_drewN ?_ _ | refine blk_drew ?_ | refine blk_alloc ?_ _)); exact BK167.out) hb)
  have n3_ := Aside0.mk (below_step (by repeat (first | (with_reducible first | exact HB.out | apply below_alloc | apply pw_below_drewN | apply below_drew1 | refine below_set ?_ GE165.out | refine below_set ?_ GE166.out | refine below_set ?_ GE167.out) | exact HB.out)) hb)
  clear BK165
  clear BK166
  clear BK167
  clear HB
  have BK165 := n0_
  have BK166 := n1_
  have BK167 := n2_
  have HB := n3_
  clear n0_ n1_ n2_ n3_
  (try clear hb)
  (try clear hb2)
  (try clear hk)
  (try clear hi)
  refine hK.out _ _ ⟨(blk_cell BK165.out 0).trans rfl, (blk_cell BK165.out 1).trans rfl, (blk_cell BK166.out 0).trans rfl, (blk_cell BK166.out 1).trans rfl⟩ (fun hHeld => ?_)
  clear hK K
  refine norm_ (a' := ?_) ?_ ?_
  rotate_left
  · show Act.put _ (some 8) _ = _
    simp only [Act.put, List.setIfInBounds_toArray, List.set_cons_zero, List.set_cons_succ, i64_w, i32_w]
    rfl
  refine one_ (i := 4) (N := some 9) #[true, true, true, true, true, false, false] rfl rfl (by kernel_rfl) (by decide) (fun K hK => ?_)
  refine goes_ Try.func84 (by kernel_rfl) rfl #[.agg #[.int .u64 t168, .int .u64 t169], .agg #[.int .u64 t170, .int .u64 t171]] (by rfl) rfl rfl (by (try simp only [List.map_toArray, List.map_cons, List.map_nil]); first | done | rfl | (simp only [List.length_drop, List.length_take]; rfl)) ?_
  with_reducible refine (uint128_Uint128_Or.calls t168 t169 t170 t171 t172 t173 _ A5.out).mono ?_
  rintro e w13 ⟨rfl, hb⟩
  refine ⟨_, rfl, ?_⟩
  have n0_ := Aside0.mk (blk_below (g := gb165) (o := .cells #[.int .u64 a0_0, .int .u64 a0_1] 24 (0, 0)) (by (with_reducible repeat (first | refine blk_drewN ?_ _ | refine blk_drew ?_ | refine blk_alloc ?_ _)); exact BK165.out) hb)
  have n1_ := Aside0.mk (blk_below (g := gb166) (o := .cells #[.int .u64 a1_0, .int .u64 a1_1] 24 (0, 0)) (by (with_reducible repeat (first | refine blk_drewN ?_ _ | refine blk_drew ?_ | refine blk_alloc ?_ _)); exact BK166.out) hb)
  have n2_ := Aside0.mk (blk_below (g := gb167) (o := .cells #[.int .u64 0, .int .u64 0] 24 (0, 0)) (by (with_reducible repeat (first | refine blk_drewN ?_ _ | refine blk_drew ?_ | refine blk_alloc ?_ _)); exact BK167.out) hb)
  have n3_ := Aside0.mk (below_step (by repeat (first | (with_reducible first | exact HB.out | apply below_alloc | apply pw_below_drewN | apply below_drew1 | refine below_set ?_ GE165.out | refine below_set ?_ GE166.out | refine below_set ?_ GE167.out) | exact HB.out)) hb)
  clear BK165
  clear BK166
  clear BK167
  clear HB
  have BK165 := n0_
  have BK166 := n1_
  have BK167 := n2_
  have HB := n3_
  clear n0_ n1_ n2_ n3_
  (try clear hb)
  (try clear hb2)
  (try clear hk)
  (try clear hi)
  refine hK.out _ _ ⟨(blk_cell BK165.out 0).trans rfl, (blk_cell BK165.out 1).trans rfl, (blk_cell BK166.out 0).trans rfl, (blk_cell BK166.out 1).trans rfl⟩ (fun hHeld => ?_)
  clear hK K
  refine norm_ (a' := ?_) ?_ ?_
  rotate_left
  · show Act.put _ (some 9) _ = _
    simp only [Act.put, List.setIfInBounds_toArray, List.set_cons_zero, List.set_cons_succ, i64_w, i32_w]
    rfl
  refine one_ (i := 5) (N := some 10) #[true, true, true, true, true, true, false] rfl rfl (by kernel_rfl) (by decide) (fun K hK => ?_)
  refine goes_ Try.func80 (by kernel_rfl) rfl #[.agg #[.int .u64 t172, .int .u64 t173]] (by rfl) rfl rfl (by (try simp only [List.map_toArray, List.map_cons, List.map_nil]); first | done | rfl | (simp only [List.length_drop, List.length_take]; rfl)) ?_
  with_reducible refine (impl_wide.calls t172 t173 t174 t175 _ A6.out).mono ?_
  rintro e w14 ⟨rfl, hb⟩
  refine ⟨_, rfl, ?_⟩
  have n0_ := Aside0.mk (blk_below (g := gb165) (o := .cells #[.int .u64 a0_0, .int .u64 a0_1] 24 (0, 0)) (by (with_reducible repeat (first | refine blk_drewN ?_ _ | refine blk_drew ?_ | refine blk_alloc ?_ _)); exact BK165.out) hb)
  have n1_ := Aside0.mk (blk_below (g := gb166) (o := .cells #[.int .u64 a1_0, .int .u64 a1_1] 24 (0, 0)) (by (with_reducible repeat (first | refine blk_drewN ?_ _ | refine blk_drew ?_ | refine blk_alloc ?_ _)); exact BK166.out) hb)
  have n2_ := Aside0.mk (blk_below (g := gb167) (o := .cells #[.int .u64 0, .int .u64 0] 24 (0, 0)) (by (with_reducible repeat (first | refine blk_drewN ?_ _ | refine blk_drew ?_ | refine blk_alloc ?_ _)); exact BK167.out) hb)
  have n3_ := Aside0.mk (below_step (by repeat (first | (with_reducible first | exact HB.out | apply below_alloc | apply pw_below_drewN | apply below_drew1 | refine below_set ?_ GE165.out | refine below_set ?_ GE166.out | refine below_set ?_ GE167.out) | exact HB.out)) hb)
  clear BK165
  clear BK166
  clear BK167
  clear HB
  have BK165 := n0_
  have BK166 := n1_
  have BK167 := n2_
  have HB := n3_
  clear n0_ n1_ n2_ n3_
  (try clear hb)
  (try clear hb2)
  (try clear hk)
  (try clear hi)
  refine hK.out _ _ ⟨(blk_cell BK165.out 0).trans rfl, (blk_cell BK165.out 1).trans rfl, (blk_cell BK166.out 0).trans rfl, (blk_cell BK166.out 1).trans rfl⟩ (fun hHeld => ?_)
  clear hK K
  refine norm_ (a' := ?_) ?_ ?_
  rotate_left
  · show Act.put _ (some 10) _ = _
    simp only [Act.put, List.setIfInBounds_toArray, List.set_cons_zero, List.set_cons_succ, i64_w, i32_w]
    rfl
  refine one_ (i := 6) (N := none) #[true, true, true, true, true, true, true] rfl rfl (by kernel_rfl) (by decide) (fun K hK => ?_)
  have hs15 : w14.cell? ⟨gb167, 0, none⟩ = some (.int .u64 0) := (blk_cell BK167.out 0).trans rfl
  have hfs15 := blk_frozen BK167.out 0
  have hns15_0 := NB165_167.out
  have hns15_1 := NB166_167.out
  have hms15_0 := NB167_165.out
  have hms15_1 := NB167_166.out
  have hs16 : w14.cell? ⟨gb167, 1, none⟩ = some (.int .u64 0) := (blk_cell BK167.out 1).trans rfl
  have hfs16 := blk_frozen BK167.out 1
  have hns16_0 := NB165_167.out
  have hns16_1 := NB166_167.out
  have hms16_0 := NB167_165.out
  have hms16_1 := NB167_166.out
  refine skip_ (w1 := ?_) (by rfl) rfl ?_ ?_
  rotate_left
  · go_simp
    rfl
  refine hK.out _ _ ⟨((cell_far (p := ⟨gb167, _, none⟩) NB165_167.out _).trans (((cell_far (p := ⟨gb167, _, none⟩) NB165_167.out _).trans (hHeld.1)))), ((cell_far (p := ⟨gb167, _, none⟩) NB165_167.out _).trans (((cell_far (p := ⟨gb167, _, none⟩) NB165_167.out _).trans (hHeld.2.1)))), ((cell_far (p := ⟨gb167, _, none⟩) NB166_167.out _).trans (((cell_far (p := ⟨gb167, _, none⟩) NB166_167.out _).trans (hHeld.2.2.1)))), ((cell_far (p := ⟨gb167, _, none⟩) NB166_167.out _).trans (((cell_far (p := ⟨gb167, _, none⟩) NB166_167.out _).trans (hHeld.2.2.2))))⟩ (fun hHeld => ?_)
  clear hK K
  refine done_ (by kernel_rfl) ?_
  try go_wp2
  refine bodyPost_ret (results_cell_row rfl _ _ gb167 24 #[.int .u64 t174, .int .u64 t175] (0, 0) _ rfl (by (with_reducible repeat (first | refine blk_drewN ?_ _ | refine blk_drew ?_ | refine blk_alloc ?_ _)); refine blk_put (cs := #[.int .u64 t174, .int .u64 0]) ?_ 1 _ rfl; (with_reducible repeat (first | refine blk_drewN ?_ _ | refine blk_drew ?_ | refine blk_alloc ?_ _)); refine blk_put (cs := #[.int .u64 0, .int .u64 0]) ?_ 0 _ rfl; (with_reducible repeat (first | refine blk_drewN ?_ _ | refine blk_drew ?_ | refine blk_alloc ?_ _)); exact BK167.out) Try.underlying24 rfl (by kernel_rfl)) rfl ?_
  exact ⟨by first | rfl | (simp [errW_none, errW_some] <;> rfl) | (simp [*, errW_none, errW_some] <;> rfl), by repeat (first | (with_reducible first | exact HB.out | apply below_alloc | apply pw_below_drewN | apply below_drew1 | refine below_set ?_ GE165.out | refine below_set ?_ GE166.out | refine below_set ?_ GE167.out) | exact HB.out)⟩


/-! ### uint128_Uint128_Or64: function 85 -/
def uint128_Uint128_Or64.f (a0_0 : Int) (a0_1 : Int) (a1 : Int) : Option (Int × Int) := some (Go.bits .or .u64 a0_0 a1, Go.bits .or .u64 a0_1 0)
set_option maxHeartbeats 8000000 in
set_option maxRecDepth 100000 in
theorem uint128_Uint128_Or64.calls (a0_0 : Int) (a0_1 : Int) (a1 : Int) (r1 : Int) (r2 : Int) (w : World) (h : uint128_Uint128_Or64.f a0_0 a0_1 a1 = some (r1, r2)) :
    Calls Try.prog 85 #[.agg #[.int .u64 a0_0, .int .u64 a0_1], .int .u64 a1] w fun e w' => e = .returned (.agg #[.int .u64 r1, .int .u64 r2]) ∧ Below w.heap.size w w' := by
  have hu59 := Try.underlying59
  have HB := Aside0.mk (Below.refl w.heap.size w)
  have H : (some (Go.bits .or .u64 a0_0 a1, Go.bits .or .u64 a0_1 0)) = some (r1, r2) := h
  clear h
  simp only [Option.some.injEq, Prod.mk.injEq] at H
  obtain ⟨rfl, rfl⟩ := H
  go_enter Try.func85, Try.ntmps85
  go_wp2_with (first | ((with_reducible refine gate_dst (N := 2) rfl ?_); refine box_event ?hg (N := 2) ?hd (cs := #[.int .u64 a0_0, .int .u64 a0_1]) (t := 59) ?hr ?_; (case hd => rfl); (case hg => rfl); (case hr => first | (go_simp; done) | (go_simp; rfl)); intro gb176 hg w3 hbox hb; have n0_ := Aside0.mk (below_step (by repeat (first | (with_reducible first | exact HB.out | apply below_alloc | apply pw_below_drewN | apply below_drew1) | exact HB.out)) hb); have n1_ := Aside0.mk (hbox); have n2_ := Aside0.mk ((by rw [hg]; exact (below_size (by repeat (first | (with_reducible first | exact HB.out | apply below_alloc | apply pw_below_drewN | apply below_drew1) | exact HB.out))) : w.heap.size ≤ gb176)); have n3_ := Aside0.mk ((by rw [hg]; exact (below_size (by repeat (first | (with_reducible first | exact HB.out | apply below_alloc | apply pw_below_drewN | apply below_drew1) | exact HB.out))) : w.heap.size ≤ gb176)); clear HB; have HB := n0_; have BK176 := n1_; have GW176 := n2_; have GE176 := n3_; clear n0_ n1_ n2_ n3_; clear hb hbox hg) | ((with_reducible refine gate_dst (N := 4) rfl ?_); refine box_event ?hg (N := 4) ?hd (cs := #[.int .u64 0, .int .u64 0]) (t := 59) ?hr ?_; (case hd => rfl); (case hg => rfl); (case hr => first | (go_simp; done) | (go_simp; rfl)); intro gb177 hg w4 hbox hb; have n0_ := Aside0.mk (blk_below (g := gb176) (o := .cells #[.int .u64 a0_0, .int .u64 a0_1] 59 (0, 0)) (by (with_reducible repeat (first | refine blk_drewN ?_ _ | refine blk_drew ?_ | refine blk_alloc ?_ _)); exact BK176.out) hb); have n1_ := Aside0.mk (below_step (by repeat (first | (with_reducible first | exact HB.out | apply below_alloc | apply pw_below_drewN | apply below_drew1 | refine below_set ?_ GE176.out) | exact HB.out)) hb); have n2_ := Aside0.mk (hbox); have n3_ := Aside0.mk ((by rw [hg]; exact (below_size (by repeat (first | (with_reducible first | exact HB.out | apply below_alloc | apply pw_below_drewN | apply below_drew1 | refine below_set ?_ GE176.out) | exact HB.out))) : w.heap.size ≤ gb177)); have n4_ := Aside0.mk ((by rw [hg]; exact (below_size (by repeat (first | (with_reducible first | exact HB.out | apply below_alloc | apply pw_below_drewN | apply below_drew1 | refine below_set ?_ GE176.out) | exact HB.out))) : w.heap.size ≤ gb177)); have n5_ := Aside0.mk ((by rw [hg]; exact Nat.ne_of_lt (blk_lt (g := gb176) (o := .cells #[.int .u64 a0_0, .int .u64 a0_1] 59 (0, 0)) (by (with_reducible repeat (first | refine blk_drewN ?_ _ | refine blk_drew ?_ | refine blk_alloc ?_ _)); exact BK176.out)) : gb176 ≠ gb177)); have n6_ := Aside0.mk ((by rw [hg]; exact Nat.ne_of_gt (blk_lt (g := gb176) (o := .cells #[.int .u64 a0_0, .int .u64 a0_1] 59 (0, 0)) (by (with_reducible repeat (first | refine blk_drewN ?_ _ | refine blk_drew ?_ | refine blk_alloc ?_ _)); exact BK176.out)) : gb177 ≠ gb176)); clear BK176; clear HB; have BK176 := n0_; have HB := n1_; have BK177 := n2_; have GW177 := n3_; have GE177 := n4_; have NB176_177 := n5_; have NB177_176 := n6_; clear n0_ n1_ n2_ n3_ n4_ n5_ n6_; clear hb hbox hg; have hnb5 := NB176_177.out; have hnc5 := NB177_176.out; have hcz6_0 : w4.cell? ⟨gb176, 0, none⟩ = some (.int .u64 a0_0) := (blk_cell BK176.out 0).trans rfl; have hcz6_1 : w4.cell? ⟨gb176, 1, none⟩ = some (.int .u64 a0_1) := (blk_cell BK176.out 1).trans rfl; have hfz6_0 := blk_frozen BK176.out 0; have hfz6_1 := blk_frozen BK176.out 1; have hcz7_0 : w4.cell? ⟨gb177, 0, none⟩ = some (.int .u64 0) := (blk_cell BK177.out 0).trans rfl; have hcz7_1 : w4.cell? ⟨gb177, 1, none⟩ = some (.int .u64 0) := (blk_cell BK177.out 1).trans rfl; have hfz7_0 := blk_frozen BK177.out 0; have hfz7_1 := blk_frozen BK177.out 1))
  refine bodyPost_ret (results_cell_row rfl _ _ gb177 59 #[.int .u64 (Go.bits .or .u64 a0_0 a1), .int .u64 (Go.bits .or .u64 a0_1 0)] (0, 0) _ rfl (by (with_reducible repeat (first | refine blk_drewN ?_ _ | refine blk_drew ?_ | refine blk_alloc ?_ _)); refine blk_put (cs := #[.int .u64 (Go.bits .or .u64 a0_0 a1), .int .u64 0]) ?_ 1 _ rfl; (with_reducible repeat (first | refine blk_drewN ?_ _ | refine blk_drew ?_ | refine blk_alloc ?_ _)); refine blk_put (cs := #[.int .u64 0, .int .u64 0]) ?_ 0 _ rfl; (with_reducible repeat (first | refine blk_drewN ?_ _ | refine blk_drew ?_ | refine blk_alloc ?_ _)); exact BK177.out) Try.underlying59 rfl (by kernel_rfl)) rfl ?_
  exact ⟨by first | rfl | (simp [errW_none, errW_some] <;> rfl) | (simp [*, errW_none, errW_some] <;> rfl), by repeat (first | (with_reducible first | exact HB.out | apply below_alloc | apply pw_below_drewN | apply below_drew1 | refine below_set ?_ GE176.out | refine below_set ?_ GE177.out) | exact HB.out)⟩


/-! ### impl_WideOr64: function 34 -/
def impl_WideOr64.f (a0_0 : Int) (a0_1 : Int) (a1 : Int) : Option (Int × Int) := (impl_Wide_u.f a0_0 a0_1).bind fun bt180 => ((uint128_Uint128_Or64.f bt180.1 bt180.2 a1).bind fun bt182 => ((impl_wide.f bt182.1 bt182.2).bind fun bt184 => (some (bt184.1, bt184.2))))
set_option maxHeartbeats 8000000 in
set_option maxRecDepth 100000 in
theorem impl_WideOr64.calls (a0_0 : Int) (a0_1 : Int) (a1 : Int) (r1 : Int) (r2 : Int) (w : World) (h : impl_WideOr64.f a0_0 a0_1 a1 = some (r1, r2)) :
    Calls Try.prog 34 #[.agg #[.int .u64 a0_0, .int .u64 a0_1], .int .u64 a1] w fun e w' => e = .returned (.agg #[.int .u64 r1, .int .u64 r2]) ∧ Below w.heap.size w w' := by
  have hu24 := Try.underlying24
  have HB := Aside0.mk (Below.refl w.heap.size w)
  have H : ((impl_Wide_u.f a0_0 a0_1).bind fun bt180 => ((uint128_Uint128_Or64.f bt180.1 bt180.2 a1).bind fun bt182 => ((impl_wide.f bt182.1 bt182.2).bind fun bt184 => (some (bt184.1, bt184.2))))) = some (r1, r2) := h
  clear h
  replace H := Option.bind_eq_some_iff.mp H
  obtain ⟨⟨t180, t181⟩, A30, H⟩ := H
  replace H : ((uint128_Uint128_Or64.f t180 t181 a1).bind fun bt182 => ((impl_wide.f bt182.1 bt182.2).bind fun bt184 => (some (bt184.1, bt184.2)))) = some (r1, r2) := H
  have A3 := Aside0.mk A30
  clear A30
  replace H := Option.bind_eq_some_iff.mp H
  obtain ⟨⟨t182, t183⟩, A40, H⟩ := H
  replace H : ((impl_wide.f t182 t183).bind fun bt184 => (some (bt184.1, bt184.2))) = some (r1, r2) := H
  have A4 := Aside0.mk A40
  clear A40
  replace H := Option.bind_eq_some_iff.mp H
  obtain ⟨⟨t184, t185⟩, A50, H⟩ := H
  replace H : (some (t184, t185)) = some (r1, r2) := H
  have A5 := Aside0.mk A50
  clear A50
  simp only [Option.some.injEq, Prod.mk.injEq] at H
  obtain ⟨rfl, rfl⟩ := H
  go_enter Try.func34, Try.ntmps34
  go_wp2_with (first | ((with_reducible refine gate_dst (N := 2) rfl ?_); refine box_event ?hg (N := 2) ?hd (cs := #[.int .u64 a0_0, .int .u64 a0_1]) (t := 24) ?hr ?_; (case hd => rfl); (case hg => rfl); (case hr => first | (go_simp; done) | (go_simp; rfl)); intro gb178 hg w6 hbox hb; have n0_ := Aside0.mk (below_step (by repeat (first | (with_reducible first | exact HB.out | apply below_alloc | apply pw_below_drewN | apply below_drew1) | exact HB.out)) hb); have n1_ := Aside0.mk (hbox); have n2_ := Aside0.mk ((by rw [hg]; exact (below_size (by repeat (first | (with_reducible first | exact HB.out | apply below_alloc | apply pw_below_drewN | apply below_drew1) | exact HB.out))) : w.heap.size ≤ gb178)); have n3_ := Aside0.mk ((by rw [hg]; exact (below_size (by repeat (first | (with_reducible first | exact HB.out | apply below_alloc | apply pw_below_drewN | apply below_drew1) | exact HB.out))) : w.heap.size ≤ gb178)); clear HB; have HB := n0_; have BK178 := n1_; have GW178 := n2_; have GE178 := n3_; clear n0_ n1_ n2_ n3_; clear hb hbox hg) | ((with_reducible refine gate_dst (N := 4) rfl ?_); refine box_event ?hg (N := 4) ?hd (cs := #[.int .u64 0, .int .u64 0]) (t := 24) ?hr ?_; (case hd => rfl); (case hg => rfl); (case hr => first | (go_simp; done) | (go_simp; rfl)); intro gb179 hg w7 hbox hb; have n0_ := Aside0.mk (blk_below (g := gb178) (o := .cells #[.int .u64 a0_0, .int .u64 a0_1] 24 (0, 0)) (by (with_reducible repeat (first | refine blk_drewN ?_ _ | refine blk_drew ?_ | refine blk_alloc ?_ _)); exact BK178.out) hb); have n1_ := Aside0.mk (below_step (by repeat (first | (with_reducible first | exact HB.out | apply below_alloc | apply pw_below_drewN | apply below_drew1 | refine below_set ?_ GE178.out) | exact HB.out)) hb); have n2_ := Aside0.mk (hbox); have n3_ := Aside0.mk ((by rw [hg]; exact (below_size (by repeat (first | (with_reducible first | exact HB.out | apply below_alloc | apply pw_below_drewN | apply below_drew1 | refine below_set ?_ GE178.out) | exact HB.out))) : w.heap.size ≤ gb179)); have n4_ := Aside0.mk ((by rw [hg]; exact (below_size (by repeat (first | (with_reducible first | exact HB.out | apply below_alloc | apply pw_below_drewN | apply below_drew1 | refine below_set ?_ GE178.out) | exact HB.out))) : w.heap.size ≤ gb179)); have n5_ := Aside0.mk ((by rw [hg]; exact Nat.ne_of_lt (blk_lt (g := gb178) (o := .cells #[.int .u64 a0_0, .int .u64 a0_1] 24 (0, 0)) (by (with_reducible repeat (first | refine blk_drewN ?_ _ | refine blk_drew ?_ | refine blk_alloc ?_ _)); exact BK178.out)) : gb178 ≠ gb179)); have n6_ := Aside0.mk ((by rw [hg]; exact Nat.ne_of_gt (blk_lt (g := gb178) (o := .cells #[.int .u64 a0_0, .int .u64 a0_1] 24 (0, 0)) (by (with_reducible repeat (first | refine blk_drewN ?_ _ | refine blk_drew ?_ | refine blk_alloc ?_ _)); exact BK178.out)) : gb179 ≠ gb178)); clear BK178; clear HB; have BK178 := n0_; have HB := n1_; have BK179 := n2_; have GW179 := n3_; have GE179 := n4_; have NB178_179 := n5_; have NB179_178 := n6_; clear n0_ n1_ n2_ n3_ n4_ n5_ n6_; clear hb hbox hg; have hnb8 := NB178_179.out; have hnc8 := NB179_178.out; have hcz9_0 : w7.cell? ⟨gb178, 0, none⟩ = some (.int .u64 a0_0) := (blk_cell BK178.out 0).trans rfl; have hcz9_1 : w7.cell? ⟨gb178, 1, none⟩ = some (.int .u64 a0_1) := (blk_cell BK178.out 1).trans rfl; have hfz9_0 := blk_frozen BK178.out 0; have hfz9_1 := blk_frozen BK178.out 1) | ((with_reducible refine gate_callee (f := 76) rfl ?_); refine goesL_ (some 6) rfl rfl Try.func76 (by kernel_rfl) rfl #[.agg #[.int .u64 a0_0, .int .u64 a0_1]] rfl (by (try simp only [List.map_toArray, List.map_cons, List.map_nil]); first | done | rfl | (simp only [List.length_drop, List.length_take]; rfl)) ?_; (with_reducible refine (impl_Wide_u.calls a0_0 a0_1 t180 t181 _ A3.out).mono ?_); rintro e w10 ⟨rfl, hb⟩; refine ⟨_, rfl, ?_⟩; have n0_ := Aside0.mk (blk_below (g := gb178) (o := .cells #[.int .u64 a0_0, .int .u64 a0_1] 24 (0, 0)) (by (with_reducible repeat (first | refine blk_drewN ?_ _ | refine blk_drew ?_ | refine blk_alloc ?_ _)); exact BK178.out) hb); have n1_ := Aside0.mk (blk_below (g := gb179) (o := .cells #[.int .u64 0, .int .u64 0] 24 (0, 0)) (by (with_reducible repeat (first | refine blk_drewN ?_ _ | refine blk_drew ?_ | refine blk_alloc ?_ _)); exact BK179.out) hb); have n2_ := Aside0.mk (below_step (by repeat (first | (with_reducible first | exact HB.out | apply below_alloc | apply pw_below_drewN | apply below_drew1 | refine below_set ?_ GE178.out | refine below_set ?_ GE179.out) | exact HB.out)) hb); clear BK178; clear BK179; clear HB; have BK178 := n0_; have BK179 := n1_; have HB := n2_; clear n0_ n1_ n2_; (try clear hb); (try clear hb2); (try clear hk); (try clear hi)) | ((with_reducible refine gate_callee (f := 85) rfl ?_); refine goesL_ (some 8) rfl rfl Try.func85 (by kernel_rfl) rfl #[.agg #[.int .u64 t180, .int .u64 t181], .int .u64 a1] rfl (by (try simp only [List.map_toArray, List.map_cons, List.map_nil]); first | done | rfl | (simp only [List.length_drop, List.length_take]; rfl)) ?_; (with_reducible refine (uint128_Uint128_Or64.calls t180 t181 a1 t182 t183 _ A4.out).mono ?_); rintro e w11 ⟨rfl, hb⟩; refine ⟨_, rfl, ?_⟩; have n0_ := Aside0.mk (blk_below (g := gb178) (o := .cells #[.int .u64 a0_0, .int .u64 a0_1] 24 (0, 0)) (by (with_reducible repeat (first | refine blk_drewN ?_ _ | refine blk_drew ?_ | refine blk_alloc ?_ _)); exact BK178.out) hb); have n1_ := Aside0.mk (blk_below (g := gb179) (o := .cells #[.int .u64 0, .int .u64 0] 24 (0, 0)) (by (with_reducible repeat (first | refine blk_drewN ?_ _ | refine blk_drew ?_ | refine blk_alloc ?_ _)); exact BK179.out) hb); have n2_ := Aside0.mk (below_step (by repeat (first | (with_reducible first | exact HB.out | apply below_alloc | apply pw_below_drewN | apply below_drew1 | refine below_set ?_ GE178.out | refine below_set ?_ GE179.out) | exact HB.out)) hb); clear BK178; clear BK179; clear HB; have BK178 := n0_; have BK179 := n1_; have HB := n2_; clear n0_ n1_ n2_; (try clear hb); (try clear hb2); (try clear hk); (try clear hi)) | ((with_reducible refine gate_callee (f := 80) rfl ?_); refine goesL_ (some 9) rfl rfl Try.func80 (by kernel_rfl) rfl #[.agg #[.int .u64 t182, .int .u64 t183]] rfl (by (try simp only [List.map_toArray, List.map_cons, List.map_nil]); first | done | rfl | (simp only [List.length_drop, List.length_take]; rfl)) ?_; (with_reducible refine (impl_wide.calls t182 t183 t184 t185 _ A5.out).mono ?_); rintro e w12 ⟨rfl, hb⟩; refine ⟨_, rfl, ?_⟩; have n0_ := Aside0.mk (blk_below (g := gb178) (o := .cells #[.int .u64 a0_0, .int .u64 a0_1] 24 (0, 0)) (by (with_reducible repeat (first | refine blk_drewN ?_ _ | refine blk_drew ?_ | refine blk_alloc ?_ _)); exact BK178.out) hb); have n1_ := Aside0.mk (blk_below (g := gb179) (o := .cells #[.int .u64 0, .int .u64 0] 24 (0, 0)) (by (with_reducible repeat (first | refine blk_drewN ?_ _ | refine blk_drew ?_ | refine blk_alloc ?_ _)); exact BK179.out) hb); have n2_ := Aside0.mk (below_step (by repeat (first | (with_reducible first | exact HB.out | apply below_alloc | apply pw_below_drewN | apply below_drew1 | refine below_set ?_ GE178.out | refine below_set ?_ GE179.out) | exact HB.out)) hb); clear BK178; clear BK179; clear HB; have BK178 := n0_; have BK179 := n1_; have HB := n2_; clear n0_ n1_ n2_; (try clear hb); (try clear hb2); (try clear hk); (try clear hi); have hcz13_0 : w12.cell? ⟨gb179, 0, none⟩ = some (.int .u64 0) := (blk_cell BK179.out 0).trans rfl; have hcz13_1 : w12.cell? ⟨gb179, 1, none⟩ = some (.int .u64 0) := (blk_cell BK179.out 1).trans rfl; have hfz13_0 := blk_frozen BK179.out 0; have hfz13_1 := blk_frozen BK179.out 1))
  refine bodyPost_ret (results_cell_row rfl _ _ gb179 24 #[.int .u64 t184, .int .u64 t185] (0, 0) _ rfl (by (with_reducible repeat (first | refine blk_drewN ?_ _ | refine blk_drew ?_ | refine blk_alloc ?_ _)); refine blk_put (cs := #[.int .u64 t184, .int .u64 0]) ?_ 1 _ rfl; (with_reducible repeat (first | refine blk_drewN ?_ _ | refine blk_drew ?_ | refine blk_alloc ?_ _)); refine blk_put (cs := #[.int .u64 0, .int .u64 0]) ?_ 0 _ rfl; (with_reducible repeat (first | refine blk_drewN ?_ _ | refine blk_drew ?_ | refine blk_alloc ?_ _)); exact BK179.out) Try.underlying24 rfl (by kernel_rfl)) rfl ?_
  exact ⟨by first | rfl | (simp [errW_none, errW_some] <;> rfl) | (simp [*, errW_none, errW_some] <;> rfl), by repeat (first | (with_reducible first | exact HB.out | apply below_alloc | apply pw_below_drewN | apply below_drew1 | refine below_set ?_ GE178.out | refine below_set ?_ GE179.out) | exact HB.out)⟩


-- NOT PRINTED: function 5 (laws_FnWideOr)

/-! ### uint128_Uint128_Xor: function 86 -/
def uint128_Uint128_Xor.f (a0_0 : Int) (a0_1 : Int) (a1_0 : Int) (a1_1 : Int) : Option (Int × Int) := some (Go.bits .xor .u64 a0_0 a1_0, Go.bits .xor .u64 a0_1 a1_1)
set_option maxHeartbeats 8000000 in
set_option maxRecDepth 100000 in
theorem uint128_Uint128_Xor.calls (a0_0 : Int) (a0_1 : Int) (a1_0 : Int) (a1_1 : Int) (r1 : Int) (r2 : Int) (w : World) (h : uint128_Uint128_Xor.f a0_0 a0_1 a1_0 a1_1 = some (r1, r2)) :
    Calls Try.prog 86 #[.agg #[.int .u64 a0_0, .int .u64 a0_1], .agg #[.int .u64 a1_0, .int .u64 a1_1]] w fun e w' => e = .returned (.agg #[.int .u64 r1, .int .u64 r2]) ∧ Below w.heap.size w w' := by
  have hu59 := Try.underlying59
  have HB := Aside0.mk (Below.refl w.heap.size w)
  have H : (some (Go.bits .xor .u64 a0_0 a1_0, Go.bits .xor .u64 a0_1 a1_1)) = some (r1, r2) := h
  clear h
  simp only [Option.some.injEq, Prod.mk.injEq] at H
  obtain ⟨rfl, rfl⟩ := H
  go_enter Try.func86, Try.ntmps86
  go_wp2_with (first | ((with_reducible refine gate_dst (N := 2) rfl ?_); refine box_event ?hg (N := 2) ?hd (cs := #[.int .u64 a0_0, .int .u64 a0_1]) (t := 59) ?hr ?_; (case hd => rfl); (case hg => rfl); (case hr => first | (go_simp; done) | (go_simp; rfl)); intro gb188 hg w3 hbox hb; have n0_ := Aside0.mk (below_step (by repeat (first | (with_reducible first | exact HB.out | apply below_alloc | apply pw_below_drewN | apply below_drew1) | exact HB.out)) hb); have n1_ := Aside0.mk (hbox); have n2_ := Aside0.mk ((by rw [hg]; exact (below_size (by repeat (first | (with_reducible first | exact HB.out | apply below_alloc | apply pw_below_drewN | apply below_drew1) | exact HB.out))) : w.heap.size ≤ gb188)); have n3_ := Aside0.mk ((by rw [hg]; exact (below_size (by repeat (first | (with_reducible first | exact HB.out | apply below_alloc | apply pw_below_drewN | apply below_drew1) | exact HB.out))) : w.heap.size ≤ gb188)); clear HB; have HB := n0_; have BK188 := n1_; have GW188 := n2_; have GE188 := n3_; clear n0_ n1_ n2_ n3_; clear hb hbox hg) | ((with_reducible refine gate_dst (N := 3) rfl ?_); refine box_event ?hg (N := 3) ?hd (cs := #[.int .u64 a1_0, .int .u64 a1_1]) (t := 59) ?hr ?_; (case hd => rfl); (case hg => rfl); (case hr => first | (go_simp; done) | (go_simp; rfl)); intro gb189 hg w4 hbox hb; have n0_ := Aside0.mk (blk_below (g := gb188) (o := .cells #[.int .u64 a0_0, .int .u64 a0_1] 59 (0, 0)) (by (with_reducible repeat (first | refine blk_drewN ?_ _ | refine blk_drew ?_ | refine blk_alloc ?_ _)); exact BK188.out) hb); have n1_ := Aside0.mk (below_step (by repeat (first | (with_reducible first | exact HB.out | apply below_alloc | apply pw_below_drewN | apply below_drew1 | refine below_set ?_ GE188.out) | exact HB.out)) hb); have n2_ := Aside0.mk (hbox); have n3_ := Aside0.mk ((by rw [hg]; exact (below_size (by repeat (first | (with_reducible first | exact HB.out | apply below_alloc | apply pw_below_drewN | apply below_drew1 | refine below_set ?_ GE188.out) | exact HB.out))) : w.heap.size ≤ gb189)); have n4_ := Aside0.mk ((by rw [hg]; exact (below_size (by repeat (first | (with_reducible first | exact HB.out | apply below_alloc | apply pw_below_drewN | apply below_drew1 | refine below_set ?_ GE188.out) | exact HB.out))) : w.heap.size ≤ gb189)); have n5_ := Aside0.mk ((by rw [hg]; exact Nat.ne_of_lt (blk_lt (g := gb188) (o := .cells #[.int .u64 a0_0, .int .u64 a0_1] 59 (0, 0)) (by (with_reducible repeat (first | refine blk_drewN ?_ _ | refine blk_drew ?_ | refine blk_alloc ?_ _)); exact BK188.out)) : gb188 ≠ gb189)); have n6_ := Aside0.mk ((by rw [hg]; exact Nat.ne_of_gt (blk_lt (g := gb188) (o := .cells #[.int .u64 a0_0, .int .u64 a0_1] 59 (0, 0)) (by (with_reducible repeat (first | refine blk_drewN ?_ _ | refine blk_drew ?_ | refine blk_alloc ?_ _)); exact BK188.out)) : gb189 ≠ gb188)); clear BK188; clear HB; have BK188 := n0_; have HB := n1_; have BK189 := n2_; have GW189 := n3_; have GE189 := n4_; have NB188_189 := n5_; have NB189_188 := n6_; clear n0_ n1_ n2_ n3_ n4_ n5_ n6_; clear hb hbox hg) | ((with_reducible refine gate_dst (N := 4) rfl ?_); refine box_event ?hg (N := 4) ?hd (cs := #[.int .u64 0, .int .u64 0]) (t := 59) ?hr ?_; (case hd => rfl); (case hg => rfl); (case hr => first | (go_simp; done) | (go_simp; rfl)); intro gb190 hg w5 hbox hb; have n0_ := Aside0.mk (blk_below (g := gb188) (o := .cells #[.int .u64 a0_0, .int .u64 a0_1] 59 (0, 0)) (by (with_reducible repeat (first | refine blk_drewN ?_ _ | refine blk_drew ?_ | refine blk_alloc ?_ _)); exact BK188.out) hb); have n1_ := Aside0.mk (blk_below (g := gb189) (o := .cells #[.int .u64 a1_0, .int .u64 a1_1] 59 (0, 0)) (by (with_reducible repeat (first | refine blk_drewN ?_ _ | refine blk_drew ?_ | refine blk_alloc ?_ _)); exact BK189.out) hb); have n2_ := Aside0.mk (below_step (by repeat (first | (with_reducible first | exact HB.out | apply below_alloc | apply pw_below_drewN | apply below_drew1 | refine below_set ?_ GE188.out | refine below_set ?_ GE189.out) | exact HB.out)) hb); have n3_ := Aside0.mk (hbox); have n4_ := Aside0.mk ((by rw [hg]; exact (below_size (by repeat (first | (with_reducible first | exact HB.out | apply below_alloc | apply pw_below_drewN | apply below_drew1 | refine below_set ?_ GE188.out | refine below_set ?_ GE189.out) | exact HB.out))) : w.heap.size ≤ gb190)); have n5_ := Aside0.mk ((by rw [hg]; exact (below_size (by repeat (first | (with_reducible first | exact HB.out | apply below_alloc | apply pw_below_drewN | apply below_drew1 | refine below_set ?_ GE188.out | refine below_set ?_ GE189.out) | exact HB.out))) : w.heap.size ≤ gb190)); have n6_ := Aside0.mk ((by rw [hg]; exact Nat.ne_of_lt (blk_lt (g := gb188) (o := .cells #[.int .u64 a0_0, .int .u64 a0_1] 59 (0, 0)) (by (with_reducible repeat (first | refine blk_drewN ?_ _ | refine blk_drew ?_ | refine blk_alloc ?_ _)); exact BK188.out)) : gb188 ≠ gb190)); have n7_ := Aside0.mk ((by rw [hg]; exact Nat.ne_of_gt (blk_lt (g := gb188) (o := .cells #[.int .u64 a0_0, .int .u64 a0_1] 59 (0, 0)) (by (with_reducible repeat (first | refine blk_drewN ?_ _ | refine blk_drew ?_ | refine blk_alloc ?_ _)); exact BK188.out)) : gb190 ≠ gb188)); have n8_ := Aside0.mk ((by rw [hg]; exact Nat.ne_of_lt (blk_lt (g := gb189) (o := .cells #[.int .u64 a1_0, .int .u64 a1_1] 59 (0, 0)) (by (with_reducible repeat (first | refine blk_drewN ?_ _ | refine blk_drew ?_ | refine blk_alloc ?_ _)); exact BK189.out)) : gb189 ≠ gb190)); have n9_ := Aside0.mk ((by rw [hg]; exact Nat.ne_of_gt (blk_lt (g := gb189) (o := .cells #[.int .u64 a1_0, .int .u64 a1_1] 59 (0, 0)) (by (with_reducible repeat (first | refine blk_drewN ?_ _ | refine blk_drew ?_ | refine blk_alloc ?_ _)); exact BK189.out)) : gb190 ≠ gb189)); clear BK188; clear BK189; clear HB; have BK188 := n0_; have BK189 := n1_; have HB := n2_; have BK190 := n3_; have GW190 := n4_; have GE190 := n5_; have NB188_190 := n6_; have NB190_188 := n7_; have NB189_190 := n8_; have NB190_189 := n9_; clear n0_ n1_ n2_ n3_ n4_ n5_ n6_ n7_ n8_ n9_; clear hb hbox hg; have hnb6 := NB188_189.out; have hnc6 := NB189_188.out; have hnb7 := NB188_190.out; have hnc7 := NB190_188.out; have hcz8_0 : w5.cell? ⟨gb188, 0, none⟩ = some (.int .u64 a0_0) := (blk_cell BK188.out 0).trans rfl; have hcz8_1 : w5.cell? ⟨gb188, 1, none⟩ = some (.int .u64 a0_1) := (blk_cell BK188.out 1).trans rfl; have hfz8_0 := blk_frozen BK188.out 0; have hfz8_1 := blk_frozen BK188.out 1; have hnb9 := NB189_190.out; have hnc9 := NB190_189.out; have hcz10_0 : w5.cell? ⟨gb189, 0, none⟩ = some (.int .u64 a1_0) := (blk_cell BK189.out 0).trans rfl; have hcz10_1 : w5.cell? ⟨gb189, 1, none⟩ = some (.int .u64 a1_1) := (blk_cell BK189.out 1).trans rfl; have hfz10_0 := blk_frozen BK189.out 0; have hfz10_1 := blk_frozen BK189.out 1; have hcz11_0 : w5.cell? ⟨gb190, 0, none⟩ = some (.int .u64 0) := (blk_cell BK190.out 0).trans rfl; have hcz11_1 : w5.cell? ⟨gb190, 1, none⟩ = some (.int .u64 0) := (blk_cell BK190.out 1).trans rfl; have hfz11_0 := blk_frozen BK190.out 0; have hfz11_1 := blk_frozen BK190.out 1))
  refine bodyPost_ret (results_cell_row rfl _ _ gb190 59 #[.int .u64 (Go.bits .xor .u64 a0_0 a1_0), .int .u64 (Go.bits .xor .u64 a0_1 a1_1)] (0, 0) _ rfl (by (with_reducible repeat (first | refine blk_drewN ?_ _ | refine blk_drew ?_ | refine blk_alloc ?_ _)); refine blk_put (cs := #[.int .u64 (Go.bits .xor .u64 a0_0 a1_0), .int .u64 0]) ?_ 1 _ rfl; (with_reducible repeat (first | refine blk_drewN ?_ _ | refine blk_drew ?_ | refine blk_alloc ?_ _)); refine blk_put (cs := #[.int .u64 0, .int .u64 0]) ?_ 0 _ rfl; (with_reducible repeat (first | refine blk_drewN ?_ _ | refine blk_drew ?_ | refine blk_alloc ?_ _)); exact BK190.out) Try.underlying59 rfl (by kernel_rfl)) rfl ?_
  exact ⟨by first | rfl | (simp [errW_none, errW_some] <;> rfl) | (simp [*, errW_none, errW_some] <;> rfl), by repeat (first | (with_reducible first | exact HB.out | apply below_alloc | apply pw_below_drewN | apply below_drew1 | refine below_set ?_ GE188.out | refine below_set ?_ GE189.out | refine below_set ?_ GE190.out) | exact HB.out)⟩


end Go.Proofs.Ytiifnofghicnaaa.PAll
