/- Printed by the kit's print.py, called for several laws at once: functions as plain Lean, and the walks' contracts. -/
import Derived.Test.YtmgnffklmdhooaaDoorPAllx0
namespace Go.Proofs.YtmgnffklmdhooaaDoor.PAll
open Go.RowKit Go.Proofs.YtmgnffklmdhooaaDoorW.PrintWords Go.Proofs.YtmgnffklmdhooaaDoorW.PrintLast Go.Proofs.YtmgnffklmdhooaaDoorW.PrintMore
attribute [local go_sem] max2_int min2_int max_two min_two max_three min_three max_four min_four   -- for this text's walks alone
set_option linter.unusedVariables false
set_option linter.unusedSimpArgs false

/-! ### spec_HalfTenTo: function 21 -/
def spec_HalfTenTo.f (a0 : Int) : Option (List Int) := if 0 ≤ a0 then (if (a0 : Int).toNat ≤ 35184372088832 then ((some (List.replicate (a0 : Int).toNat 0 : List Int)).bind fun y161 => (if y161.length < 17592186044416 then (some (y161 ++ [1])) else (none))) else (none)) else (none)
set_option maxHeartbeats 8000000 in
set_option maxRecDepth 100000 in
theorem spec_HalfTenTo.calls (a0 : Int) (r : List Int) (w : World) (h : spec_HalfTenTo.f a0 = some r) :
    Calls Tryd.prog 21 #[.int .i64 a0] w fun e w' => ∃ v0_ : Value, e = .returned (v0_) ∧ Kd.R (Kd.int .i64) 3 w' w.heap.size (fun _ => True) v0_ r ∧ Below w.heap.size w w' := by
  have HB := Aside0.mk (Below.refl w.heap.size w)
  have H : (if 0 ≤ a0 then (if (a0 : Int).toNat ≤ 35184372088832 then ((some (List.replicate (a0 : Int).toNat 0 : List Int)).bind fun y161 => (if y161.length < 17592186044416 then (some (y161 ++ [1])) else (none))) else (none)) else (none)) = some r := h
  clear h
  by_cases c2 : 0 ≤ a0
  · rw [if_pos c2] at H
    have c2b0 := eq_true c2
    have c2b1 : decide (0 ≤ a0) = true := decide_eq_true c2
    clear c2
    by_cases c3 : (a0 : Int).toNat ≤ 35184372088832
    · rw [if_pos c3] at H
      have c3b0 := eq_true c3
      have c3b1 : decide ((a0 : Int).toNat ≤ 35184372088832) = true := decide_eq_true c3
      clear c3
      obtain ⟨y161, hy161⟩ : ∃ y_ : List Int, y_ = (List.replicate (a0 : Int).toNat 0) := ⟨_, rfl⟩
      replace H : (if y161.length < 17592186044416 then (some (y161 ++ [1])) else (none)) = some r := by first | (rw [hy161]; with_reducible exact H) | (have H2_ := (Option.bind_some _ _).symm.trans H; rw [hy161]; with_reducible exact H2_) | (have H2_ := (Option.bind_some _ _).symm.trans H; with_reducible exact H2_) | with_reducible exact H | (rw [hy161]; exact H) | exact H
      have Ny161 := Aside0.mk hy161
      clear hy161
      by_cases c4 : y161.length < 17592186044416
      · rw [if_pos c4] at H
        have LMc4 := Aside0.mk c4
        clear c4
        obtain ⟨y164, hy164⟩ : ∃ y_ : List Int, y_ = (y161 ++ [1]) := ⟨_, rfl⟩
        replace H : (some y164) = some r := by first | (rw [hy164]; with_reducible exact H) | (have H2_ := (Option.bind_some _ _).symm.trans H; rw [hy164]; with_reducible exact H2_) | (have H2_ := (Option.bind_some _ _).symm.trans H; with_reducible exact H2_) | with_reducible exact H | (rw [hy164]; exact H) | exact H
        have Ny164 := Aside0.mk hy164
        clear hy164
        obtain rfl := Option.some.inj H
        go_enter Tryd.func21, Tryd.ntmps21
        go_wp2_with (first | ((with_reducible refine gate_dst (N := 4) rfl ?_); refine Kd.R_make (Kd.int .i64) _ 3 rfl (N := 4) rfl 29 _ _ rfl a0 rfl rfl Tryd.underlying29 (.int .i64 0) 8 info3 rfl (by decide) (by omega) 0 (ok := fun _ => True) (okp := fun _ => True) rfl (fun _ hk => hk) trivial (of_decide_eq_true (by first | (with_reducible assumption) | assumption)) (Nat.le_trans (Nat.mul_le_mul_right _ (of_decide_eq_true (by first | (with_reducible assumption) | assumption) : a0.toNat ≤ 35184372088832)) (by omega)) (Below.refl _ _) (Nat.le_refl _) ?_; intro v162 w5 ho6 hb hg_ hnew_; clear hg_ hnew_; (first | rw [← Ny161.out] at ho6 | (simp only [Int.reduceToNat] at ho6; rw [← Ny161.out] at ho6)); have n0_ := Aside0.mk (Kd.R_lower ho6 (below_size (by repeat (first | (with_reducible first | exact HB.out | apply below_alloc | apply pw_below_drewN | apply below_drew1) | exact HB.out)))); have n1_ := Aside0.mk (below_step (by repeat (first | (with_reducible first | exact HB.out | apply below_alloc | apply pw_below_drewN | apply below_drew1) | exact HB.out)) hb); clear HB; have HO163 := n0_; have HB := n1_; clear n0_ n1_; clear hb ho6) | ((with_reducible refine gate_builtin (b := .append) (xs := #[.tmp 4, .tmp 5]) rfl ?_); at_builtin; refine Kd.R_append (Kd.int .i64) (w0 := w) w.heap.size rfl (.tmp 4) (.tmp 5) 29 3 (.int .i64 0) 8 rfl Tryd.underlying29 info3 rfl (by decide) (by omega) v162 y161 1 [.int .i64 1] (fun _ => True) (fun _ => False) rfl rfl ?aP (fun _ hk => hk.elim) ?aF ?aO ?aB ?aS ?aL ?_; (case aP => exact rfl); (case aB => exact (by repeat (first | (with_reducible first | exact HB.out | apply below_alloc | apply pw_below_drewN | apply below_drew1) | exact HB.out))); (case aF => exact (fun _ _ => trivial)); (case aO => exact (by (with_reducible repeat (first | apply Kd.R_alloc | apply Kd.R_drewN | apply Kd.R_drew)); exact HO163.out)); (case aS => exact (below_size (by repeat (first | (with_reducible first | exact HB.out | apply below_alloc | apply pw_below_drewN | apply below_drew1) | exact HB.out)))); (case aL => have := LMc4.out; omega); intro v165 w7 ho hb hg hat; rw [← Ny164.out] at ho; have n0_ := Aside0.mk (hb); have n1_ := Aside0.mk (ho); clear HB; clear HO163; have HB := n0_; have HO166 := n1_; clear n0_ n1_; clear ho hb hg hat))
        go_ret
        exact ⟨_, by first | rfl | (simp [errW_none, errW_some] <;> rfl) | (simp [*, errW_none, errW_some] <;> rfl), by (with_reducible repeat (first | apply Kd.R_alloc | apply Kd.R_drewN | apply Kd.R_drew)); exact HO166.out, by repeat (first | (with_reducible first | exact HB.out | apply below_alloc | apply pw_below_drewN | apply below_drew1) | exact HB.out)⟩
      · rw [if_neg c4] at H
        exact absurd H (by simp)
    · rw [if_neg c3] at H
      exact absurd H (by simp)
  · rw [if_neg c2] at H
    exact absurd H (by simp)


/-! ### float16_Frombits: function 11 -/
def float16_Frombits.f (a0 : Int) : Option (Int) := some a0
set_option maxHeartbeats 8000000 in
set_option maxRecDepth 100000 in
theorem float16_Frombits.calls (a0 : Int) (r : Int) (w : World) (h : float16_Frombits.f a0 = some r) :
    Calls Tryd.prog 11 #[.int .u16 a0] w fun e w' => e = .returned (.int .u16 r) ∧ Drawn0 w w' := by
  have H : (some a0) = some r := h
  clear h
  obtain rfl := Option.some.inj H
  go_enter Tryd.func11, Tryd.ntmps11
  go_wp2
  go_ret
  exact ⟨by first | rfl | (simp; done) | (simp [*]; done), by repeat (first | exact Drawn0.refl _ | apply Drawn0.step)⟩


/-! ### math_Float32bits: function 13 -/
theorem drawn_trans {w w1 w2 : World} (h : Drawn0 w w1) (h' : Drawn0 w1 w2) : Drawn0 w w2 := by
  obtain ⟨n, rfl⟩ := h'.out
  exact h.step n
theorem run_f32bits (n : Nat) (w : World) : (callFunc 13 #[.float .f32 n]).run Tryd.prog w = .ok (.value (.int .u32 (n : Int))) w := by kernel_rfl
theorem run_f32from (n : Int) (w : World) : (callFunc 25 #[.int .u32 n]).run Tryd.prog w = .ok (.value (.float .f32 n.toNat)) w := by kernel_rfl

/-! ### float16_f16bitsToF32bits: function 24 -/
def float16_f16bitsToF32bits.l0 : Nat → Int → Int → Int → Option (Int)
  | 0, _, _, _ => none
  | k + 1, x3, x4, x5 => if (Go.bits .and .u32 x5 2139095040) = 0 then (float16_f16bitsToF32bits.l0 k x3 ((x4 - 1) % 4294967296) ((x5 * 2) % 4294967296)) else (some (Go.bits .or .u32 (Go.bits .or .u32 x3 ((((x4 + 112) % 4294967296) * 8388608) % 4294967296)) (Go.bits .and .u32 x5 8388607)))
def float16_f16bitsToF32bits.f (k : Nat) (a0 : Int) : Option (Int) := if (((Go.bits .and .u16 a0 31744) % 4294967296) / 1024) = 31 then (if ((((Go.bits .and .u16 a0 1023) % 4294967296) * 8192) % 4294967296) = 0 then (some (Go.bits .or .u32 (Go.bits .or .u32 ((((Go.bits .and .u16 a0 32768) % 4294967296) * 65536) % 4294967296) 2139095040) ((((Go.bits .and .u16 a0 1023) % 4294967296) * 8192) % 4294967296))) else (some (Go.bits .or .u32 (Go.bits .or .u32 ((((Go.bits .and .u16 a0 32768) % 4294967296) * 65536) % 4294967296) 2143289344) ((((Go.bits .and .u16 a0 1023) % 4294967296) * 8192) % 4294967296)))) else (if (((Go.bits .and .u16 a0 31744) % 4294967296) / 1024) = 0 then (if ((((Go.bits .and .u16 a0 1023) % 4294967296) * 8192) % 4294967296) = 0 then (some ((((Go.bits .and .u16 a0 32768) % 4294967296) * 65536) % 4294967296)) else (float16_f16bitsToF32bits.l0 k ((((Go.bits .and .u16 a0 32768) % 4294967296) * 65536) % 4294967296) ((((Go.bits .and .u16 a0 31744) % 4294967296) / 1024) + 1) ((((Go.bits .and .u16 a0 1023) % 4294967296) * 8192) % 4294967296))) else (some (Go.bits .or .u32 (Go.bits .or .u32 ((((Go.bits .and .u16 a0 32768) % 4294967296) * 65536) % 4294967296) ((((((Go.bits .and .u16 a0 31744) % 4294967296) / 1024) + 112) * 8388608) % 4294967296)) ((((Go.bits .and .u16 a0 1023) % 4294967296) * 8192) % 4294967296))))
theorem float16_f16bitsToF32bits.mono_l : ∀ k, (∀ y0 y1 y2, LeO (float16_f16bitsToF32bits.l0 k y0 y1 y2) (float16_f16bitsToF32bits.l0 (k + 1) y0 y1 y2))
  | 0 => fun _ _ _ r h => by simp [float16_f16bitsToF32bits.l0] at h
  | k + 1 => by
    have ih0 := float16_f16bitsToF32bits.mono_l k
    · intro y0 y1 y2
      unfold float16_f16bitsToF32bits.l0
      repeat' first
      | (with_reducible exact ih0 _ _ _)
      | (with_reducible exact LeO.refl _)
      | (with_reducible exact LeO.none _)
      | (with_reducible refine LeO.ite ?_ ?_)
      | (with_reducible refine LeO.bind ?_ (fun _ => ?_))
      | exact ih0 _ _ _
      | exact LeO.none _
      | refine LeO.ite ?_ ?_
      | refine LeO.bind ?_ (fun _ => ?_)
theorem float16_f16bitsToF32bits.mono : ∀ a0 k, LeO (float16_f16bitsToF32bits.f k a0) (float16_f16bitsToF32bits.f (k + 1) a0) := by
  intro a0 k
  have ih0 := float16_f16bitsToF32bits.mono_l k
  unfold float16_f16bitsToF32bits.f
  repeat' first
      | (with_reducible exact ih0 _ _ _)
      | (with_reducible exact LeO.refl _)
      | (with_reducible exact LeO.none _)
      | (with_reducible refine LeO.ite ?_ ?_)
      | (with_reducible refine LeO.bind ?_ (fun _ => ?_))
      | exact ih0 _ _ _
      | exact LeO.none _
      | refine LeO.ite ?_ ?_
      | refine LeO.bind ?_ (fun _ => ?_)
set_option maxHeartbeats 8000000 in
set_option maxRecDepth 100000 in
theorem float16_f16bitsToF32bits.calls (k : Nat) (a0 : Int) (r : Int) (w : World) (h : float16_f16bitsToF32bits.f k a0 = some r) :
    Calls Tryd.prog 24 #[.int .u16 a0] w fun e w' => e = .returned (.int .u32 r) ∧ Drawn0 w w' := by
  have H : (if (((Go.bits .and .u16 a0 31744) % 4294967296) / 1024) = 31 then (if ((((Go.bits .and .u16 a0 1023) % 4294967296) * 8192) % 4294967296) = 0 then (some (Go.bits .or .u32 (Go.bits .or .u32 ((((Go.bits .and .u16 a0 32768) % 4294967296) * 65536) % 4294967296) 2139095040) ((((Go.bits .and .u16 a0 1023) % 4294967296) * 8192) % 4294967296))) else (some (Go.bits .or .u32 (Go.bits .or .u32 ((((Go.bits .and .u16 a0 32768) % 4294967296) * 65536) % 4294967296) 2143289344) ((((Go.bits .and .u16 a0 1023) % 4294967296) * 8192) % 4294967296)))) else (if (((Go.bits .and .u16 a0 31744) % 4294967296) / 1024) = 0 then (if ((((Go.bits .and .u16 a0 1023) % 4294967296) * 8192) % 4294967296) = 0 then (some ((((Go.bits .and .u16 a0 32768) % 4294967296) * 65536) % 4294967296)) else (float16_f16bitsToF32bits.l0 k ((((Go.bits .and .u16 a0 32768) % 4294967296) * 65536) % 4294967296) ((((Go.bits .and .u16 a0 31744) % 4294967296) / 1024) + 1) ((((Go.bits .and .u16 a0 1023) % 4294967296) * 8192) % 4294967296))) else (some (Go.bits .or .u32 (Go.bits .or .u32 ((((Go.bits .and .u16 a0 32768) % 4294967296) * 65536) % 4294967296) ((((((Go.bits .and .u16 a0 31744) % 4294967296) / 1024) + 112) * 8388608) % 4294967296)) ((((Go.bits .and .u16 a0 1023) % 4294967296) * 8192) % 4294967296))))) = some r := h
  clear h
  by_cases c2 : (((Go.bits .and .u16 a0 31744) % 4294967296) / 1024) = 31
  · rw [if_pos c2] at H
    have c2b0 : ((((Go.bits .and .u16 a0 31744) % 4294967296) / 1024) == 31) = true := beq_iff_eq.mpr c2
    have c2b1 : ((((Go.bits .and .u16 a0 31744) % 4294967296) / 1024) != 31) = false := bne_eq_false_iff_eq.mpr c2
    clear c2
    by_cases c3 : ((((Go.bits .and .u16 a0 1023) % 4294967296) * 8192) % 4294967296) = 0
    · rw [if_pos c3] at H
      have c3b0 : (((((Go.bits .and .u16 a0 1023) % 4294967296) * 8192) % 4294967296) == 0) = true := beq_iff_eq.mpr c3
      have c3b1 : (((((Go.bits .and .u16 a0 1023) % 4294967296) * 8192) % 4294967296) != 0) = false := bne_eq_false_iff_eq.mpr c3
      clear c3
      obtain rfl := Option.some.inj H
      go_enter Tryd.func24, Tryd.ntmps24
      go_wp2
      go_ret
      exact ⟨by first | rfl | (simp; done) | (simp [*]; done), by repeat (first | exact Drawn0.refl _ | apply Drawn0.step)⟩
    · rw [if_neg c3] at H
      have c3b0 : (((((Go.bits .and .u16 a0 1023) % 4294967296) * 8192) % 4294967296) == 0) = false := beq_eq_false_iff_ne.mpr c3
      have c3b1 : (((((Go.bits .and .u16 a0 1023) % 4294967296) * 8192) % 4294967296) != 0) = true := bne_iff_ne.mpr c3
      obtain rfl := Option.some.inj H
      go_enter Tryd.func24, Tryd.ntmps24
      go_wp2
      go_ret
      exact ⟨by first | rfl | (simp; done) | (simp [*]; done), by repeat (first | exact Drawn0.refl _ | apply Drawn0.step)⟩
  · rw [if_neg c2] at H
    have c2b0 : ((((Go.bits .and .u16 a0 31744) % 4294967296) / 1024) == 31) = false := beq_eq_false_iff_ne.mpr c2
    have c2b1 : ((((Go.bits .and .u16 a0 31744) % 4294967296) / 1024) != 31) = true := bne_iff_ne.mpr c2
    by_cases c4 : (((Go.bits .and .u16 a0 31744) % 4294967296) / 1024) = 0
    · rw [if_pos c4] at H
      have c4b0 : ((((Go.bits .and .u16 a0 31744) % 4294967296) / 1024) == 0) = true := beq_iff_eq.mpr c4
      have c4b1 : ((((Go.bits .and .u16 a0 31744) % 4294967296) / 1024) != 0) = false := bne_eq_false_iff_eq.mpr c4
      clear c4
      by_cases c5 : ((((Go.bits .and .u16 a0 1023) % 4294967296) * 8192) % 4294967296) = 0
      · rw [if_pos c5] at H
        have c5b0 : (((((Go.bits .and .u16 a0 1023) % 4294967296) * 8192) % 4294967296) == 0) = true := beq_iff_eq.mpr c5
        have c5b1 : (((((Go.bits .and .u16 a0 1023) % 4294967296) * 8192) % 4294967296) != 0) = false := bne_eq_false_iff_eq.mpr c5
        clear c5
        obtain rfl := Option.some.inj H
        go_enter Tryd.func24, Tryd.ntmps24
        go_wp2
        go_ret
        exact ⟨by first | rfl | (simp; done) | (simp [*]; done), by repeat (first | exact Drawn0.refl _ | apply Drawn0.step)⟩
      · rw [if_neg c5] at H
        have c5b0 : (((((Go.bits .and .u16 a0 1023) % 4294967296) * 8192) % 4294967296) == 0) = false := beq_eq_false_iff_ne.mpr c5
        have c5b1 : (((((Go.bits .and .u16 a0 1023) % 4294967296) * 8192) % 4294967296) != 0) = true := bne_iff_ne.mpr c5
        have H' := Aside0.mk H
        clear H
        go_enter Tryd.func24, Tryd.ntmps24
        go_wp2
        go_loopg [4, 5] k (fun kq v4 v5 w' => ∃ (x4_1 : Int) (x5_1 : Int), v4 = .int .u32 x4_1 ∧ v5 = .int .u32 x5_1 ∧ Aside0 (float16_f16bitsToF32bits.l0 kq ((((Go.bits .and .u16 a0 32768) % 4294967296) * 65536) % 4294967296) x4_1 x5_1 = some r) ∧ Aside0 (kq ≤ k) ∧ Drawn0 w w')
        case atStart => exact ⟨((((Go.bits .and .u16 a0 31744) % 4294967296) / 1024) + 1), ((((Go.bits .and .u16 a0 1023) % 4294967296) * 8192) % 4294967296), (by first | rfl | (simp; done) | (simp [*]; done)), (by first | rfl | (simp; done) | (simp [*]; done)), H', ⟨Nat.le_refl _⟩, by repeat (first | exact Drawn0.refl _ | apply Drawn0.step)⟩
        case round =>
          clear H'
          try clear c2
          try clear c2b0
          try clear c2b1
          try clear p2
          try clear c3
          try clear c3b0
          try clear c3b1
          try clear c4
          try clear c4b0
          try clear c4b1
          try clear c5
          try clear c5b0
          try clear c5b1
          obtain ⟨x4_1, x5_1, rfl, rfl, HA, HK1, ⟨m1, rfl⟩⟩ := hrel
          cases gk with
          | zero => exact absurd HA.out (by simp [float16_f16bitsToF32bits.l0])
          | succ k1 =>
            have H := HA.out
            clear HA
            simp only [float16_f16bitsToF32bits.l0] at H
            by_cases c6 : (Go.bits .and .u32 x5_1 2139095040) = 0
            · rw [if_pos c6] at H
              have c6b0 : ((Go.bits .and .u32 x5_1 2139095040) == 0) = true := beq_iff_eq.mpr c6
              have c6b1 : ((Go.bits .and .u32 x5_1 2139095040) != 0) = false := bne_eq_false_iff_eq.mpr c6
              clear c6
              have H' := Aside0.mk H
              clear H
              go_wp2
              go_roundg k1
              case measure => have := HK1.out; omega
              case rel => exact ⟨((x4_1 - 1) % 4294967296), ((x5_1 * 2) % 4294967296), (by first | rfl | (simp; done) | (simp [*]; done)), (by first | rfl | (simp; done) | (simp [*]; done)), H', ⟨by have := HK1.out; omega⟩, by repeat (first | exact Drawn0.refl _ | apply Drawn0.step)⟩
            · rw [if_neg c6] at H
              have c6b0 : ((Go.bits .and .u32 x5_1 2139095040) == 0) = false := beq_eq_false_iff_ne.mpr c6
              have c6b1 : ((Go.bits .and .u32 x5_1 2139095040) != 0) = true := bne_iff_ne.mpr c6
              obtain rfl := Option.some.inj H
              go_wp2
              go_ret
              exact ⟨by first | rfl | (simp; done) | (simp [*]; done), by repeat (first | exact Drawn0.refl _ | apply Drawn0.step)⟩
    · rw [if_neg c4] at H
      have c4b0 : ((((Go.bits .and .u16 a0 31744) % 4294967296) / 1024) == 0) = false := beq_eq_false_iff_ne.mpr c4
      have c4b1 : ((((Go.bits .and .u16 a0 31744) % 4294967296) / 1024) != 0) = true := bne_iff_ne.mpr c4
      obtain rfl := Option.some.inj H
      go_enter Tryd.func24, Tryd.ntmps24
      go_wp2
      go_ret
      exact ⟨by first | rfl | (simp; done) | (simp [*]; done), by repeat (first | exact Drawn0.refl _ | apply Drawn0.step)⟩


-- NOT PRINTED: function 25 (math_Float32frombits)

-- NOT PRINTED: function 14 (float16_Float16_Float32)

/-! ### impl_HalfTo: function 6 -/
set_option maxHeartbeats 1000000 in
set_option maxRecDepth 100000 in
theorem float16_Float32.calls (k : Nat) (a0 : Int) (r : Int) (w : World) (h : float16_f16bitsToF32bits.f k a0 = some r) :
    Calls Tryd.prog 14 #[.int .u16 a0] w fun e w' => e = .returned (.float .f32 r.toNat) ∧ Drawn0 w w' := by
  have HH := Lib.hid h
  clear h
  have run := run_f32from
  go_enter Tryd.func14, Tryd.ntmps14
  go_wp2_with fail
  refine (float16_f16bitsToF32bits.calls k a0 r w HH).mono ?_
  rintro e w1 ⟨rfl, hb⟩
  go_wp2
  go_ret
  exact ⟨rfl, hb⟩
def impl_HalfTo.f (k : Nat) (a0 : Int) : Option Int := (float16_f16bitsToF32bits.f k a0).bind fun r => if 0 ≤ r then some r else none
theorem impl_HalfTo.mono : ∀ a0 k, LeO (impl_HalfTo.f k a0) (impl_HalfTo.f (k + 1) a0) := by
  intro a0 k
  unfold impl_HalfTo.f
  exact LeO.bind (float16_f16bitsToF32bits.mono a0 k) (fun _ => LeO.refl _)
set_option maxHeartbeats 1000000 in
set_option maxRecDepth 100000 in
theorem impl_HalfTo.calls (k : Nat) (a0 : Int) (r : Int) (w : World) (h : impl_HalfTo.f k a0 = some r) :
    Calls Tryd.prog 6 #[.int .u16 a0] w fun e w' => e = .returned (.int .u32 r) ∧ Drawn0 w w' := by
  unfold impl_HalfTo.f at h
  obtain ⟨s, h1, h2⟩ := Option.bind_eq_some_iff.mp h
  split at h2
  case isFalse => cases h2
  rename_i h0
  obtain rfl := Option.some.inj h2
  obtain ⟨n, rfl⟩ := Int.eq_ofNat_of_zero_le h0
  have HH := Lib.hid h1
  clear h h1 h2
  have run := run_f32bits
  go_enter Tryd.func6, Tryd.ntmps6
  go_wp2_with fail
  refine (float16_Frombits.calls a0 a0 w rfl).mono ?_
  rintro e w1 ⟨rfl, hb1⟩
  go_wp2_with fail
  refine (float16_Float32.calls k a0 n w1 HH).mono ?_
  rintro e w2 ⟨rfl, hb2⟩
  go_wp2
  go_ret
  exact ⟨by simp, drawn_trans hb1 hb2⟩

/-! ### bits_Mul64: function 67 -/
def bits_Mul64.f (a0 : Int) (a1 : Int) : Option (Int × Int) := some (IntKind.u64.wrap ((IntKind.u64.wrap ((IntKind.u64.wrap ((a0 / 4294967296) * (a1 / 4294967296))) + ((IntKind.u64.wrap ((IntKind.u64.wrap ((a0 / 4294967296) * (Go.bits .and .u64 a1 4294967295))) + ((IntKind.u64.wrap ((Go.bits .and .u64 a0 4294967295) * (Go.bits .and .u64 a1 4294967295))) / 4294967296))) / 4294967296))) + ((IntKind.u64.wrap ((Go.bits .and .u64 (IntKind.u64.wrap ((IntKind.u64.wrap ((a0 / 4294967296) * (Go.bits .and .u64 a1 4294967295))) + ((IntKind.u64.wrap ((Go.bits .and .u64 a0 4294967295) * (Go.bits .and .u64 a1 4294967295))) / 4294967296))) 4294967295) + (IntKind.u64.wrap ((Go.bits .and .u64 a0 4294967295) * (a1 / 4294967296))))) / 4294967296)), IntKind.u64.wrap (a0 * a1))
set_option maxHeartbeats 8000000 in
set_option maxRecDepth 100000 in
theorem bits_Mul64.calls (a0 : Int) (a1 : Int) (r1 : Int) (r2 : Int) (w : World) (h : bits_Mul64.f a0 a1 = some (r1, r2)) :
    Calls Tryd.prog 67 #[.int .u64 a0, .int .u64 a1] w fun e w' => e = .returned (.tuple #[.int .u64 r1, .int .u64 r2]) ∧ Drawn0 w w' := by
  have H : (some (IntKind.u64.wrap ((IntKind.u64.wrap ((IntKind.u64.wrap ((a0 / 4294967296) * (a1 / 4294967296))) + ((IntKind.u64.wrap ((IntKind.u64.wrap ((a0 / 4294967296) * (Go.bits .and .u64 a1 4294967295))) + ((IntKind.u64.wrap ((Go.bits .and .u64 a0 4294967295) * (Go.bits .and .u64 a1 4294967295))) / 4294967296))) / 4294967296))) + ((IntKind.u64.wrap ((Go.bits .and .u64 (IntKind.u64.wrap ((IntKind.u64.wrap ((a0 / 4294967296) * (Go.bits .and .u64 a1 4294967295))) + ((IntKind.u64.wrap ((Go.bits .and .u64 a0 4294967295) * (Go.bits .and .u64 a1 4294967295))) / 4294967296))) 4294967295) + (IntKind.u64.wrap ((Go.bits .and .u64 a0 4294967295) * (a1 / 4294967296))))) / 4294967296)), IntKind.u64.wrap (a0 * a1))) = some (r1, r2) := h
  clear h
  simp only [Option.some.injEq, Prod.mk.injEq] at H
  obtain ⟨rfl, rfl⟩ := H
  go_enter Tryd.func67, Tryd.ntmps67
  go_wp2
  go_ret2
  exact ⟨by first | rfl | (simp; done) | (simp [*]; done), by repeat (first | exact Drawn0.refl _ | apply Drawn0.step)⟩

def mHi (x y : Nat) : Nat := x * y / 18446744073709551616
def mLo (x y : Nat) : Nat := x * y % 18446744073709551616
theorem mul64_law (x y : Nat) (hx : x < 18446744073709551616) (hy : y < 18446744073709551616) : bits_Mul64.f (x : Int) (y : Int) = some ((mHi x y : Int), (mLo x y : Int)) := by
  unfold bits_Mul64.f mHi mLo
  simp only [IntKind.wrap_u64, and_low32 (x : Int) (by omega) (by omega), and_low32 (y : Int) (by omega) (by omega)]
  rw [and_low32 _ (by omega) (by omega), mul64_arith (x : Int) (y : Int) (by omega) (by omega) (by omega) (by omega)]
  rfl
theorem mHi_lt {x y : Nat} (hx : x < 18446744073709551616) (hy : y < 18446744073709551616) : mHi x y < 18446744073709551616 := by
  unfold mHi
  apply Nat.div_lt_of_lt_mul
  exact Nat.mul_lt_mul'' hx hy
theorem mLo_lt {x y : Nat} : mLo x y < 18446744073709551616 := Nat.mod_lt _ (by decide)

/-! ### strconv_bool2_uint64: function 68 -/
def strconv_bool2_uint64.f (a0 : Bool) : Option (Int) := if a0 = true then (some 1) else (some 0)
set_option maxHeartbeats 8000000 in
set_option maxRecDepth 100000 in
theorem strconv_bool2_uint64.calls (a0 : Bool) (r : Int) (w : World) (h : strconv_bool2_uint64.f a0 = some r) :
    Calls Tryd.prog 68 #[.bool a0] w fun e w' => e = .returned (.int .u64 r) ∧ Drawn0 w w' := by
  have H : (if a0 = true then (some 1) else (some 0)) = some r := h
  clear h
  by_cases c2 : a0 = true
  · subst c2
    have H1 : (some 1) = some r := by rw [if_pos rfl] at H; exact H
    clear H
    have H := H1
    clear H1
    obtain rfl := Option.some.inj H
    go_enter Tryd.func68, Tryd.ntmps68
    go_wp2
    go_ret
    exact ⟨by first | rfl | (simp; done) | (simp [*]; done), by repeat (first | exact Drawn0.refl _ | apply Drawn0.step)⟩
  · replace c2 := Bool.eq_false_iff.mpr c2
    subst c2
    have H1 : (some 0) = some r := by rw [if_neg (show ¬ (false = true) by decide)] at H; exact H
    clear H
    have H := H1
    clear H1
    obtain rfl := Option.some.inj H
    go_enter Tryd.func68, Tryd.ntmps68
    go_wp2
    go_ret
    exact ⟨by first | rfl | (simp; done) | (simp [*]; done), by repeat (first | exact Drawn0.refl _ | apply Drawn0.step)⟩


/-- A state of type 78 at block g of W; what its slices lead to came in by w0. -/
def IsS78 (w0 W : World) (g : Nat) (f0 : Int) (f1 : Int) (f2 : Int) : Prop := W.heap[g]? = some (.cells #[.int .u64 f0, .int .u64 f1, .int .i64 f2] 78 (0, 0)) ∧ w0.heap.size ≤ g
theorem IsS78.grown {w0 W : World} {g : Nat} {f0 : Int} {f1 : Int} {f2 : Int} {W1 : World} {row : Option Nat} (h : IsS78 w0 W g f0 f1 f2) (hw : W.grownBy W1 row) (hne : some g ≠ row) : IsS78 w0 W1 g f0 f1 f2 := by
  obtain ⟨hb, hg⟩ := h
  exact ⟨blk_grown hb hw hne, hg⟩
theorem IsS78.kept {w0 W : World} {g : Nat} {f0 : Int} {f1 : Int} {f2 : Int} {W1 : World} {S : Nat → Prop} (h : IsS78 w0 W g f0 f1 f2) (hk : Kept W W1 S) (hne : ¬ S g) : IsS78 w0 W1 g f0 f1 f2 := by
  obtain ⟨hb, hg⟩ := h
  exact ⟨blk_kept hb hk hne, hg⟩
theorem IsS78.below {w0 W : World} {g : Nat} {f0 : Int} {f1 : Int} {f2 : Int} {W1 : World} (h : IsS78 w0 W g f0 f1 f2) (hw : Below W.heap.size W W1) : IsS78 w0 W1 g f0 f1 f2 := h.grown (grown_of_below hw none) (by simp)
theorem IsS78.alloc {w0 W : World} {g : Nat} {f0 : Int} {f1 : Int} {f2 : Int} (h : IsS78 w0 W g f0 f1 f2) (o : Obj) : IsS78 w0 (W.alloc o) g f0 f1 f2 := h.below (below_alloc (Below.refl _ _) o)
theorem IsS78.drewN {w0 W : World} {g : Nat} {f0 : Int} {f1 : Int} {f2 : Int} (h : IsS78 w0 W g f0 f1 f2) (m : Nat) : IsS78 w0 (W.drewN m) g f0 f1 f2 := h
theorem IsS78.drew {w0 W : World} {g : Nat} {f0 : Int} {f1 : Int} {f2 : Int} (h : IsS78 w0 W g f0 f1 f2) : IsS78 w0 W.drew g f0 f1 f2 := h
theorem IsS78.at_ {w0 W : World} {g : Nat} {f0 : Int} {f1 : Int} {f2 : Int} {w' : World} {m : Nat} (hq : W.drewN m = w') (h : IsS78 w0 W g f0 f1 f2) : IsS78 w0 w' g f0 f1 f2 := by subst hq; exact IsS78.drewN h m
theorem IsS78.apart {w0 W : World} {g : Nat} {f0 : Int} {f1 : Int} {f2 : Int} {α : Type} {d : Kd α} {e : Nat} {base : Nat} {ok : Nat → Prop} {v : Value} {xs : List α} (h : IsS78 w0 W g f0 f1 f2) (ho : d.R e W base ok v xs) (ht : ∀ q, q ∈ e :: d.E → q ≠ 78) : d.R e W base (fun k => ok k ∧ k ≠ g) v xs := by
  obtain ⟨hb, hg⟩ := h
  exact Kd.R_types ho hb ht
theorem IsS78.own_ne {w0 W : World} {g : Nat} {f0 : Int} {f1 : Int} {f2 : Int} {α : Type} {d : Kd α} {e : Nat} {base : Nat} {ok : Nat → Prop} {v : Value} {xs : List α} (h : IsS78 w0 W g f0 f1 f2) (ho : d.R e W base ok v xs) (ht : e ≠ 78) : some g ≠ v.ownBlock := by
  obtain ⟨hb, hg⟩ := h
  exact Kd.R_ne ho hb ht
theorem IsS78.lt {w0 W : World} {g : Nat} {f0 : Int} {f1 : Int} {f2 : Int} (h : IsS78 w0 W g f0 f1 f2) : g < W.heap.size := by
  obtain ⟨hb, hg⟩ := h
  exact blk_lt hb
theorem IsS78.ge {w0 W : World} {g : Nat} {f0 : Int} {f1 : Int} {f2 : Int} (h : IsS78 w0 W g f0 f1 f2) : w0.heap.size ≤ g := by
  obtain ⟨hb, hg⟩ := h
  exact hg
theorem cellS78_0 {W : World} {g : Nat} {f0 : Int} {f1 : Int} {f2 : Int} (h : W.heap[g]? = some (.cells #[.int .u64 f0, .int .u64 f1, .int .i64 f2] 78 (0, 0))) : W.cell? ⟨g, 0, none⟩ = some (.int .u64 f0) := (blk_cell h 0).trans rfl
theorem IsS78.set_0 {w0 W : World} {g : Nat} {f0 : Int} {f1 : Int} {f2 : Int} (h : IsS78 w0 W g f0 f1 f2) (x : Int) : IsS78 w0 (W.setCell ⟨g, 0, none⟩ (.int .u64 x)) g x f1 f2 := by
  obtain ⟨hb, hg⟩ := h
  exact ⟨by simpa using blk_set hb 0 (.int .u64 x), hg⟩
theorem cellS78_1 {W : World} {g : Nat} {f0 : Int} {f1 : Int} {f2 : Int} (h : W.heap[g]? = some (.cells #[.int .u64 f0, .int .u64 f1, .int .i64 f2] 78 (0, 0))) : W.cell? ⟨g, 1, none⟩ = some (.int .u64 f1) := (blk_cell h 1).trans rfl
theorem IsS78.set_1 {w0 W : World} {g : Nat} {f0 : Int} {f1 : Int} {f2 : Int} (h : IsS78 w0 W g f0 f1 f2) (x : Int) : IsS78 w0 (W.setCell ⟨g, 1, none⟩ (.int .u64 x)) g f0 x f2 := by
  obtain ⟨hb, hg⟩ := h
  exact ⟨by simpa using blk_set hb 1 (.int .u64 x), hg⟩
theorem cellS78_2 {W : World} {g : Nat} {f0 : Int} {f1 : Int} {f2 : Int} (h : W.heap[g]? = some (.cells #[.int .u64 f0, .int .u64 f1, .int .i64 f2] 78 (0, 0))) : W.cell? ⟨g, 2, none⟩ = some (.int .i64 f2) := (blk_cell h 2).trans rfl
theorem IsS78.set_2 {w0 W : World} {g : Nat} {f0 : Int} {f1 : Int} {f2 : Int} (h : IsS78 w0 W g f0 f1 f2) (x : Int) : IsS78 w0 (W.setCell ⟨g, 2, none⟩ (.int .i64 x)) g f0 f1 x := by
  obtain ⟨hb, hg⟩ := h
  exact ⟨by simpa using blk_set hb 2 (.int .i64 x), hg⟩
/-! ### strconv_uscale: function 50 -/
def strconv_uscale.f (a0 : Int) (s1_0 : Int) (s1_1 : Int) (s1_2 : Int) : Option (Int × Int × Int × Int) := (bits_Mul64.f a0 s1_0).bind fun bt167 => (if 0 ≤ (Go.bits .and .i64 s1_2 63) then (if (shl .u64 (shr .u64 bt167.1 (Go.bits .and .i64 s1_2 63)) (Go.bits .and .i64 s1_2 63)) = bt167.1 then ((bits_Mul64.f a0 s1_1).bind fun bt169 => ((strconv_bool2_uint64.f (decide (bt167.2 < bt169.1))).bind fun t171 => ((strconv_bool2_uint64.f (decide ((IntKind.u64.wrap (bt167.2 - bt169.1)) > 1))).bind fun t172 => (some (Go.bits .or .u64 (shr .u64 (IntKind.u64.wrap (bt167.1 - t171)) (Go.bits .and .i64 s1_2 63)) t172, s1_0, s1_1, s1_2))))) else (some (Go.bits .or .u64 (shr .u64 bt167.1 (Go.bits .and .i64 s1_2 63)) 1, s1_0, s1_1, s1_2))) else (none))
set_option maxHeartbeats 8000000 in
set_option maxRecDepth 100000 in
theorem strconv_uscale.calls (a0 : Int) (g : Nat) (s1_0 : Int) (s1_1 : Int) (s1_2 : Int) (r1 : Int) (r2 : Int) (r3 : Int) (r4 : Int) (w0 w : World) (hI : IsS78 w0 w g s1_0 s1_1 s1_2) (hB : Below w0.heap.size w0 w) (h : strconv_uscale.f a0 s1_0 s1_1 s1_2 = some (r1, r2, r3, r4)) :
    Calls Tryd.prog 50 #[.int .u64 a0, .pointer (some ⟨g, 0, none⟩)] w fun e w' => e = .returned (.int .u64 r1) ∧ IsS78 w0 w' g r2 r3 r4 ∧ Below w0.heap.size w0 w' ∧ KeepBut w w' g none := by
  have HI1 := Aside0.mk hI
  have HK := Aside0.mk (KeepBut.refl w g none)
  have HL := Aside0.mk hB.size
  clear hI
  have HW0 := Aside0.mk hB.size
  have HB := Aside0.mk hB
  clear hB
  have H : ((bits_Mul64.f a0 s1_0).bind fun bt167 => (if 0 ≤ (Go.bits .and .i64 s1_2 63) then (if (shl .u64 (shr .u64 bt167.1 (Go.bits .and .i64 s1_2 63)) (Go.bits .and .i64 s1_2 63)) = bt167.1 then ((bits_Mul64.f a0 s1_1).bind fun bt169 => ((strconv_bool2_uint64.f (decide (bt167.2 < bt169.1))).bind fun t171 => ((strconv_bool2_uint64.f (decide ((IntKind.u64.wrap (bt167.2 - bt169.1)) > 1))).bind fun t172 => (some (Go.bits .or .u64 (shr .u64 (IntKind.u64.wrap (bt167.1 - t171)) (Go.bits .and .i64 s1_2 63)) t172, s1_0, s1_1, s1_2))))) else (some (Go.bits .or .u64 (shr .u64 bt167.1 (Go.bits .and .i64 s1_2 63)) 1, s1_0, s1_1, s1_2))) else (none))) = some (r1, r2, r3, r4) := h
  clear h
  replace H := Option.bind_eq_some_iff.mp H
  obtain ⟨⟨t167, t168⟩, A30, H⟩ := H
  replace H : (if 0 ≤ (Go.bits .and .i64 s1_2 63) then (if (shl .u64 (shr .u64 t167 (Go.bits .and .i64 s1_2 63)) (Go.bits .and .i64 s1_2 63)) = t167 then ((bits_Mul64.f a0 s1_1).bind fun bt169 => ((strconv_bool2_uint64.f (decide (t168 < bt169.1))).bind fun t171 => ((strconv_bool2_uint64.f (decide ((IntKind.u64.wrap (t168 - bt169.1)) > 1))).bind fun t172 => (some (Go.bits .or .u64 (shr .u64 (IntKind.u64.wrap (t167 - t171)) (Go.bits .and .i64 s1_2 63)) t172, s1_0, s1_1, s1_2))))) else (some (Go.bits .or .u64 (shr .u64 t167 (Go.bits .and .i64 s1_2 63)) 1, s1_0, s1_1, s1_2))) else (none)) = some (r1, r2, r3, r4) := H
  have A3 := Aside0.mk A30
  clear A30
  by_cases c4 : 0 ≤ (Go.bits .and .i64 s1_2 63)
  · rw [if_pos c4] at H
    have c4b0 := eq_true c4
    have c4b1 : decide (0 ≤ (Go.bits .and .i64 s1_2 63)) = true := decide_eq_true c4
    clear c4
    obtain ⟨ji5, hji5⟩ : ∃ j_ : Int, (shr .u64 t167 (Go.bits .and .i64 s1_2 63)) = j_ := ⟨_, rfl⟩
    replace H : (if (shl .u64 (ji5) (Go.bits .and .i64 s1_2 63)) = t167 then ((bits_Mul64.f a0 s1_1).bind fun bt169 => ((strconv_bool2_uint64.f (decide (t168 < bt169.1))).bind fun t171 => ((strconv_bool2_uint64.f (decide ((IntKind.u64.wrap (t168 - bt169.1)) > 1))).bind fun t172 => (some (Go.bits .or .u64 (shr .u64 (IntKind.u64.wrap (t167 - t171)) (Go.bits .and .i64 s1_2 63)) t172, s1_0, s1_1, s1_2))))) else (some (Go.bits .or .u64 (ji5) 1, s1_0, s1_1, s1_2))) = some (r1, r2, r3, r4) := by first | (rw [hji5] at H; exact H) | (simp only [hji5] at H ⊢; exact H)
    (try rw [hji5] at A3)
    have hji5_ : (t167 / 2 ^ min (Go.bits .and .i64 s1_2 63).toNat 64) = ji5 := hji5
    have hji5z : (Go.bits .and .i64 s1_2 63) ≤ 64 → (t167 / 2 ^ (Go.bits .and .i64 s1_2 63).toNat) = ji5 := shr_small hji5
    have c6b0 := eq_true (of_decide_eq_true (by first | (with_reducible assumption) | assumption) : 0 ≤ (Go.bits .and .i64 s1_2 63))
    obtain ⟨ji7, hji7⟩ : ∃ j_ : Int, (shl .u64 (ji5) (Go.bits .and .i64 s1_2 63)) = j_ := ⟨_, rfl⟩
    replace H : (if (ji7) = t167 then ((bits_Mul64.f a0 s1_1).bind fun bt169 => ((strconv_bool2_uint64.f (decide (t168 < bt169.1))).bind fun t171 => ((strconv_bool2_uint64.f (decide ((IntKind.u64.wrap (t168 - bt169.1)) > 1))).bind fun t172 => (some (Go.bits .or .u64 (shr .u64 (IntKind.u64.wrap (t167 - t171)) (Go.bits .and .i64 s1_2 63)) t172, s1_0, s1_1, s1_2))))) else (some (Go.bits .or .u64 (ji5) 1, s1_0, s1_1, s1_2))) = some (r1, r2, r3, r4) := by first | (rw [hji7] at H; exact H) | (simp only [hji7] at H ⊢; exact H)
    (try rw [hji7] at A3)
    have hji7_ : (IntKind.u64.wrap ((ji5) * 2 ^ min (Go.bits .and .i64 s1_2 63).toNat 64)) = ji7 := hji7
    have hji7z : (Go.bits .and .i64 s1_2 63) ≤ 64 → (IntKind.u64.wrap ((ji5) * 2 ^ (Go.bits .and .i64 s1_2 63).toNat)) = ji7 := shl_small hji7
    by_cases c8 : (ji7) = t167
    · rw [if_pos c8] at H
      have c8b0 : ((ji7) == t167) = true := beq_iff_eq.mpr c8
      have c8b1 : ((ji7) != t167) = false := bne_eq_false_iff_eq.mpr c8
      clear c8
      replace H := Option.bind_eq_some_iff.mp H
      obtain ⟨⟨t169, t170⟩, A90, H⟩ := H
      replace H : ((strconv_bool2_uint64.f (decide (t168 < t169))).bind fun t171 => ((strconv_bool2_uint64.f (decide ((IntKind.u64.wrap (t168 - t169)) > 1))).bind fun t172 => (some (Go.bits .or .u64 (shr .u64 (IntKind.u64.wrap (t167 - t171)) (Go.bits .and .i64 s1_2 63)) t172, s1_0, s1_1, s1_2)))) = some (r1, r2, r3, r4) := H
      have A9 := Aside0.mk A90
      clear A90
      replace H := Option.bind_eq_some_iff.mp H
      obtain ⟨t171, A100, H⟩ := H
      replace H : ((strconv_bool2_uint64.f (decide ((IntKind.u64.wrap (t168 - t169)) > 1))).bind fun t172 => (some (Go.bits .or .u64 (shr .u64 (IntKind.u64.wrap (t167 - t171)) (Go.bits .and .i64 s1_2 63)) t172, s1_0, s1_1, s1_2))) = some (r1, r2, r3, r4) := H
      have A10 := Aside0.mk A100
      clear A100
      have c11b0 := eq_true (of_decide_eq_true (by first | (with_reducible assumption) | assumption) : 0 ≤ (Go.bits .and .i64 s1_2 63))
      obtain ⟨ji12, hji12⟩ : ∃ j_ : Int, (shr .u64 (IntKind.u64.wrap (t167 - t171)) (Go.bits .and .i64 s1_2 63)) = j_ := ⟨_, rfl⟩
      replace H : ((strconv_bool2_uint64.f (decide ((IntKind.u64.wrap (t168 - t169)) > 1))).bind fun t172 => (some (Go.bits .or .u64 (ji12) t172, s1_0, s1_1, s1_2))) = some (r1, r2, r3, r4) := by first | (rw [hji12] at H; exact H) | (simp only [hji12] at H ⊢; exact H)
      (try rw [hji12] at A3)
      (try rw [hji12] at A9)
      (try rw [hji12] at A10)
      have hji12_ : ((IntKind.u64.wrap (t167 - t171)) / 2 ^ min (Go.bits .and .i64 s1_2 63).toNat 64) = ji12 := hji12
      have hji12z : (Go.bits .and .i64 s1_2 63) ≤ 64 → ((IntKind.u64.wrap (t167 - t171)) / 2 ^ (Go.bits .and .i64 s1_2 63).toNat) = ji12 := shr_small hji12
      replace H := Option.bind_eq_some_iff.mp H
      obtain ⟨t172, A130, H⟩ := H
      replace H : (some (Go.bits .or .u64 (ji12) t172, s1_0, s1_1, s1_2)) = some (r1, r2, r3, r4) := H
      have A13 := Aside0.mk A130
      clear A130
      simp only [Option.some.injEq, Prod.mk.injEq] at H
      obtain ⟨rfl, rfl, rfl, rfl⟩ := H
      obtain ⟨HGz14, hgz14⟩ := HI1.out
      have hcz14_0 := cellS78_0 HGz14
      have hcz14_1 := cellS78_1 HGz14
      have hcz14_2 := cellS78_2 HGz14
      have hfz14_0 := blk_frozen HGz14 0
      have hfz14_1 := blk_frozen HGz14 1
      have hfz14_2 := blk_frozen HGz14 2
      clear HGz14 hgz14
      go_enter Tryd.func50, Tryd.ntmps50
      go_wp2_with (first | (go_at_call 67; (with_reducible refine (bits_Mul64.calls a0 s1_0 t167 t168 _ A3.out).mono ?_); rintro e w' ⟨rfl, ⟨nd, rfl⟩⟩; (try first | exact ⟨rfl, _, World.drewN_drewN _ _ _⟩ | exact ⟨rfl, _, Eq.trans (World.drewN_drewN _ _ _) (congrArg (World.drewN _) (Nat.add_assoc _ _ _))⟩)) | (go_at_call 67; (with_reducible refine (bits_Mul64.calls a0 s1_1 t169 t170 _ A9.out).mono ?_); rintro e w' ⟨rfl, ⟨nd, rfl⟩⟩; (try first | exact ⟨rfl, _, World.drewN_drewN _ _ _⟩ | exact ⟨rfl, _, Eq.trans (World.drewN_drewN _ _ _) (congrArg (World.drewN _) (Nat.add_assoc _ _ _))⟩)) | (go_at_call 68; (with_reducible refine (strconv_bool2_uint64.calls (decide (t168 < t169)) t171 _ A10.out).mono ?_); rintro e w' ⟨rfl, ⟨nd, rfl⟩⟩; (try first | exact ⟨rfl, _, World.drewN_drewN _ _ _⟩ | exact ⟨rfl, _, Eq.trans (World.drewN_drewN _ _ _) (congrArg (World.drewN _) (Nat.add_assoc _ _ _))⟩)) | (go_at_call 68; (with_reducible refine (strconv_bool2_uint64.calls (decide ((IntKind.u64.wrap (t168 - t169)) > 1)) t172 _ A13.out).mono ?_); rintro e w' ⟨rfl, ⟨nd, rfl⟩⟩; (try first | exact ⟨rfl, _, World.drewN_drewN _ _ _⟩ | exact ⟨rfl, _, Eq.trans (World.drewN_drewN _ _ _) (congrArg (World.drewN _) (Nat.add_assoc _ _ _))⟩)))
      repeat (go_quiet (first | (go_at_call 67; (with_reducible refine (bits_Mul64.calls a0 s1_0 t167 t168 _ A3.out).mono ?_); rintro e w' ⟨rfl, ⟨nd, rfl⟩⟩; (try first | exact ⟨rfl, _, World.drewN_drewN _ _ _⟩ | exact ⟨rfl, _, Eq.trans (World.drewN_drewN _ _ _) (congrArg (World.drewN _) (Nat.add_assoc _ _ _))⟩)) | (go_at_call 67; (with_reducible refine (bits_Mul64.calls a0 s1_1 t169 t170 _ A9.out).mono ?_); rintro e w' ⟨rfl, ⟨nd, rfl⟩⟩; (try first | exact ⟨rfl, _, World.drewN_drewN _ _ _⟩ | exact ⟨rfl, _, Eq.trans (World.drewN_drewN _ _ _) (congrArg (World.drewN _) (Nat.add_assoc _ _ _))⟩)) | (go_at_call 68; (with_reducible refine (strconv_bool2_uint64.calls (decide (t168 < t169)) t171 _ A10.out).mono ?_); rintro e w' ⟨rfl, ⟨nd, rfl⟩⟩; (try first | exact ⟨rfl, _, World.drewN_drewN _ _ _⟩ | exact ⟨rfl, _, Eq.trans (World.drewN_drewN _ _ _) (congrArg (World.drewN _) (Nat.add_assoc _ _ _))⟩)) | (go_at_call 68; (with_reducible refine (strconv_bool2_uint64.calls (decide ((IntKind.u64.wrap (t168 - t169)) > 1)) t172 _ A13.out).mono ?_); rintro e w' ⟨rfl, ⟨nd, rfl⟩⟩; (try first | exact ⟨rfl, _, World.drewN_drewN _ _ _⟩ | exact ⟨rfl, _, Eq.trans (World.drewN_drewN _ _ _) (congrArg (World.drewN _) (Nat.add_assoc _ _ _))⟩))); try go_wp2_with (first | (go_at_call 67; (with_reducible refine (bits_Mul64.calls a0 s1_0 t167 t168 _ A3.out).mono ?_); rintro e w' ⟨rfl, ⟨nd, rfl⟩⟩; (try first | exact ⟨rfl, _, World.drewN_drewN _ _ _⟩ | exact ⟨rfl, _, Eq.trans (World.drewN_drewN _ _ _) (congrArg (World.drewN _) (Nat.add_assoc _ _ _))⟩)) | (go_at_call 67; (with_reducible refine (bits_Mul64.calls a0 s1_1 t169 t170 _ A9.out).mono ?_); rintro e w' ⟨rfl, ⟨nd, rfl⟩⟩; (try first | exact ⟨rfl, _, World.drewN_drewN _ _ _⟩ | exact ⟨rfl, _, Eq.trans (World.drewN_drewN _ _ _) (congrArg (World.drewN _) (Nat.add_assoc _ _ _))⟩)) | (go_at_call 68; (with_reducible refine (strconv_bool2_uint64.calls (decide (t168 < t169)) t171 _ A10.out).mono ?_); rintro e w' ⟨rfl, ⟨nd, rfl⟩⟩; (try first | exact ⟨rfl, _, World.drewN_drewN _ _ _⟩ | exact ⟨rfl, _, Eq.trans (World.drewN_drewN _ _ _) (congrArg (World.drewN _) (Nat.add_assoc _ _ _))⟩)) | (go_at_call 68; (with_reducible refine (strconv_bool2_uint64.calls (decide ((IntKind.u64.wrap (t168 - t169)) > 1)) t172 _ A13.out).mono ?_); rintro e w' ⟨rfl, ⟨nd, rfl⟩⟩; (try first | exact ⟨rfl, _, World.drewN_drewN _ _ _⟩ | exact ⟨rfl, _, Eq.trans (World.drewN_drewN _ _ _) (congrArg (World.drewN _) (Nat.add_assoc _ _ _))⟩))))
      go_ret
      exact ⟨by first | rfl | (simp [errW_none, errW_some] <;> rfl) | (simp only [← hji5, ← hji7, ← hji12]; first | rfl | (simp [errW_none, errW_some] <;> rfl)) | (simp [*, errW_none, errW_some] <;> rfl), by repeat (first | (with_reducible first | exact HI1.out | apply IsS78.alloc | apply IsS78.drewN | apply IsS78.drew | apply IsS78.set_0 | apply IsS78.set_1 | apply IsS78.set_2) | exact HI1.out), by repeat (first | (with_reducible first | exact HB.out | apply below_alloc | apply pw_below_drewN | apply below_drew1 | refine below_set ?_ (IsS78.ge HI1.out)) | exact HB.out), by repeat (first | (with_reducible first | exact HK.out | apply KeepBut.set_ | apply keep_drewN | apply keep_drew | apply keep_alloc) | exact HK.out)⟩
    · rw [if_neg c8] at H
      have c8b0 : ((ji7) == t167) = false := beq_eq_false_iff_ne.mpr c8
      have c8b1 : ((ji7) != t167) = true := bne_iff_ne.mpr c8
      have c15b0 := eq_true (of_decide_eq_true (by first | (with_reducible assumption) | assumption) : 0 ≤ (Go.bits .and .i64 s1_2 63))
      simp only [Option.some.injEq, Prod.mk.injEq] at H
      obtain ⟨rfl, rfl, rfl, rfl⟩ := H
      obtain ⟨HGz17, hgz17⟩ := HI1.out
      have hcz17_0 := cellS78_0 HGz17
      have hcz17_1 := cellS78_1 HGz17
      have hcz17_2 := cellS78_2 HGz17
      have hfz17_0 := blk_frozen HGz17 0
      have hfz17_1 := blk_frozen HGz17 1
      have hfz17_2 := blk_frozen HGz17 2
      clear HGz17 hgz17
      go_enter Tryd.func50, Tryd.ntmps50
      go_wp2_with (first | (go_at_call 67; (with_reducible refine (bits_Mul64.calls a0 s1_0 t167 t168 _ A3.out).mono ?_); rintro e w' ⟨rfl, ⟨nd, rfl⟩⟩; (try first | exact ⟨rfl, _, World.drewN_drewN _ _ _⟩ | exact ⟨rfl, _, Eq.trans (World.drewN_drewN _ _ _) (congrArg (World.drewN _) (Nat.add_assoc _ _ _))⟩)))
      repeat (go_quiet (first | (go_at_call 67; (with_reducible refine (bits_Mul64.calls a0 s1_0 t167 t168 _ A3.out).mono ?_); rintro e w' ⟨rfl, ⟨nd, rfl⟩⟩; (try first | exact ⟨rfl, _, World.drewN_drewN _ _ _⟩ | exact ⟨rfl, _, Eq.trans (World.drewN_drewN _ _ _) (congrArg (World.drewN _) (Nat.add_assoc _ _ _))⟩))); try go_wp2_with (first | (go_at_call 67; (with_reducible refine (bits_Mul64.calls a0 s1_0 t167 t168 _ A3.out).mono ?_); rintro e w' ⟨rfl, ⟨nd, rfl⟩⟩; (try first | exact ⟨rfl, _, World.drewN_drewN _ _ _⟩ | exact ⟨rfl, _, Eq.trans (World.drewN_drewN _ _ _) (congrArg (World.drewN _) (Nat.add_assoc _ _ _))⟩))))
      go_ret
      exact ⟨by first | rfl | (simp [errW_none, errW_some] <;> rfl) | (simp only [← hji5, ← hji7]; first | rfl | (simp [errW_none, errW_some] <;> rfl)) | (simp [*, errW_none, errW_some] <;> rfl), by repeat (first | (with_reducible first | exact HI1.out | apply IsS78.alloc | apply IsS78.drewN | apply IsS78.drew | apply IsS78.set_0 | apply IsS78.set_1 | apply IsS78.set_2) | exact HI1.out), by repeat (first | (with_reducible first | exact HB.out | apply below_alloc | apply pw_below_drewN | apply below_drew1 | refine below_set ?_ (IsS78.ge HI1.out)) | exact HB.out), by repeat (first | (with_reducible first | exact HK.out | apply KeepBut.set_ | apply keep_drewN | apply keep_drew | apply keep_alloc) | exact HK.out)⟩
  · rw [if_neg c4] at H
    exact absurd H (by simp)


/-! ### strconv_skewed: function 47 -/
def strconv_skewed.f (a0 : Int) : Option (Int) := some ((wrap64 ((wrap64 (a0 * 631305)) - 261663)) / 2097152)
set_option maxHeartbeats 8000000 in
set_option maxRecDepth 100000 in
theorem strconv_skewed.calls (a0 : Int) (r : Int) (w : World) (h : strconv_skewed.f a0 = some r) :
    Calls Tryd.prog 47 #[.int .i64 a0] w fun e w' => e = .returned (.int .i64 r) ∧ Drawn0 w w' := by
  have H : (some ((wrap64 ((wrap64 (a0 * 631305)) - 261663)) / 2097152)) = some r := h
  clear h
  obtain rfl := Option.some.inj H
  go_enter Tryd.func47, Tryd.ntmps47
  go_wp2
  go_ret
  exact ⟨by first | rfl | (simp; done) | (simp [*]; done), by repeat (first | exact Drawn0.refl _ | apply Drawn0.step)⟩


/-! ### strconv_log10Pow2: function 38 -/
def strconv_log10Pow2.f (a0 : Int) : Option (Int) := some ((wrap64 (a0 * 78913)) / 262144)
set_option maxHeartbeats 8000000 in
set_option maxRecDepth 100000 in
theorem strconv_log10Pow2.calls (a0 : Int) (r : Int) (w : World) (h : strconv_log10Pow2.f a0 = some r) :
    Calls Tryd.prog 38 #[.int .i64 a0] w fun e w' => e = .returned (.int .i64 r) ∧ Drawn0 w w' := by
  have H : (some ((wrap64 (a0 * 78913)) / 262144)) = some r := h
  clear h
  obtain rfl := Option.some.inj H
  go_enter Tryd.func38, Tryd.ntmps38
  go_wp2
  go_ret
  exact ⟨by first | rfl | (simp; done) | (simp [*]; done), by repeat (first | exact Drawn0.refl _ | apply Drawn0.step)⟩


/-! ### strconv_log2Pow10: function 49 -/
def strconv_log2Pow10.f (a0 : Int) : Option (Int) := some ((wrap64 (a0 * 108853)) / 32768)
set_option maxHeartbeats 8000000 in
set_option maxRecDepth 100000 in
theorem strconv_log2Pow10.calls (a0 : Int) (r : Int) (w : World) (h : strconv_log2Pow10.f a0 = some r) :
    Calls Tryd.prog 49 #[.int .i64 a0] w fun e w' => e = .returned (.int .i64 r) ∧ Drawn0 w w' := by
  have H : (some ((wrap64 (a0 * 108853)) / 32768)) = some r := h
  clear h
  obtain rfl := Option.some.inj H
  go_enter Tryd.func49, Tryd.ntmps49
  go_wp2
  go_ret
  exact ⟨by first | rfl | (simp; done) | (simp [*]; done), by repeat (first | exact Drawn0.refl _ | apply Drawn0.step)⟩


/-! ### strconv_bool2_int: function 56 -/
def strconv_bool2_int.f (a0 : Bool) : Option (Int) := if a0 = true then (some 1) else (some 0)
set_option maxHeartbeats 8000000 in
set_option maxRecDepth 100000 in
theorem strconv_bool2_int.calls (a0 : Bool) (r : Int) (w : World) (h : strconv_bool2_int.f a0 = some r) :
    Calls Tryd.prog 56 #[.bool a0] w fun e w' => e = .returned (.int .i64 r) ∧ Drawn0 w w' := by
  have H : (if a0 = true then (some 1) else (some 0)) = some r := h
  clear h
  by_cases c2 : a0 = true
  · subst c2
    have H1 : (some 1) = some r := by rw [if_pos rfl] at H; exact H
    clear H
    have H := H1
    clear H1
    obtain rfl := Option.some.inj H
    go_enter Tryd.func56, Tryd.ntmps56
    go_wp2
    go_ret
    exact ⟨by first | rfl | (simp; done) | (simp [*]; done), by repeat (first | exact Drawn0.refl _ | apply Drawn0.step)⟩
  · replace c2 := Bool.eq_false_iff.mpr c2
    subst c2
    have H1 : (some 0) = some r := by rw [if_neg (show ¬ (false = true) by decide)] at H; exact H
    clear H
    have H := H1
    clear H1
    obtain rfl := Option.some.inj H
    go_enter Tryd.func56, Tryd.ntmps56
    go_wp2
    go_ret
    exact ⟨by first | rfl | (simp; done) | (simp [*]; done), by repeat (first | exact Drawn0.refl _ | apply Drawn0.step)⟩


/-! ### strconv_unrounded_nudge: function 51 -/
def strconv_unrounded_nudge.f (a0 : Int) (a1 : Int) : Option (Int) := some (IntKind.u64.wrap (a0 + (IntKind.u64.wrap (a1))))
set_option maxHeartbeats 8000000 in
set_option maxRecDepth 100000 in
theorem strconv_unrounded_nudge.calls (a0 : Int) (a1 : Int) (r : Int) (w : World) (h : strconv_unrounded_nudge.f a0 a1 = some r) :
    Calls Tryd.prog 51 #[.int .u64 a0, .int .i64 a1] w fun e w' => e = .returned (.int .u64 r) ∧ Drawn0 w w' := by
  have H : (some (IntKind.u64.wrap (a0 + (IntKind.u64.wrap (a1))))) = some r := h
  clear h
  obtain rfl := Option.some.inj H
  go_enter Tryd.func51, Tryd.ntmps51
  go_wp2
  go_ret
  exact ⟨by first | rfl | (simp; done) | (simp [*]; done), by repeat (first | exact Drawn0.refl _ | apply Drawn0.step)⟩


/-! ### strconv_unrounded_ceil: function 52 -/
def strconv_unrounded_ceil.f (a0 : Int) : Option (Int) := some ((IntKind.u64.wrap (a0 + 3)) / 4)
set_option maxHeartbeats 8000000 in
set_option maxRecDepth 100000 in
theorem strconv_unrounded_ceil.calls (a0 : Int) (r : Int) (w : World) (h : strconv_unrounded_ceil.f a0 = some r) :
    Calls Tryd.prog 52 #[.int .u64 a0] w fun e w' => e = .returned (.int .u64 r) ∧ Drawn0 w w' := by
  have H : (some ((IntKind.u64.wrap (a0 + 3)) / 4)) = some r := h
  clear h
  obtain rfl := Option.some.inj H
  go_enter Tryd.func52, Tryd.ntmps52
  go_wp2
  go_ret
  exact ⟨by first | rfl | (simp; done) | (simp [*]; done), by repeat (first | exact Drawn0.refl _ | apply Drawn0.step)⟩


/-! ### strconv_unrounded_floor: function 53 -/
def strconv_unrounded_floor.f (a0 : Int) : Option (Int) := some ((IntKind.u64.wrap (a0 + 0)) / 4)
set_option maxHeartbeats 8000000 in
set_option maxRecDepth 100000 in
theorem strconv_unrounded_floor.calls (a0 : Int) (r : Int) (w : World) (h : strconv_unrounded_floor.f a0 = some r) :
    Calls Tryd.prog 53 #[.int .u64 a0] w fun e w' => e = .returned (.int .u64 r) ∧ Drawn0 w w' := by
  have H : (some ((IntKind.u64.wrap (a0 + 0)) / 4)) = some r := h
  clear h
  obtain rfl := Option.some.inj H
  go_enter Tryd.func53, Tryd.ntmps53
  go_wp2
  go_ret
  exact ⟨by first | rfl | (simp; done) | (simp [*]; done), by repeat (first | exact Drawn0.refl _ | apply Drawn0.step)⟩


/-! ### strconv_unrounded_round: function 54 -/
def strconv_unrounded_round.f (a0 : Int) : Option (Int) := some ((IntKind.u64.wrap ((IntKind.u64.wrap (a0 + 1)) + (Go.bits .and .u64 (a0 / 4) 1))) / 4)
set_option maxHeartbeats 8000000 in
set_option maxRecDepth 100000 in
theorem strconv_unrounded_round.calls (a0 : Int) (r : Int) (w : World) (h : strconv_unrounded_round.f a0 = some r) :
    Calls Tryd.prog 54 #[.int .u64 a0] w fun e w' => e = .returned (.int .u64 r) ∧ Drawn0 w w' := by
  have H : (some ((IntKind.u64.wrap ((IntKind.u64.wrap (a0 + 1)) + (Go.bits .and .u64 (a0 / 4) 1))) / 4)) = some r := h
  clear h
  obtain rfl := Option.some.inj H
  go_enter Tryd.func54, Tryd.ntmps54
  go_wp2
  go_ret
  exact ⟨by first | rfl | (simp; done) | (simp [*]; done), by repeat (first | exact Drawn0.refl _ | apply Drawn0.step)⟩


/-! ### bits_Len64: function 34 -/
/-- The number of bits of n without zeros ahead. -/
def lenN (n : Nat) : Nat := if n = 0 then 0 else Nat.log2 n + 1
def len8 : ByteArray := ⟨#[0, 1, 2, 2, 3, 3, 3, 3, 4, 4, 4, 4, 4, 4, 4, 4, 5, 5, 5, 5, 5, 5, 5, 5, 5, 5, 5, 5, 5, 5, 5, 5, 6, 6, 6, 6, 6, 6, 6, 6, 6, 6, 6, 6, 6, 6, 6, 6, 6, 6, 6, 6, 6, 6, 6, 6, 6, 6, 6, 6, 6, 6, 6, 6, 7, 7, 7, 7, 7, 7, 7, 7, 7, 7, 7, 7, 7, 7, 7, 7, 7, 7, 7, 7, 7, 7, 7, 7, 7, 7, 7, 7, 7, 7, 7, 7, 7, 7, 7, 7, 7, 7, 7, 7, 7, 7, 7, 7, 7, 7, 7, 7, 7, 7, 7, 7, 7, 7, 7, 7, 7, 7, 7, 7, 7, 7, 7, 7, 8, 8, 8, 8, 8, 8, 8, 8, 8, 8, 8, 8, 8, 8, 8, 8, 8, 8, 8, 8, 8, 8, 8, 8, 8, 8, 8, 8, 8, 8, 8, 8, 8, 8, 8, 8, 8, 8, 8, 8, 8, 8, 8, 8, 8, 8, 8, 8, 8, 8, 8, 8, 8, 8, 8, 8, 8, 8, 8, 8, 8, 8, 8, 8, 8, 8, 8, 8, 8, 8, 8, 8, 8, 8, 8, 8, 8, 8, 8, 8, 8, 8, 8, 8, 8, 8, 8, 8, 8, 8, 8, 8, 8, 8, 8, 8, 8, 8, 8, 8, 8, 8, 8, 8, 8, 8, 8, 8, 8, 8, 8, 8, 8, 8, 8, 8, 8, 8, 8, 8, 8, 8, 8, 8, 8, 8, 8, 8]⟩
theorem len8_size : len8.size = 256 := by decide +kernel
theorem len8_all : (List.range 256).all (fun x => len8.data.toList.getD x 0 == UInt8.ofNat (lenN x)) = true := by decide +kernel
theorem lenN_8 (x : Nat) (h : x < 256) : lenN x ≤ 8 := by
  unfold lenN
  split
  · decide
  · rename_i h0
    have := (Nat.log2_lt h0 (k := 8)).mpr h
    omega
theorem len8_is (x : Nat) (h : x < len8.size) : (len8[x]'h).toNat = lenN x := by
  have hx : x < 256 := by rw [← len8_size]; exact h
  have a := List.all_eq_true.mp len8_all x (List.mem_range.mpr hx)
  rw [beq_iff_eq] at a
  have e : len8[x]'h = len8.data.toList.getD x 0 := by
    rw [List.getD_eq_getElem?_getD, Array.getElem?_toList, Array.getElem?_eq_getElem (by exact h)]
    rfl
  rw [e, a]
  have := lenN_8 x hx
  rw [UInt8.toNat_ofNat_of_lt' (by show lenN x < 256; omega)]
theorem w64n (n : Int) (h : 0 ≤ n ∧ n < 1000) : wrap64 n = n := by
  unfold wrap64
  omega
theorem lenN_div (x k : Nat) (h : 2 ^ k ≤ x) : lenN x = k + lenN (x / 2 ^ k) := by
  have h0 : 0 < 2 ^ k := Nat.pow_pos (by decide)
  have hx : x ≠ 0 := by omega
  have hq : x / 2 ^ k ≠ 0 := by
    have := Nat.div_pos h h0
    omega
  unfold lenN
  rw [if_neg hx, if_neg hq]
  have l1 := Nat.log2_self_le hq
  have l2 := Nat.lt_log2_self (n := x / 2 ^ k)
  generalize (x / 2 ^ k).log2 = l at *
  have e : x.log2 = k + l := by
    rw [Nat.log2_eq_iff hx, Nat.pow_add, Nat.add_assoc, Nat.pow_add]
    have d := Nat.div_add_mod x (2 ^ k)
    have m := Nat.mod_lt x h0
    constructor
    · have := Nat.mul_le_mul_left (2 ^ k) l1
      omega
    · have := Nat.mul_le_mul_left (2 ^ k) (show x / 2 ^ k + 1 ≤ 2 ^ (l + 1) by omega)
      rw [Nat.mul_add] at this
      omega
  omega
set_option maxHeartbeats 2000000 in
set_option maxRecDepth 100000 in
theorem len_000 (x : Nat) (w : World) (b0 : decide (4294967296 ≤ (x : Int)) = false) (b1 : decide (65536 ≤ (x : Int)) = false) (b2 : decide (256 ≤ (x : Int)) = false) (hv : x < 256) (e : (x : Int) % 256 = (x : Int)) :
    Calls Tryd.prog 34 #[.int .u64 (x : Int)] w fun e w' => e = .returned (.int .i64 ((0 + lenN x : Nat) : Int)) ∧ Drawn0 w w' := by
  go_enter Tryd.func34, Tryd.ntmps34
  go_wp2
  go_ret
  refine ⟨congrArg (fun z => Ending.returned (.int .i64 z)) ?_, Drawn0.refl _⟩
  have q := len8_is x (by rw [len8_size]; exact hv)
  have hb := lenN_8 x hv
  unfold len8 at q
  rw [q]
  clear q e hv b0 b1 b2
  generalize lenN x = r at *
  rw [w64n (r : Int) (by omega), w64n _ (by omega)]
  omega
set_option maxHeartbeats 2000000 in
set_option maxRecDepth 100000 in
theorem len_001 (x t : Nat) (w : World) (b0 : decide (4294967296 ≤ (x : Int)) = false) (b1 : decide (65536 ≤ (x : Int)) = false) (b2 : decide (256 ≤ (x : Int)) = true) (e2 : (x : Int) / 256 = (t : Int)) (hv : t < 256) (e : (t : Int) % 256 = (t : Int)) :
    Calls Tryd.prog 34 #[.int .u64 (x : Int)] w fun e w' => e = .returned (.int .i64 ((8 + lenN t : Nat) : Int)) ∧ Drawn0 w w' := by
  go_enter Tryd.func34, Tryd.ntmps34
  go_wp2
  go_ret
  refine ⟨congrArg (fun z => Ending.returned (.int .i64 z)) ?_, Drawn0.refl _⟩
  have q := len8_is t (by rw [len8_size]; exact hv)
  have hb := lenN_8 t hv
  unfold len8 at q
  rw [q]
  clear q e hv b0 b1 b2 e2
  generalize lenN t = r at *
  rw [w64n (r : Int) (by omega), w64n _ (by omega)]
  omega
set_option maxHeartbeats 2000000 in
set_option maxRecDepth 100000 in
theorem len_010 (x z : Nat) (w : World) (b0 : decide (4294967296 ≤ (x : Int)) = false) (b1 : decide (65536 ≤ (x : Int)) = true) (e1 : (x : Int) / 65536 = (z : Int)) (b2 : decide (256 ≤ (z : Int)) = false) (hv : z < 256) (e : (z : Int) % 256 = (z : Int)) :
    Calls Tryd.prog 34 #[.int .u64 (x : Int)] w fun e w' => e = .returned (.int .i64 ((16 + lenN z : Nat) : Int)) ∧ Drawn0 w w' := by
  go_enter Tryd.func34, Tryd.ntmps34
  go_wp2
  go_ret
  refine ⟨congrArg (fun z => Ending.returned (.int .i64 z)) ?_, Drawn0.refl _⟩
  have q := len8_is z (by rw [len8_size]; exact hv)
  have hb := lenN_8 z hv
  unfold len8 at q
  rw [q]
  clear q e hv b0 b1 b2 e1
  generalize lenN z = r at *
  rw [w64n (r : Int) (by omega), w64n _ (by omega)]
  omega
set_option maxHeartbeats 2000000 in
set_option maxRecDepth 100000 in
theorem len_011 (x z t : Nat) (w : World) (b0 : decide (4294967296 ≤ (x : Int)) = false) (b1 : decide (65536 ≤ (x : Int)) = true) (e1 : (x : Int) / 65536 = (z : Int)) (b2 : decide (256 ≤ (z : Int)) = true) (e2 : (z : Int) / 256 = (t : Int)) (hv : t < 256) (e : (t : Int) % 256 = (t : Int)) :
    Calls Tryd.prog 34 #[.int .u64 (x : Int)] w fun e w' => e = .returned (.int .i64 ((24 + lenN t : Nat) : Int)) ∧ Drawn0 w w' := by
  go_enter Tryd.func34, Tryd.ntmps34
  go_wp2
  go_ret
  refine ⟨congrArg (fun z => Ending.returned (.int .i64 z)) ?_, Drawn0.refl _⟩
  have q := len8_is t (by rw [len8_size]; exact hv)
  have hb := lenN_8 t hv
  unfold len8 at q
  rw [q]
  clear q e hv b0 b1 b2 e1 e2
  generalize lenN t = r at *
  rw [w64n (r : Int) (by omega), w64n _ (by omega)]
  omega
set_option maxHeartbeats 2000000 in
set_option maxRecDepth 100000 in
theorem len_100 (x y : Nat) (w : World) (b0 : decide (4294967296 ≤ (x : Int)) = true) (e0 : (x : Int) / 4294967296 = (y : Int)) (b1 : decide (65536 ≤ (y : Int)) = false) (b2 : decide (256 ≤ (y : Int)) = false) (hv : y < 256) (e : (y : Int) % 256 = (y : Int)) :
    Calls Tryd.prog 34 #[.int .u64 (x : Int)] w fun e w' => e = .returned (.int .i64 ((32 + lenN y : Nat) : Int)) ∧ Drawn0 w w' := by
  go_enter Tryd.func34, Tryd.ntmps34
  go_wp2
  go_ret
  refine ⟨congrArg (fun z => Ending.returned (.int .i64 z)) ?_, Drawn0.refl _⟩
  have q := len8_is y (by rw [len8_size]; exact hv)
  have hb := lenN_8 y hv
  unfold len8 at q
  rw [q]
  clear q e hv b0 b1 b2 e0
  generalize lenN y = r at *
  rw [w64n (r : Int) (by omega), w64n _ (by omega)]
  omega
set_option maxHeartbeats 2000000 in
set_option maxRecDepth 100000 in
theorem len_101 (x y t : Nat) (w : World) (b0 : decide (4294967296 ≤ (x : Int)) = true) (e0 : (x : Int) / 4294967296 = (y : Int)) (b1 : decide (65536 ≤ (y : Int)) = false) (b2 : decide (256 ≤ (y : Int)) = true) (e2 : (y : Int) / 256 = (t : Int)) (hv : t < 256) (e : (t : Int) % 256 = (t : Int)) :
    Calls Tryd.prog 34 #[.int .u64 (x : Int)] w fun e w' => e = .returned (.int .i64 ((40 + lenN t : Nat) : Int)) ∧ Drawn0 w w' := by
  go_enter Tryd.func34, Tryd.ntmps34
  go_wp2
  go_ret
  refine ⟨congrArg (fun z => Ending.returned (.int .i64 z)) ?_, Drawn0.refl _⟩
  have q := len8_is t (by rw [len8_size]; exact hv)
  have hb := lenN_8 t hv
  unfold len8 at q
  rw [q]
  clear q e hv b0 b1 b2 e0 e2
  generalize lenN t = r at *
  rw [w64n (r : Int) (by omega), w64n _ (by omega)]
  omega
set_option maxHeartbeats 2000000 in
set_option maxRecDepth 100000 in
theorem len_110 (x y z : Nat) (w : World) (b0 : decide (4294967296 ≤ (x : Int)) = true) (e0 : (x : Int) / 4294967296 = (y : Int)) (b1 : decide (65536 ≤ (y : Int)) = true) (e1 : (y : Int) / 65536 = (z : Int)) (b2 : decide (256 ≤ (z : Int)) = false) (hv : z < 256) (e : (z : Int) % 256 = (z : Int)) :
    Calls Tryd.prog 34 #[.int .u64 (x : Int)] w fun e w' => e = .returned (.int .i64 ((48 + lenN z : Nat) : Int)) ∧ Drawn0 w w' := by
  go_enter Tryd.func34, Tryd.ntmps34
  go_wp2
  go_ret
  refine ⟨congrArg (fun z => Ending.returned (.int .i64 z)) ?_, Drawn0.refl _⟩
  have q := len8_is z (by rw [len8_size]; exact hv)
  have hb := lenN_8 z hv
  unfold len8 at q
  rw [q]
  clear q e hv b0 b1 b2 e0 e1
  generalize lenN z = r at *
  rw [w64n (r : Int) (by omega), w64n _ (by omega)]
  omega
set_option maxHeartbeats 2000000 in
set_option maxRecDepth 100000 in
theorem len_111 (x y z t : Nat) (w : World) (b0 : decide (4294967296 ≤ (x : Int)) = true) (e0 : (x : Int) / 4294967296 = (y : Int)) (b1 : decide (65536 ≤ (y : Int)) = true) (e1 : (y : Int) / 65536 = (z : Int)) (b2 : decide (256 ≤ (z : Int)) = true) (e2 : (z : Int) / 256 = (t : Int)) (hv : t < 256) (e : (t : Int) % 256 = (t : Int)) :
    Calls Tryd.prog 34 #[.int .u64 (x : Int)] w fun e w' => e = .returned (.int .i64 ((56 + lenN t : Nat) : Int)) ∧ Drawn0 w w' := by
  go_enter Tryd.func34, Tryd.ntmps34
  go_wp2
  go_ret
  refine ⟨congrArg (fun z => Ending.returned (.int .i64 z)) ?_, Drawn0.refl _⟩
  have q := len8_is t (by rw [len8_size]; exact hv)
  have hb := lenN_8 t hv
  unfold len8 at q
  rw [q]
  clear q e hv b0 b1 b2 e0 e1 e2
  generalize lenN t = r at *
  rw [w64n (r : Int) (by omega), w64n _ (by omega)]
  omega
def bits_Len64.f (a0 : Int) : Option Int := if 0 ≤ a0 ∧ a0 < 18446744073709551616 then some ((lenN a0.toNat : Nat) : Int) else none
theorem bits_Len64.calls (a0 : Int) (r : Int) (w : World) (h : bits_Len64.f a0 = some r) :
    Calls Tryd.prog 34 #[.int .u64 a0] w fun e w' => e = .returned (.int .i64 r) ∧ Drawn0 w w' := by
  unfold bits_Len64.f at h
  split at h
  case isFalse => cases h
  rename_i h0
  obtain ⟨x, rfl⟩ := Int.eq_ofNat_of_zero_le h0.1
  rw [Int.toNat_natCast] at h
  obtain rfl := Option.some.inj h
  have hx : x < 18446744073709551616 := by omega
  clear h h0
  by_cases c0 : 4294967296 ≤ x
  · by_cases c1 : 65536 ≤ x / 4294967296
    · by_cases c2 : 256 ≤ x / 4294967296 / 65536
      · have ll : lenN x = 56 + lenN (((x / 4294967296) / 65536) / 256) := by
          rw [lenN_div x 32 (by omega), show (2 : Nat) ^ 32 = 4294967296 from rfl, lenN_div (x / 4294967296) 16 (by omega), show (2 : Nat) ^ 16 = 65536 from rfl, lenN_div ((x / 4294967296) / 65536) 8 (by omega), show (2 : Nat) ^ 8 = 256 from rfl]
          omega
        rw [ll]
        exact len_111 x (x / 4294967296) ((x / 4294967296) / 65536) (((x / 4294967296) / 65536) / 256) w (decide_eq_true (by omega)) (by omega) (decide_eq_true (by omega)) (by omega) (decide_eq_true (by omega)) (by omega) (by omega) (by omega)
      · have ll : lenN x = 48 + lenN ((x / 4294967296) / 65536) := by
          rw [lenN_div x 32 (by omega), show (2 : Nat) ^ 32 = 4294967296 from rfl, lenN_div (x / 4294967296) 16 (by omega), show (2 : Nat) ^ 16 = 65536 from rfl]
          omega
        rw [ll]
        exact len_110 x (x / 4294967296) ((x / 4294967296) / 65536) w (decide_eq_true (by omega)) (by omega) (decide_eq_true (by omega)) (by omega) (decide_eq_false (by omega)) (by omega) (by omega)
    · by_cases c2 : 256 ≤ x / 4294967296
      · have ll : lenN x = 40 + lenN ((x / 4294967296) / 256) := by
          rw [lenN_div x 32 (by omega), show (2 : Nat) ^ 32 = 4294967296 from rfl, lenN_div (x / 4294967296) 8 (by omega), show (2 : Nat) ^ 8 = 256 from rfl]
          omega
        rw [ll]
        exact len_101 x (x / 4294967296) ((x / 4294967296) / 256) w (decide_eq_true (by omega)) (by omega) (decide_eq_false (by omega)) (decide_eq_true (by omega)) (by omega) (by omega) (by omega)
      · have ll : lenN x = 32 + lenN (x / 4294967296) := by
          rw [lenN_div x 32 (by omega), show (2 : Nat) ^ 32 = 4294967296 from rfl]
        rw [ll]
        exact len_100 x (x / 4294967296) w (decide_eq_true (by omega)) (by omega) (decide_eq_false (by omega)) (decide_eq_false (by omega)) (by omega) (by omega)
  · by_cases c1 : 65536 ≤ x
    · by_cases c2 : 256 ≤ x / 65536
      · have ll : lenN x = 24 + lenN ((x / 65536) / 256) := by
          rw [lenN_div x 16 (by omega), show (2 : Nat) ^ 16 = 65536 from rfl, lenN_div (x / 65536) 8 (by omega), show (2 : Nat) ^ 8 = 256 from rfl]
          omega
        rw [ll]
        exact len_011 x (x / 65536) ((x / 65536) / 256) w (decide_eq_false (by omega)) (decide_eq_true (by omega)) (by omega) (decide_eq_true (by omega)) (by omega) (by omega) (by omega)
      · have ll : lenN x = 16 + lenN (x / 65536) := by
          rw [lenN_div x 16 (by omega), show (2 : Nat) ^ 16 = 65536 from rfl]
        rw [ll]
        exact len_010 x (x / 65536) w (decide_eq_false (by omega)) (decide_eq_true (by omega)) (by omega) (decide_eq_false (by omega)) (by omega) (by omega)
    · by_cases c2 : 256 ≤ x
      · have ll : lenN x = 8 + lenN (x / 256) := by
          rw [lenN_div x 8 (by omega), show (2 : Nat) ^ 8 = 256 from rfl]
        rw [ll]
        exact len_001 x (x / 256) w (decide_eq_false (by omega)) (decide_eq_false (by omega)) (decide_eq_true (by omega)) (by omega) (by omega) (by omega)
      · rw [show lenN x = 0 + lenN x by omega]
        exact len_000 x w (decide_eq_false (by omega)) (decide_eq_false (by omega)) (decide_eq_false (by omega)) (by omega) (by omega)

-- NOT PRINTED: function 29 (strconv_float32bits)

-- NOT PRINTED: function 30 (strconv_float64bits)

-- NOT PRINTED: function 37 (strconv_numDigits)

-- NOT PRINTED: function 55 (strconv_formatBase10)

/-! ### strconv_small: function 65 -/
/-! left out: the law never comes there -/

/-! ### strconv_isPowerOfTwo: function 71 -/
/-! left out: the law never comes there -/

-- NOT PRINTED: function 73 (bits_TrailingZeros32)

-- NOT PRINTED: function 74 (bits_TrailingZeros64)

-- NOT PRINTED: function 72 (bits_TrailingZeros)

-- NOT PRINTED: function 66 (strconv_formatBits)

-- NOT PRINTED: function 44 (strconv_AppendUint)

-- NOT PRINTED: function 45 (strconv_AppendInt)

-- NOT PRINTED: function 31 (strconv_fmtB)

/-! ### strconv_lower: function 46 -/
/-! left out: the law never comes there -/

/-! ### strconv_fmtX: function 32 -/
/-! left out: the law never comes there -/

end Go.Proofs.YtmgnffklmdhooaaDoor.PAll
