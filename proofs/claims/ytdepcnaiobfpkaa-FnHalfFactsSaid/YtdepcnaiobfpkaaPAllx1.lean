/- Printed by the kit's print.py, called for several laws at once: functions as plain Lean, and the walks' contracts. -/
import Derived.Test.YtdepcnaiobfpkaaPAllx0
namespace Go.Proofs.Ytdepcnaiobfpkaa.PAll
open Go.RowKit Go.Proofs.YtdepcnaiobfpkaaW.PrintWords Go.Proofs.YtdepcnaiobfpkaaW.PrintLast Go.Proofs.YtdepcnaiobfpkaaW.PrintMore
attribute [local go_sem] max2_int min2_int max_two min_two max_three min_three max_four min_four   -- for this text's walks alone
set_option linter.unusedVariables false
set_option linter.unusedSimpArgs false

/-! ### float16_NaN: function 29 -/
def float16_NaN.f  : Option (Int) := some 32257
set_option maxHeartbeats 8000000 in
set_option maxRecDepth 100000 in
theorem float16_NaN.calls  (r : Int) (w : World) (h : float16_NaN.f  = some r) :
    Calls Try.prog 29 #[] w fun e w' => e = .returned (.int .u16 r) ∧ Drawn0 w w' := by
  have H : (some 32257) = some r := h
  clear h
  obtain rfl := Option.some.inj H
  go_enter Try.func29, Try.ntmps29
  go_wp2
  go_ret
  exact ⟨by first | rfl | (simp; done) | (simp [*]; done), by repeat (first | exact Drawn0.refl _ | apply Drawn0.step)⟩


/-! ### float16_Float16_Bits: function 30 -/
def float16_Float16_Bits.f (a0 : Int) : Option (Int) := some a0
set_option maxHeartbeats 8000000 in
set_option maxRecDepth 100000 in
theorem float16_Float16_Bits.calls (a0 : Int) (r : Int) (w : World) (h : float16_Float16_Bits.f a0 = some r) :
    Calls Try.prog 30 #[.int .u16 a0] w fun e w' => e = .returned (.int .u16 r) ∧ Drawn0 w w' := by
  have H : (some a0) = some r := h
  clear h
  obtain rfl := Option.some.inj H
  go_enter Try.func30, Try.ntmps30
  go_wp2
  go_ret
  exact ⟨by first | rfl | (simp; done) | (simp [*]; done), by repeat (first | exact Drawn0.refl _ | apply Drawn0.step)⟩


/-! ### impl_HalfNaN: function 14 -/
def impl_HalfNaN.f  : Option (Int) := (float16_NaN.f).bind fun t101 => ((float16_Float16_Bits.f t101).bind fun t102 => (some t102))
set_option maxHeartbeats 8000000 in
set_option maxRecDepth 100000 in
theorem impl_HalfNaN.calls  (r : Int) (w : World) (h : impl_HalfNaN.f  = some r) :
    Calls Try.prog 14 #[] w fun e w' => e = .returned (.int .u16 r) ∧ Drawn0 w w' := by
  have H : ((float16_NaN.f).bind fun t101 => ((float16_Float16_Bits.f t101).bind fun t102 => (some t102))) = some r := h
  clear h
  replace H := Option.bind_eq_some_iff.mp H
  obtain ⟨t101, A10, H⟩ := H
  replace H : ((float16_Float16_Bits.f t101).bind fun t102 => (some t102)) = some r := H
  have A1 := Aside0.mk A10
  clear A10
  replace H := Option.bind_eq_some_iff.mp H
  obtain ⟨t102, A20, H⟩ := H
  replace H : (some t102) = some r := H
  have A2 := Aside0.mk A20
  clear A20
  obtain rfl := Option.some.inj H
  go_enter Try.func14, Try.ntmps14
  go_wp2_with (first | ((with_reducible refine gate_callee (f := 29) rfl ?_); refine goesL_ (some 1) rfl rfl Try.func29 (by kernel_rfl) rfl #[] rfl (by (try simp only [List.map_toArray, List.map_cons, List.map_nil]); first | done | rfl | (simp only [List.length_drop, List.length_take]; rfl)) ?_; (with_reducible refine (float16_NaN.calls  t101 _ A1.out).mono ?_); rintro e w' ⟨rfl, ⟨nd, rfl⟩⟩; refine ⟨_, rfl, ?_⟩) | ((with_reducible refine gate_callee (f := 30) rfl ?_); refine goesL_ (some 2) rfl rfl Try.func30 (by kernel_rfl) rfl #[.int .u16 t101] rfl (by (try simp only [List.map_toArray, List.map_cons, List.map_nil]); first | done | rfl | (simp only [List.length_drop, List.length_take]; rfl)) ?_; (with_reducible refine (float16_Float16_Bits.calls t101 t102 _ A2.out).mono ?_); rintro e w' ⟨rfl, ⟨nd, rfl⟩⟩; refine ⟨_, rfl, ?_⟩))
  go_ret
  exact ⟨by first | rfl | (simp; done) | (simp [*]; done), by repeat (first | exact Drawn0.refl _ | apply Drawn0.step)⟩


/-! ### float16_Inf: function 31 -/
def float16_Inf.f (a0 : Int) : Option (Int) := if a0 ≥ 0 then (some 31744) else (some 64512)
set_option maxHeartbeats 8000000 in
set_option maxRecDepth 100000 in
theorem float16_Inf.calls (a0 : Int) (r : Int) (w : World) (h : float16_Inf.f a0 = some r) :
    Calls Try.prog 31 #[.int .i64 a0] w fun e w' => e = .returned (.int .u16 r) ∧ Drawn0 w w' := by
  have H : (if a0 ≥ 0 then (some 31744) else (some 64512)) = some r := h
  clear h
  by_cases c2 : a0 ≥ 0
  · rw [if_pos c2] at H
    have c2b0 : decide (0 ≤ a0) = true := decide_eq_true c2
    clear c2
    obtain rfl := Option.some.inj H
    go_enter Try.func31, Try.ntmps31
    go_wp2
    go_ret
    exact ⟨by first | rfl | (simp; done) | (simp [*]; done), by repeat (first | exact Drawn0.refl _ | apply Drawn0.step)⟩
  · rw [if_neg c2] at H
    have c2b0 : decide (0 ≤ a0) = false := decide_eq_false c2
    clear c2
    obtain rfl := Option.some.inj H
    go_enter Try.func31, Try.ntmps31
    go_wp2
    go_ret
    exact ⟨by first | rfl | (simp; done) | (simp [*]; done), by repeat (first | exact Drawn0.refl _ | apply Drawn0.step)⟩


/-! ### impl_HalfInf: function 15 -/
def impl_HalfInf.f (a0 : Int) : Option (Int) := (float16_Inf.f a0).bind fun t103 => ((float16_Float16_Bits.f t103).bind fun t104 => (some t104))
set_option maxHeartbeats 8000000 in
set_option maxRecDepth 100000 in
theorem impl_HalfInf.calls (a0 : Int) (r : Int) (w : World) (h : impl_HalfInf.f a0 = some r) :
    Calls Try.prog 15 #[.int .i64 a0] w fun e w' => e = .returned (.int .u16 r) ∧ Drawn0 w w' := by
  have H : ((float16_Inf.f a0).bind fun t103 => ((float16_Float16_Bits.f t103).bind fun t104 => (some t104))) = some r := h
  clear h
  replace H := Option.bind_eq_some_iff.mp H
  obtain ⟨t103, A20, H⟩ := H
  replace H : ((float16_Float16_Bits.f t103).bind fun t104 => (some t104)) = some r := H
  have A2 := Aside0.mk A20
  clear A20
  replace H := Option.bind_eq_some_iff.mp H
  obtain ⟨t104, A30, H⟩ := H
  replace H : (some t104) = some r := H
  have A3 := Aside0.mk A30
  clear A30
  obtain rfl := Option.some.inj H
  go_enter Try.func15, Try.ntmps15
  go_wp2_with (first | ((with_reducible refine gate_callee (f := 31) rfl ?_); refine goesL_ (some 4) rfl rfl Try.func31 (by kernel_rfl) rfl #[.int .i64 a0] rfl (by (try simp only [List.map_toArray, List.map_cons, List.map_nil]); first | done | rfl | (simp only [List.length_drop, List.length_take]; rfl)) ?_; (with_reducible refine (float16_Inf.calls a0 t103 _ A2.out).mono ?_); rintro e w' ⟨rfl, ⟨nd, rfl⟩⟩; refine ⟨_, rfl, ?_⟩) | ((with_reducible refine gate_callee (f := 30) rfl ?_); refine goesL_ (some 5) rfl rfl Try.func30 (by kernel_rfl) rfl #[.int .u16 t103] rfl (by (try simp only [List.map_toArray, List.map_cons, List.map_nil]); first | done | rfl | (simp only [List.length_drop, List.length_take]; rfl)) ?_; (with_reducible refine (float16_Float16_Bits.calls t103 t104 _ A3.out).mono ?_); rintro e w' ⟨rfl, ⟨nd, rfl⟩⟩; refine ⟨_, rfl, ?_⟩))
  go_ret
  exact ⟨by first | rfl | (simp; done) | (simp [*]; done), by repeat (first | exact Drawn0.refl _ | apply Drawn0.step)⟩


/-! ### laws_FnHalfMade: function 3 -/
def laws_FnHalfMade.f (a0 : Int) : Option (Bool) := if a0 < 0 then ((impl_HalfNaN.f).bind fun t105 => (if t105 = 32257 then ((impl_HalfInf.f a0).bind fun t106 => (some (t106 == 64512))) else (some false))) else ((impl_HalfNaN.f).bind fun t107 => (if t107 = 32257 then ((impl_HalfInf.f a0).bind fun t108 => (some (t108 == 31744))) else (some false)))
set_option maxHeartbeats 8000000 in
set_option maxRecDepth 100000 in
theorem laws_FnHalfMade.calls (a0 : Int) (r : Bool) (w : World) (h : laws_FnHalfMade.f a0 = some r) :
    Calls Try.prog 3 #[.int .i64 a0] w fun e w' => e = .returned (.bool r) ∧ Drawn0 w w' := by
  have H : (if a0 < 0 then ((impl_HalfNaN.f).bind fun t105 => (if t105 = 32257 then ((impl_HalfInf.f a0).bind fun t106 => (some (t106 == 64512))) else (some false))) else ((impl_HalfNaN.f).bind fun t107 => (if t107 = 32257 then ((impl_HalfInf.f a0).bind fun t108 => (some (t108 == 31744))) else (some false)))) = some r := h
  clear h
  by_cases c2 : a0 < 0
  · rw [if_pos c2] at H
    have c2b0 : decide (a0 < 0) = true := decide_eq_true c2
    clear c2
    replace H := Option.bind_eq_some_iff.mp H
    obtain ⟨t105, A30, H⟩ := H
    replace H : (if t105 = 32257 then ((impl_HalfInf.f a0).bind fun t106 => (some (t106 == 64512))) else (some false)) = some r := H
    have A3 := Aside0.mk A30
    clear A30
    by_cases c4 : t105 = 32257
    · rw [if_pos c4] at H
      have c4b0 : (t105 == 32257) = true := beq_iff_eq.mpr c4
      have c4b1 : (t105 != 32257) = false := bne_eq_false_iff_eq.mpr c4
      clear c4
      replace H := Option.bind_eq_some_iff.mp H
      obtain ⟨t106, A50, H⟩ := H
      replace H : (some (t106 == 64512)) = some r := H
      have A5 := Aside0.mk A50
      clear A50
      obtain rfl := Option.some.inj H
      go_enter Try.func3, Try.ntmps3
      go_wp2_with (first | ((with_reducible refine gate_callee (f := 14) rfl ?_); refine goesL_ (some 6) rfl rfl Try.func14 (by kernel_rfl) rfl #[] rfl (by (try simp only [List.map_toArray, List.map_cons, List.map_nil]); first | done | rfl | (simp only [List.length_drop, List.length_take]; rfl)) ?_; (with_reducible refine (impl_HalfNaN.calls  t105 _ A3.out).mono ?_); rintro e w' ⟨rfl, ⟨nd, rfl⟩⟩; refine ⟨_, rfl, ?_⟩) | (go_at_call 15; (with_reducible refine (impl_HalfInf.calls a0 t106 _ A5.out).mono ?_); rintro e w' ⟨rfl, ⟨nd, rfl⟩⟩))
      go_ret
      exact ⟨by first | rfl | (simp; done) | (simp [*]; done), by repeat (first | exact Drawn0.refl _ | apply Drawn0.step)⟩
    · rw [if_neg c4] at H
      have c4b0 : (t105 == 32257) = false := beq_eq_false_iff_ne.mpr c4
      have c4b1 : (t105 != 32257) = true := bne_iff_ne.mpr c4
      obtain rfl := Option.some.inj H
      go_enter Try.func3, Try.ntmps3
      go_wp2_with (first | ((with_reducible refine gate_callee (f := 14) rfl ?_); refine goesL_ (some 6) rfl rfl Try.func14 (by kernel_rfl) rfl #[] rfl (by (try simp only [List.map_toArray, List.map_cons, List.map_nil]); first | done | rfl | (simp only [List.length_drop, List.length_take]; rfl)) ?_; (with_reducible refine (impl_HalfNaN.calls  t105 _ A3.out).mono ?_); rintro e w' ⟨rfl, ⟨nd, rfl⟩⟩; refine ⟨_, rfl, ?_⟩))
      go_ret
      exact ⟨by first | rfl | (simp; done) | (simp [*]; done), by repeat (first | exact Drawn0.refl _ | apply Drawn0.step)⟩
  · rw [if_neg c2] at H
    have c2b0 : decide (a0 < 0) = false := decide_eq_false c2
    clear c2
    replace H := Option.bind_eq_some_iff.mp H
    obtain ⟨t107, A60, H⟩ := H
    replace H : (if t107 = 32257 then ((impl_HalfInf.f a0).bind fun t108 => (some (t108 == 31744))) else (some false)) = some r := H
    have A6 := Aside0.mk A60
    clear A60
    by_cases c7 : t107 = 32257
    · rw [if_pos c7] at H
      have c7b0 : (t107 == 32257) = true := beq_iff_eq.mpr c7
      have c7b1 : (t107 != 32257) = false := bne_eq_false_iff_eq.mpr c7
      clear c7
      replace H := Option.bind_eq_some_iff.mp H
      obtain ⟨t108, A80, H⟩ := H
      replace H : (some (t108 == 31744)) = some r := H
      have A8 := Aside0.mk A80
      clear A80
      obtain rfl := Option.some.inj H
      go_enter Try.func3, Try.ntmps3
      go_wp2_with (first | ((with_reducible refine gate_callee (f := 14) rfl ?_); refine goesL_ (some 6) rfl rfl Try.func14 (by kernel_rfl) rfl #[] rfl (by (try simp only [List.map_toArray, List.map_cons, List.map_nil]); first | done | rfl | (simp only [List.length_drop, List.length_take]; rfl)) ?_; (with_reducible refine (impl_HalfNaN.calls  t107 _ A6.out).mono ?_); rintro e w' ⟨rfl, ⟨nd, rfl⟩⟩; refine ⟨_, rfl, ?_⟩) | (go_at_call 15; (with_reducible refine (impl_HalfInf.calls a0 t108 _ A8.out).mono ?_); rintro e w' ⟨rfl, ⟨nd, rfl⟩⟩))
      go_ret
      exact ⟨by first | rfl | (simp; done) | (simp [*]; done), by repeat (first | exact Drawn0.refl _ | apply Drawn0.step)⟩
    · rw [if_neg c7] at H
      have c7b0 : (t107 == 32257) = false := beq_eq_false_iff_ne.mpr c7
      have c7b1 : (t107 != 32257) = true := bne_iff_ne.mpr c7
      obtain rfl := Option.some.inj H
      go_enter Try.func3, Try.ntmps3
      go_wp2_with (first | ((with_reducible refine gate_callee (f := 14) rfl ?_); refine goesL_ (some 6) rfl rfl Try.func14 (by kernel_rfl) rfl #[] rfl (by (try simp only [List.map_toArray, List.map_cons, List.map_nil]); first | done | rfl | (simp only [List.length_drop, List.length_take]; rfl)) ?_; (with_reducible refine (impl_HalfNaN.calls  t107 _ A6.out).mono ?_); rintro e w' ⟨rfl, ⟨nd, rfl⟩⟩; refine ⟨_, rfl, ?_⟩))
      go_ret
      exact ⟨by first | rfl | (simp; done) | (simp [*]; done), by repeat (first | exact Drawn0.refl _ | apply Drawn0.step)⟩

/-- THE ONE PURE STATEMENT of laws_FnHalfMade: yours. -/
def laws_FnHalfMade.Pure : Prop := ∀ (a0 : Int), (Lit.int .i64 a0).wf = true → laws_FnHalfMade.f a0 = some true
theorem laws_FnHalfMade.walk (P : laws_FnHalfMade.Pure) (a0 : Int) (w : World) (w0 : (Lit.int .i64 a0).wf = true) :
    Calls Try.prog 3 #[.int .i64 a0] w fun e w' => e = .returned (.bool true) ∧ Below w.heap.size w w' := by
  have h := P a0 w0
  refine (laws_FnHalfMade.calls a0 true w h).mono ?_
  rintro e w' ⟨rfl, hd⟩
  exact ⟨rfl, hd.below⟩


/-! ### float16_Frombits: function 32 -/
def float16_Frombits.f (a0 : Int) : Option (Int) := some a0
set_option maxHeartbeats 8000000 in
set_option maxRecDepth 100000 in
theorem float16_Frombits.calls (a0 : Int) (r : Int) (w : World) (h : float16_Frombits.f a0 = some r) :
    Calls Try.prog 32 #[.int .u16 a0] w fun e w' => e = .returned (.int .u16 r) ∧ Drawn0 w w' := by
  have H : (some a0) = some r := h
  clear h
  obtain rfl := Option.some.inj H
  go_enter Try.func32, Try.ntmps32
  go_wp2
  go_ret
  exact ⟨by first | rfl | (simp; done) | (simp [*]; done), by repeat (first | exact Drawn0.refl _ | apply Drawn0.step)⟩


/-! ### float16_Float16_IsNaN: function 33 -/
def float16_Float16_IsNaN.f (a0 : Int) : Option (Bool) := if (Go.bits .and .u16 a0 31744) = 31744 then (some ((Go.bits .and .u16 a0 1023) != 0)) else (some false)
set_option maxHeartbeats 8000000 in
set_option maxRecDepth 100000 in
theorem float16_Float16_IsNaN.calls (a0 : Int) (r : Bool) (w : World) (h : float16_Float16_IsNaN.f a0 = some r) :
    Calls Try.prog 33 #[.int .u16 a0] w fun e w' => e = .returned (.bool r) ∧ Drawn0 w w' := by
  have H : (if (Go.bits .and .u16 a0 31744) = 31744 then (some ((Go.bits .and .u16 a0 1023) != 0)) else (some false)) = some r := h
  clear h
  by_cases c2 : (Go.bits .and .u16 a0 31744) = 31744
  · rw [if_pos c2] at H
    have c2b0 : ((Go.bits .and .u16 a0 31744) == 31744) = true := beq_iff_eq.mpr c2
    have c2b1 : ((Go.bits .and .u16 a0 31744) != 31744) = false := bne_eq_false_iff_eq.mpr c2
    clear c2
    obtain rfl := Option.some.inj H
    go_enter Try.func33, Try.ntmps33
    go_wp2
    go_ret
    exact ⟨by first | rfl | (simp; done) | (simp [*]; done), by repeat (first | exact Drawn0.refl _ | apply Drawn0.step)⟩
  · rw [if_neg c2] at H
    have c2b0 : ((Go.bits .and .u16 a0 31744) == 31744) = false := beq_eq_false_iff_ne.mpr c2
    have c2b1 : ((Go.bits .and .u16 a0 31744) != 31744) = true := bne_iff_ne.mpr c2
    obtain rfl := Option.some.inj H
    go_enter Try.func33, Try.ntmps33
    go_wp2
    go_ret
    exact ⟨by first | rfl | (simp; done) | (simp [*]; done), by repeat (first | exact Drawn0.refl _ | apply Drawn0.step)⟩


/-! ### float16_Float16_IsQuietNaN: function 34 -/
def float16_Float16_IsQuietNaN.f (a0 : Int) : Option (Bool) := if (Go.bits .and .u16 a0 31744) = 31744 then (if (Go.bits .and .u16 a0 1023) = 0 then (some false) else (some ((Go.bits .and .u16 a0 512) != 0))) else (some false)
set_option maxHeartbeats 8000000 in
set_option maxRecDepth 100000 in
theorem float16_Float16_IsQuietNaN.calls (a0 : Int) (r : Bool) (w : World) (h : float16_Float16_IsQuietNaN.f a0 = some r) :
    Calls Try.prog 34 #[.int .u16 a0] w fun e w' => e = .returned (.bool r) ∧ Drawn0 w w' := by
  have H : (if (Go.bits .and .u16 a0 31744) = 31744 then (if (Go.bits .and .u16 a0 1023) = 0 then (some false) else (some ((Go.bits .and .u16 a0 512) != 0))) else (some false)) = some r := h
  clear h
  by_cases c2 : (Go.bits .and .u16 a0 31744) = 31744
  · rw [if_pos c2] at H
    have c2b0 : ((Go.bits .and .u16 a0 31744) == 31744) = true := beq_iff_eq.mpr c2
    have c2b1 : ((Go.bits .and .u16 a0 31744) != 31744) = false := bne_eq_false_iff_eq.mpr c2
    clear c2
    by_cases c3 : (Go.bits .and .u16 a0 1023) = 0
    · rw [if_pos c3] at H
      have c3b0 : ((Go.bits .and .u16 a0 1023) == 0) = true := beq_iff_eq.mpr c3
      have c3b1 : ((Go.bits .and .u16 a0 1023) != 0) = false := bne_eq_false_iff_eq.mpr c3
      clear c3
      obtain rfl := Option.some.inj H
      go_enter Try.func34, Try.ntmps34
      go_wp2
      go_ret
      exact ⟨by first | rfl | (simp; done) | (simp [*]; done), by repeat (first | exact Drawn0.refl _ | apply Drawn0.step)⟩
    · rw [if_neg c3] at H
      have c3b0 : ((Go.bits .and .u16 a0 1023) == 0) = false := beq_eq_false_iff_ne.mpr c3
      have c3b1 : ((Go.bits .and .u16 a0 1023) != 0) = true := bne_iff_ne.mpr c3
      obtain rfl := Option.some.inj H
      go_enter Try.func34, Try.ntmps34
      go_wp2
      go_ret
      exact ⟨by first | rfl | (simp; done) | (simp [*]; done), by repeat (first | exact Drawn0.refl _ | apply Drawn0.step)⟩
  · rw [if_neg c2] at H
    have c2b0 : ((Go.bits .and .u16 a0 31744) == 31744) = false := beq_eq_false_iff_ne.mpr c2
    have c2b1 : ((Go.bits .and .u16 a0 31744) != 31744) = true := bne_iff_ne.mpr c2
    obtain rfl := Option.some.inj H
    go_enter Try.func34, Try.ntmps34
    go_wp2
    go_ret
    exact ⟨by first | rfl | (simp; done) | (simp [*]; done), by repeat (first | exact Drawn0.refl _ | apply Drawn0.step)⟩


/-! ### float16_Float16_IsInf: function 35 -/
def float16_Float16_IsInf.f (a0 : Int) (a1 : Int) : Option (Bool) := if a0 = 31744 then (if a1 ≥ 0 then (some true) else (if a0 = 64512 then (some (decide (a1 ≤ 0))) else (some false))) else (if a0 = 64512 then (some (decide (a1 ≤ 0))) else (some false))
set_option maxHeartbeats 8000000 in
set_option maxRecDepth 100000 in
theorem float16_Float16_IsInf.calls (a0 : Int) (a1 : Int) (r : Bool) (w : World) (h : float16_Float16_IsInf.f a0 a1 = some r) :
    Calls Try.prog 35 #[.int .u16 a0, .int .i64 a1] w fun e w' => e = .returned (.bool r) ∧ Drawn0 w w' := by
  have H : (if a0 = 31744 then (if a1 ≥ 0 then (some true) else (if a0 = 64512 then (some (decide (a1 ≤ 0))) else (some false))) else (if a0 = 64512 then (some (decide (a1 ≤ 0))) else (some false))) = some r := h
  clear h
  by_cases c3 : a0 = 31744
  · rw [if_pos c3] at H
    have c3b0 : (a0 == 31744) = true := beq_iff_eq.mpr c3
    have c3b1 : (a0 != 31744) = false := bne_eq_false_iff_eq.mpr c3
    clear c3
    by_cases c4 : a1 ≥ 0
    · rw [if_pos c4] at H
      have c4b0 : decide (0 ≤ a1) = true := decide_eq_true c4
      clear c4
      obtain rfl := Option.some.inj H
      go_enter Try.func35, Try.ntmps35
      go_wp2
      go_ret
      exact ⟨by first | rfl | (simp; done) | (simp [*]; done), by repeat (first | exact Drawn0.refl _ | apply Drawn0.step)⟩
    · rw [if_neg c4] at H
      have c4b0 : decide (0 ≤ a1) = false := decide_eq_false c4
      clear c4
      by_cases c5 : a0 = 64512
      · rw [if_pos c5] at H
        have c5b0 : (a0 == 64512) = true := beq_iff_eq.mpr c5
        have c5b1 : (a0 != 64512) = false := bne_eq_false_iff_eq.mpr c5
        clear c5
        obtain rfl := Option.some.inj H
        go_enter Try.func35, Try.ntmps35
        go_wp2
        go_ret
        exact ⟨by first | rfl | (simp; done) | (simp [*]; done), by repeat (first | exact Drawn0.refl _ | apply Drawn0.step)⟩
      · rw [if_neg c5] at H
        have c5b0 : (a0 == 64512) = false := beq_eq_false_iff_ne.mpr c5
        have c5b1 : (a0 != 64512) = true := bne_iff_ne.mpr c5
        obtain rfl := Option.some.inj H
        go_enter Try.func35, Try.ntmps35
        go_wp2
        go_ret
        exact ⟨by first | rfl | (simp; done) | (simp [*]; done), by repeat (first | exact Drawn0.refl _ | apply Drawn0.step)⟩
  · rw [if_neg c3] at H
    have c3b0 : (a0 == 31744) = false := beq_eq_false_iff_ne.mpr c3
    have c3b1 : (a0 != 31744) = true := bne_iff_ne.mpr c3
    by_cases c6 : a0 = 64512
    · rw [if_pos c6] at H
      have c6b0 : (a0 == 64512) = true := beq_iff_eq.mpr c6
      have c6b1 : (a0 != 64512) = false := bne_eq_false_iff_eq.mpr c6
      clear c6
      obtain rfl := Option.some.inj H
      go_enter Try.func35, Try.ntmps35
      go_wp2
      go_ret
      exact ⟨by first | rfl | (simp; done) | (simp [*]; done), by repeat (first | exact Drawn0.refl _ | apply Drawn0.step)⟩
    · rw [if_neg c6] at H
      have c6b0 : (a0 == 64512) = false := beq_eq_false_iff_ne.mpr c6
      have c6b1 : (a0 != 64512) = true := bne_iff_ne.mpr c6
      obtain rfl := Option.some.inj H
      go_enter Try.func35, Try.ntmps35
      go_wp2
      go_ret
      exact ⟨by first | rfl | (simp; done) | (simp [*]; done), by repeat (first | exact Drawn0.refl _ | apply Drawn0.step)⟩


/-! ### float16_Float16_IsFinite: function 36 -/
def float16_Float16_IsFinite.f (a0 : Int) : Option (Bool) := some ((Go.bits .and .u16 a0 31744) != 31744)
set_option maxHeartbeats 8000000 in
set_option maxRecDepth 100000 in
theorem float16_Float16_IsFinite.calls (a0 : Int) (r : Bool) (w : World) (h : float16_Float16_IsFinite.f a0 = some r) :
    Calls Try.prog 36 #[.int .u16 a0] w fun e w' => e = .returned (.bool r) ∧ Drawn0 w w' := by
  have H : (some ((Go.bits .and .u16 a0 31744) != 31744)) = some r := h
  clear h
  obtain rfl := Option.some.inj H
  go_enter Try.func36, Try.ntmps36
  go_wp2
  go_ret
  exact ⟨by first | rfl | (simp; done) | (simp [*]; done), by repeat (first | exact Drawn0.refl _ | apply Drawn0.step)⟩


/-! ### float16_Float16_IsNormal: function 37 -/
def float16_Float16_IsNormal.f (a0 : Int) : Option (Bool) := if (Go.bits .and .u16 a0 31744) = 31744 then (some false) else (some ((Go.bits .and .u16 a0 31744) != 0))
set_option maxHeartbeats 8000000 in
set_option maxRecDepth 100000 in
theorem float16_Float16_IsNormal.calls (a0 : Int) (r : Bool) (w : World) (h : float16_Float16_IsNormal.f a0 = some r) :
    Calls Try.prog 37 #[.int .u16 a0] w fun e w' => e = .returned (.bool r) ∧ Drawn0 w w' := by
  have H : (if (Go.bits .and .u16 a0 31744) = 31744 then (some false) else (some ((Go.bits .and .u16 a0 31744) != 0))) = some r := h
  clear h
  by_cases c2 : (Go.bits .and .u16 a0 31744) = 31744
  · rw [if_pos c2] at H
    have c2b0 : ((Go.bits .and .u16 a0 31744) == 31744) = true := beq_iff_eq.mpr c2
    have c2b1 : ((Go.bits .and .u16 a0 31744) != 31744) = false := bne_eq_false_iff_eq.mpr c2
    clear c2
    obtain rfl := Option.some.inj H
    go_enter Try.func37, Try.ntmps37
    go_wp2
    go_ret
    exact ⟨by first | rfl | (simp; done) | (simp [*]; done), by repeat (first | exact Drawn0.refl _ | apply Drawn0.step)⟩
  · rw [if_neg c2] at H
    have c2b0 : ((Go.bits .and .u16 a0 31744) == 31744) = false := beq_eq_false_iff_ne.mpr c2
    have c2b1 : ((Go.bits .and .u16 a0 31744) != 31744) = true := bne_iff_ne.mpr c2
    obtain rfl := Option.some.inj H
    go_enter Try.func37, Try.ntmps37
    go_wp2
    go_ret
    exact ⟨by first | rfl | (simp; done) | (simp [*]; done), by repeat (first | exact Drawn0.refl _ | apply Drawn0.step)⟩


/-! ### float16_Float16_Signbit: function 38 -/
def float16_Float16_Signbit.f (a0 : Int) : Option (Bool) := some ((Go.bits .and .u16 a0 32768) != 0)
set_option maxHeartbeats 8000000 in
set_option maxRecDepth 100000 in
theorem float16_Float16_Signbit.calls (a0 : Int) (r : Bool) (w : World) (h : float16_Float16_Signbit.f a0 = some r) :
    Calls Try.prog 38 #[.int .u16 a0] w fun e w' => e = .returned (.bool r) ∧ Drawn0 w w' := by
  have H : (some ((Go.bits .and .u16 a0 32768) != 0)) = some r := h
  clear h
  obtain rfl := Option.some.inj H
  go_enter Try.func38, Try.ntmps38
  go_wp2
  go_ret
  exact ⟨by first | rfl | (simp; done) | (simp [*]; done), by repeat (first | exact Drawn0.refl _ | apply Drawn0.step)⟩


/-! ### impl_HalfFacts: function 16 -/
def impl_HalfFacts.f (a0 : Int) (a1 : Int) : Option (Bool × Bool × Bool × Bool × Bool × Bool × Int) := (float16_Frombits.f a0).bind fun t110 => ((float16_Float16_IsNaN.f t110).bind fun t111 => ((float16_Float16_IsQuietNaN.f t110).bind fun t112 => ((float16_Float16_IsInf.f t110 a1).bind fun t113 => ((float16_Float16_IsFinite.f t110).bind fun t114 => ((float16_Float16_IsNormal.f t110).bind fun t115 => ((float16_Float16_Signbit.f t110).bind fun t116 => ((float16_Float16_Bits.f t110).bind fun t117 => (some (t111, t112, t113, t114, t115, t116, t117)))))))))
set_option maxHeartbeats 8000000 in
set_option maxRecDepth 100000 in
theorem impl_HalfFacts.calls (a0 : Int) (a1 : Int) (r1 : Bool) (r2 : Bool) (r3 : Bool) (r4 : Bool) (r5 : Bool) (r6 : Bool) (r7 : Int) (w : World) (h : impl_HalfFacts.f a0 a1 = some (r1, r2, r3, r4, r5, r6, r7)) :
    Calls Try.prog 16 #[.int .u16 a0, .int .i64 a1] w fun e w' => e = .returned (.agg #[.bool r1, .bool r2, .bool r3, .bool r4, .bool r5, .bool r6, .int .u16 r7]) ∧ Below w.heap.size w w' := by
  have hu27 := Try.underlying27
  have HB := Aside0.mk (Below.refl w.heap.size w)
  have H : ((float16_Frombits.f a0).bind fun t110 => ((float16_Float16_IsNaN.f t110).bind fun t111 => ((float16_Float16_IsQuietNaN.f t110).bind fun t112 => ((float16_Float16_IsInf.f t110 a1).bind fun t113 => ((float16_Float16_IsFinite.f t110).bind fun t114 => ((float16_Float16_IsNormal.f t110).bind fun t115 => ((float16_Float16_Signbit.f t110).bind fun t116 => ((float16_Float16_Bits.f t110).bind fun t117 => (some (t111, t112, t113, t114, t115, t116, t117)))))))))) = some (r1, r2, r3, r4, r5, r6, r7) := h
  clear h
  replace H := Option.bind_eq_some_iff.mp H
  obtain ⟨t110, A30, H⟩ := H
  replace H : ((float16_Float16_IsNaN.f t110).bind fun t111 => ((float16_Float16_IsQuietNaN.f t110).bind fun t112 => ((float16_Float16_IsInf.f t110 a1).bind fun t113 => ((float16_Float16_IsFinite.f t110).bind fun t114 => ((float16_Float16_IsNormal.f t110).bind fun t115 => ((float16_Float16_Signbit.f t110).bind fun t116 => ((float16_Float16_Bits.f t110).bind fun t117 => (some (t111, t112, t113, t114, t115, t116, t117))))))))) = some (r1, r2, r3, r4, r5, r6, r7) := H
  have A3 := Aside0.mk A30
  clear A30
  replace H := Option.bind_eq_some_iff.mp H
  obtain ⟨t111, A40, H⟩ := H
  replace H : ((float16_Float16_IsQuietNaN.f t110).bind fun t112 => ((float16_Float16_IsInf.f t110 a1).bind fun t113 => ((float16_Float16_IsFinite.f t110).bind fun t114 => ((float16_Float16_IsNormal.f t110).bind fun t115 => ((float16_Float16_Signbit.f t110).bind fun t116 => ((float16_Float16_Bits.f t110).bind fun t117 => (some (t111, t112, t113, t114, t115, t116, t117)))))))) = some (r1, r2, r3, r4, r5, r6, r7) := H
  have A4 := Aside0.mk A40
  clear A40
  replace H := Option.bind_eq_some_iff.mp H
  obtain ⟨t112, A50, H⟩ := H
  replace H : ((float16_Float16_IsInf.f t110 a1).bind fun t113 => ((float16_Float16_IsFinite.f t110).bind fun t114 => ((float16_Float16_IsNormal.f t110).bind fun t115 => ((float16_Float16_Signbit.f t110).bind fun t116 => ((float16_Float16_Bits.f t110).bind fun t117 => (some (t111, t112, t113, t114, t115, t116, t117))))))) = some (r1, r2, r3, r4, r5, r6, r7) := H
  have A5 := Aside0.mk A50
  clear A50
  replace H := Option.bind_eq_some_iff.mp H
  obtain ⟨t113, A60, H⟩ := H
  replace H : ((float16_Float16_IsFinite.f t110).bind fun t114 => ((float16_Float16_IsNormal.f t110).bind fun t115 => ((float16_Float16_Signbit.f t110).bind fun t116 => ((float16_Float16_Bits.f t110).bind fun t117 => (some (t111, t112, t113, t114, t115, t116, t117)))))) = some (r1, r2, r3, r4, r5, r6, r7) := H
  have A6 := Aside0.mk A60
  clear A60
  replace H := Option.bind_eq_some_iff.mp H
  obtain ⟨t114, A70, H⟩ := H
  replace H : ((float16_Float16_IsNormal.f t110).bind fun t115 => ((float16_Float16_Signbit.f t110).bind fun t116 => ((float16_Float16_Bits.f t110).bind fun t117 => (some (t111, t112, t113, t114, t115, t116, t117))))) = some (r1, r2, r3, r4, r5, r6, r7) := H
  have A7 := Aside0.mk A70
  clear A70
  replace H := Option.bind_eq_some_iff.mp H
  obtain ⟨t115, A80, H⟩ := H
  replace H : ((float16_Float16_Signbit.f t110).bind fun t116 => ((float16_Float16_Bits.f t110).bind fun t117 => (some (t111, t112, t113, t114, t115, t116, t117)))) = some (r1, r2, r3, r4, r5, r6, r7) := H
  have A8 := Aside0.mk A80
  clear A80
  replace H := Option.bind_eq_some_iff.mp H
  obtain ⟨t116, A90, H⟩ := H
  replace H : ((float16_Float16_Bits.f t110).bind fun t117 => (some (t111, t112, t113, t114, t115, t116, t117))) = some (r1, r2, r3, r4, r5, r6, r7) := H
  have A9 := Aside0.mk A90
  clear A90
  replace H := Option.bind_eq_some_iff.mp H
  obtain ⟨t117, A100, H⟩ := H
  replace H : (some (t111, t112, t113, t114, t115, t116, t117)) = some (r1, r2, r3, r4, r5, r6, r7) := H
  have A10 := Aside0.mk A100
  clear A100
  simp only [Option.some.injEq, Prod.mk.injEq] at H
  obtain ⟨rfl, rfl, rfl, rfl, rfl, rfl, rfl⟩ := H
  go_enter Try.func16, Try.ntmps16
  go_wp2_with (first | ((with_reducible refine gate_dst (N := 4) rfl ?_); refine box_event ?hg (N := 4) ?hd (cs := #[.bool false, .bool false, .bool false, .bool false, .bool false, .bool false, .int .u16 0]) (t := 27) ?hr ?_; (case hd => rfl); (case hg => rfl); (case hr => first | (go_simp; done) | (go_simp; rfl)); intro gb109 hg w11 hbox hb; have n0_ := Aside0.mk (below_step (by repeat (first | (with_reducible first | exact HB.out | apply below_alloc | apply pw_below_drewN | apply below_drew1) | exact HB.out)) hb); have n1_ := Aside0.mk (hbox); have n2_ := Aside0.mk ((by rw [hg]; exact (below_size (by repeat (first | (with_reducible first | exact HB.out | apply below_alloc | apply pw_below_drewN | apply below_drew1) | exact HB.out))) : w.heap.size ≤ gb109)); have n3_ := Aside0.mk ((by rw [hg]; exact (below_size (by repeat (first | (with_reducible first | exact HB.out | apply below_alloc | apply pw_below_drewN | apply below_drew1) | exact HB.out))) : w.heap.size ≤ gb109)); clear HB; have HB := n0_; have BK109 := n1_; have GW109 := n2_; have GE109 := n3_; clear n0_ n1_ n2_ n3_; clear hb hbox hg) | ((with_reducible refine gate_callee (f := 32) rfl ?_); refine goesL_ (some 7) rfl rfl Try.func32 (by kernel_rfl) rfl #[.int .u16 a0] rfl (by (try simp only [List.map_toArray, List.map_cons, List.map_nil]); first | done | rfl | (simp only [List.length_drop, List.length_take]; rfl)) ?_; (with_reducible refine (float16_Frombits.calls a0 t110 _ A3.out).mono ?_); rintro e w' ⟨rfl, ⟨nd, rfl⟩⟩; refine ⟨_, rfl, ?_⟩; (try (rw [drewN_self w11]; generalize hq_ : World.drewN w11 _ = w11; have n0_ : Aside0 (w11.heap[gb109]? = some (.cells #[.bool false, .bool false, .bool false, .bool false, .bool false, .bool false, .int .u16 0] 27 (0, 0))) := ⟨by rw [← hq_]; exact (by (with_reducible repeat (first | refine blk_drewN ?_ _ | refine blk_drew ?_ | refine blk_alloc ?_ _)); exact BK109.out)⟩; have n1_ : Aside0 (Below w.heap.size w w11) := ⟨by rw [← hq_]; exact (by repeat (first | (with_reducible first | exact HB.out | apply below_alloc | apply pw_below_drewN | apply below_drew1 | refine below_set ?_ GE109.out) | exact HB.out))⟩; clear BK109 HB hq_; have BK109 := n0_; have HB := n1_; clear n0_ n1_))) | ((with_reducible refine gate_callee (f := 33) rfl ?_); refine goesL_ (some 9) rfl rfl Try.func33 (by kernel_rfl) rfl #[.int .u16 t110] rfl (by (try simp only [List.map_toArray, List.map_cons, List.map_nil]); first | done | rfl | (simp only [List.length_drop, List.length_take]; rfl)) ?_; (with_reducible refine (float16_Float16_IsNaN.calls t110 t111 _ A4.out).mono ?_); rintro e w' ⟨rfl, ⟨nd, rfl⟩⟩; refine ⟨_, rfl, ?_⟩; (try (rw [drewN_self w11]; generalize hq_ : World.drewN w11 _ = w11; have n0_ : Aside0 (w11.heap[gb109]? = some (.cells #[.bool false, .bool false, .bool false, .bool false, .bool false, .bool false, .int .u16 0] 27 (0, 0))) := ⟨by rw [← hq_]; exact (by (with_reducible repeat (first | refine blk_drewN ?_ _ | refine blk_drew ?_ | refine blk_alloc ?_ _)); exact BK109.out)⟩; have n1_ : Aside0 (Below w.heap.size w w11) := ⟨by rw [← hq_]; exact (by repeat (first | (with_reducible first | exact HB.out | apply below_alloc | apply pw_below_drewN | apply below_drew1 | refine below_set ?_ GE109.out) | exact HB.out))⟩; clear BK109 HB hq_; have BK109 := n0_; have HB := n1_; clear n0_ n1_))) | ((with_reducible refine gate_callee (f := 34) rfl ?_); refine goesL_ (some 11) rfl rfl Try.func34 (by kernel_rfl) rfl #[.int .u16 t110] rfl (by (try simp only [List.map_toArray, List.map_cons, List.map_nil]); first | done | rfl | (simp only [List.length_drop, List.length_take]; rfl)) ?_; (with_reducible refine (float16_Float16_IsQuietNaN.calls t110 t112 _ A5.out).mono ?_); rintro e w' ⟨rfl, ⟨nd, rfl⟩⟩; refine ⟨_, rfl, ?_⟩; (try (rw [drewN_self w11]; generalize hq_ : World.drewN w11 _ = w11; have n0_ : Aside0 (w11.heap[gb109]? = some (.cells #[.bool false, .bool false, .bool false, .bool false, .bool false, .bool false, .int .u16 0] 27 (0, 0))) := ⟨by rw [← hq_]; exact (by (with_reducible repeat (first | refine blk_drewN ?_ _ | refine blk_drew ?_ | refine blk_alloc ?_ _)); exact BK109.out)⟩; have n1_ : Aside0 (Below w.heap.size w w11) := ⟨by rw [← hq_]; exact (by repeat (first | (with_reducible first | exact HB.out | apply below_alloc | apply pw_below_drewN | apply below_drew1 | refine below_set ?_ GE109.out) | exact HB.out))⟩; clear BK109 HB hq_; have BK109 := n0_; have HB := n1_; clear n0_ n1_))) | ((with_reducible refine gate_callee (f := 35) rfl ?_); refine goesL_ (some 14) rfl rfl Try.func35 (by kernel_rfl) rfl #[.int .u16 t110, .int .i64 a1] rfl (by (try simp only [List.map_toArray, List.map_cons, List.map_nil]); first | done | rfl | (simp only [List.length_drop, List.length_take]; rfl)) ?_; (with_reducible refine (float16_Float16_IsInf.calls t110 a1 t113 _ A6.out).mono ?_); rintro e w' ⟨rfl, ⟨nd, rfl⟩⟩; refine ⟨_, rfl, ?_⟩; (try (rw [drewN_self w11]; generalize hq_ : World.drewN w11 _ = w11; have n0_ : Aside0 (w11.heap[gb109]? = some (.cells #[.bool false, .bool false, .bool false, .bool false, .bool false, .bool false, .int .u16 0] 27 (0, 0))) := ⟨by rw [← hq_]; exact (by (with_reducible repeat (first | refine blk_drewN ?_ _ | refine blk_drew ?_ | refine blk_alloc ?_ _)); exact BK109.out)⟩; have n1_ : Aside0 (Below w.heap.size w w11) := ⟨by rw [← hq_]; exact (by repeat (first | (with_reducible first | exact HB.out | apply below_alloc | apply pw_below_drewN | apply below_drew1 | refine below_set ?_ GE109.out) | exact HB.out))⟩; clear BK109 HB hq_; have BK109 := n0_; have HB := n1_; clear n0_ n1_))) | ((with_reducible refine gate_callee (f := 36) rfl ?_); refine goesL_ (some 16) rfl rfl Try.func36 (by kernel_rfl) rfl #[.int .u16 t110] rfl (by (try simp only [List.map_toArray, List.map_cons, List.map_nil]); first | done | rfl | (simp only [List.length_drop, List.length_take]; rfl)) ?_; (with_reducible refine (float16_Float16_IsFinite.calls t110 t114 _ A7.out).mono ?_); rintro e w' ⟨rfl, ⟨nd, rfl⟩⟩; refine ⟨_, rfl, ?_⟩; (try (rw [drewN_self w11]; generalize hq_ : World.drewN w11 _ = w11; have n0_ : Aside0 (w11.heap[gb109]? = some (.cells #[.bool false, .bool false, .bool false, .bool false, .bool false, .bool false, .int .u16 0] 27 (0, 0))) := ⟨by rw [← hq_]; exact (by (with_reducible repeat (first | refine blk_drewN ?_ _ | refine blk_drew ?_ | refine blk_alloc ?_ _)); exact BK109.out)⟩; have n1_ : Aside0 (Below w.heap.size w w11) := ⟨by rw [← hq_]; exact (by repeat (first | (with_reducible first | exact HB.out | apply below_alloc | apply pw_below_drewN | apply below_drew1 | refine below_set ?_ GE109.out) | exact HB.out))⟩; clear BK109 HB hq_; have BK109 := n0_; have HB := n1_; clear n0_ n1_))) | ((with_reducible refine gate_callee (f := 37) rfl ?_); refine goesL_ (some 18) rfl rfl Try.func37 (by kernel_rfl) rfl #[.int .u16 t110] rfl (by (try simp only [List.map_toArray, List.map_cons, List.map_nil]); first | done | rfl | (simp only [List.length_drop, List.length_take]; rfl)) ?_; (with_reducible refine (float16_Float16_IsNormal.calls t110 t115 _ A8.out).mono ?_); rintro e w' ⟨rfl, ⟨nd, rfl⟩⟩; refine ⟨_, rfl, ?_⟩; (try (rw [drewN_self w11]; generalize hq_ : World.drewN w11 _ = w11; have n0_ : Aside0 (w11.heap[gb109]? = some (.cells #[.bool false, .bool false, .bool false, .bool false, .bool false, .bool false, .int .u16 0] 27 (0, 0))) := ⟨by rw [← hq_]; exact (by (with_reducible repeat (first | refine blk_drewN ?_ _ | refine blk_drew ?_ | refine blk_alloc ?_ _)); exact BK109.out)⟩; have n1_ : Aside0 (Below w.heap.size w w11) := ⟨by rw [← hq_]; exact (by repeat (first | (with_reducible first | exact HB.out | apply below_alloc | apply pw_below_drewN | apply below_drew1 | refine below_set ?_ GE109.out) | exact HB.out))⟩; clear BK109 HB hq_; have BK109 := n0_; have HB := n1_; clear n0_ n1_))) | ((with_reducible refine gate_callee (f := 38) rfl ?_); refine goesL_ (some 20) rfl rfl Try.func38 (by kernel_rfl) rfl #[.int .u16 t110] rfl (by (try simp only [List.map_toArray, List.map_cons, List.map_nil]); first | done | rfl | (simp only [List.length_drop, List.length_take]; rfl)) ?_; (with_reducible refine (float16_Float16_Signbit.calls t110 t116 _ A9.out).mono ?_); rintro e w' ⟨rfl, ⟨nd, rfl⟩⟩; refine ⟨_, rfl, ?_⟩; (try (rw [drewN_self w11]; generalize hq_ : World.drewN w11 _ = w11; have n0_ : Aside0 (w11.heap[gb109]? = some (.cells #[.bool false, .bool false, .bool false, .bool false, .bool false, .bool false, .int .u16 0] 27 (0, 0))) := ⟨by rw [← hq_]; exact (by (with_reducible repeat (first | refine blk_drewN ?_ _ | refine blk_drew ?_ | refine blk_alloc ?_ _)); exact BK109.out)⟩; have n1_ : Aside0 (Below w.heap.size w w11) := ⟨by rw [← hq_]; exact (by repeat (first | (with_reducible first | exact HB.out | apply below_alloc | apply pw_below_drewN | apply below_drew1 | refine below_set ?_ GE109.out) | exact HB.out))⟩; clear BK109 HB hq_; have BK109 := n0_; have HB := n1_; clear n0_ n1_))) | ((with_reducible refine gate_callee (f := 30) rfl ?_); refine goesL_ (some 22) rfl rfl Try.func30 (by kernel_rfl) rfl #[.int .u16 t110] rfl (by (try simp only [List.map_toArray, List.map_cons, List.map_nil]); first | done | rfl | (simp only [List.length_drop, List.length_take]; rfl)) ?_; (with_reducible refine (float16_Float16_Bits.calls t110 t117 _ A10.out).mono ?_); rintro e w' ⟨rfl, ⟨nd, rfl⟩⟩; refine ⟨_, rfl, ?_⟩; (try (rw [drewN_self w11]; generalize hq_ : World.drewN w11 _ = w11; have n0_ : Aside0 (w11.heap[gb109]? = some (.cells #[.bool false, .bool false, .bool false, .bool false, .bool false, .bool false, .int .u16 0] 27 (0, 0))) := ⟨by rw [← hq_]; exact (by (with_reducible repeat (first | refine blk_drewN ?_ _ | refine blk_drew ?_ | refine blk_alloc ?_ _)); exact BK109.out)⟩; have n1_ : Aside0 (Below w.heap.size w w11) := ⟨by rw [← hq_]; exact (by repeat (first | (with_reducible first | exact HB.out | apply below_alloc | apply pw_below_drewN | apply below_drew1 | refine below_set ?_ GE109.out) | exact HB.out))⟩; clear BK109 HB hq_; have BK109 := n0_; have HB := n1_; clear n0_ n1_)); have hcz12_0 : w11.cell? ⟨gb109, 0, none⟩ = some (.bool false) := (blk_cell BK109.out 0).trans rfl; have hcz12_1 : w11.cell? ⟨gb109, 1, none⟩ = some (.bool false) := (blk_cell BK109.out 1).trans rfl; have hcz12_2 : w11.cell? ⟨gb109, 2, none⟩ = some (.bool false) := (blk_cell BK109.out 2).trans rfl; have hcz12_3 : w11.cell? ⟨gb109, 3, none⟩ = some (.bool false) := (blk_cell BK109.out 3).trans rfl; have hcz12_4 : w11.cell? ⟨gb109, 4, none⟩ = some (.bool false) := (blk_cell BK109.out 4).trans rfl; have hcz12_5 : w11.cell? ⟨gb109, 5, none⟩ = some (.bool false) := (blk_cell BK109.out 5).trans rfl; have hcz12_6 : w11.cell? ⟨gb109, 6, none⟩ = some (.int .u16 0) := (blk_cell BK109.out 6).trans rfl; have hfz12_0 := blk_frozen BK109.out 0; have hfz12_1 := blk_frozen BK109.out 1; have hfz12_2 := blk_frozen BK109.out 2; have hfz12_3 := blk_frozen BK109.out 3; have hfz12_4 := blk_frozen BK109.out 4; have hfz12_5 := blk_frozen BK109.out 5; have hfz12_6 := blk_frozen BK109.out 6))
  refine bodyPost_ret (results_cell_row rfl _ _ gb109 27 #[.bool t111, .bool t112, .bool t113, .bool t114, .bool t115, .bool t116, .int .u16 t117] (0, 0) _ rfl (by (with_reducible repeat (first | refine blk_drewN ?_ _ | refine blk_drew ?_ | refine blk_alloc ?_ _)); refine blk_put (cs := #[.bool t111, .bool t112, .bool t113, .bool t114, .bool t115, .bool t116, .int .u16 0]) ?_ 6 _ rfl; (with_reducible repeat (first | refine blk_drewN ?_ _ | refine blk_drew ?_ | refine blk_alloc ?_ _)); refine blk_put (cs := #[.bool t111, .bool t112, .bool t113, .bool t114, .bool t115, .bool false, .int .u16 0]) ?_ 5 _ rfl; (with_reducible repeat (first | refine blk_drewN ?_ _ | refine blk_drew ?_ | refine blk_alloc ?_ _)); refine blk_put (cs := #[.bool t111, .bool t112, .bool t113, .bool t114, .bool false, .bool false, .int .u16 0]) ?_ 4 _ rfl; (with_reducible repeat (first | refine blk_drewN ?_ _ | refine blk_drew ?_ | refine blk_alloc ?_ _)); refine blk_put (cs := #[.bool t111, .bool t112, .bool t113, .bool false, .bool false, .bool false, .int .u16 0]) ?_ 3 _ rfl; (with_reducible repeat (first | refine blk_drewN ?_ _ | refine blk_drew ?_ | refine blk_alloc ?_ _)); refine blk_put (cs := #[.bool t111, .bool t112, .bool false, .bool false, .bool false, .bool false, .int .u16 0]) ?_ 2 _ rfl; (with_reducible repeat (first | refine blk_drewN ?_ _ | refine blk_drew ?_ | refine blk_alloc ?_ _)); refine blk_put (cs := #[.bool t111, .bool false, .bool false, .bool false, .bool false, .bool false, .int .u16 0]) ?_ 1 _ rfl; (with_reducible repeat (first | refine blk_drewN ?_ _ | refine blk_drew ?_ | refine blk_alloc ?_ _)); refine blk_put (cs := #[.bool false, .bool false, .bool false, .bool false, .bool false, .bool false, .int .u16 0]) ?_ 0 _ rfl; (with_reducible repeat (first | refine blk_drewN ?_ _ | refine blk_drew ?_ | refine blk_alloc ?_ _)); exact BK109.out) Try.underlying27 rfl (by kernel_rfl)) rfl ?_
  exact ⟨by first | rfl | (simp [errW_none, errW_some] <;> rfl) | (simp [*, errW_none, errW_some] <;> rfl), by repeat (first | (with_reducible first | exact HB.out | apply below_alloc | apply pw_below_drewN | apply below_drew1 | refine below_set ?_ GE109.out) | exact HB.out)⟩


/-! ### spec_HalfKind: function 17 -/
def spec_HalfKind.f (a0 : Int) : Option (Int) := if (Go.bits .and .u16 (a0 / 1024) 31) = 31 then (if (Go.bits .and .u16 a0 1023) = 0 then (some 1) else (some 2)) else (some 0)
set_option maxHeartbeats 8000000 in
set_option maxRecDepth 100000 in
theorem spec_HalfKind.calls (a0 : Int) (r : Int) (w : World) (h : spec_HalfKind.f a0 = some r) :
    Calls Try.prog 17 #[.int .u16 a0] w fun e w' => e = .returned (.int .i64 r) ∧ Drawn0 w w' := by
  have H : (if (Go.bits .and .u16 (a0 / 1024) 31) = 31 then (if (Go.bits .and .u16 a0 1023) = 0 then (some 1) else (some 2)) else (some 0)) = some r := h
  clear h
  by_cases c2 : (Go.bits .and .u16 (a0 / 1024) 31) = 31
  · rw [if_pos c2] at H
    have c2b0 : ((Go.bits .and .u16 (a0 / 1024) 31) == 31) = true := beq_iff_eq.mpr c2
    have c2b1 : ((Go.bits .and .u16 (a0 / 1024) 31) != 31) = false := bne_eq_false_iff_eq.mpr c2
    clear c2
    by_cases c3 : (Go.bits .and .u16 a0 1023) = 0
    · rw [if_pos c3] at H
      have c3b0 : ((Go.bits .and .u16 a0 1023) == 0) = true := beq_iff_eq.mpr c3
      have c3b1 : ((Go.bits .and .u16 a0 1023) != 0) = false := bne_eq_false_iff_eq.mpr c3
      clear c3
      obtain rfl := Option.some.inj H
      go_enter Try.func17, Try.ntmps17
      go_wp2
      go_ret
      exact ⟨by first | rfl | (simp; done) | (simp [*]; done), by repeat (first | exact Drawn0.refl _ | apply Drawn0.step)⟩
    · rw [if_neg c3] at H
      have c3b0 : ((Go.bits .and .u16 a0 1023) == 0) = false := beq_eq_false_iff_ne.mpr c3
      have c3b1 : ((Go.bits .and .u16 a0 1023) != 0) = true := bne_iff_ne.mpr c3
      obtain rfl := Option.some.inj H
      go_enter Try.func17, Try.ntmps17
      go_wp2
      go_ret
      exact ⟨by first | rfl | (simp; done) | (simp [*]; done), by repeat (first | exact Drawn0.refl _ | apply Drawn0.step)⟩
  · rw [if_neg c2] at H
    have c2b0 : ((Go.bits .and .u16 (a0 / 1024) 31) == 31) = false := beq_eq_false_iff_ne.mpr c2
    have c2b1 : ((Go.bits .and .u16 (a0 / 1024) 31) != 31) = true := bne_iff_ne.mpr c2
    obtain rfl := Option.some.inj H
    go_enter Try.func17, Try.ntmps17
    go_wp2
    go_ret
    exact ⟨by first | rfl | (simp; done) | (simp [*]; done), by repeat (first | exact Drawn0.refl _ | apply Drawn0.step)⟩


-- NOT PRINTED: function 4 (laws_FnHalfFacts)

-- NOT PRINTED: function 39 (math_Float32bits)

-- NOT PRINTED: function 42 (math_Float32frombits)

/-! ### float16_f16bitsToF32bits: function 45 -/
def float16_f16bitsToF32bits.l0 : Nat → Int → Int → Int → Option (Int)
  | 0, _, _, _ => none
  | k + 1, x3, x4, x5 => if (Go.bits .and .u32 x5 2139095040) = 0 then (float16_f16bitsToF32bits.l0 k x3 ((x4 - 1) % 4294967296) ((x5 * 2) % 4294967296)) else (some (Go.bits .or .u32 (Go.bits .or .u32 x3 ((((x4 + 112) % 4294967296) * 8388608) % 4294967296)) (Go.bits .and .u32 x5 8388607)))
def float16_f16bitsToF32bits.f (k : Nat) (a0 : Int) : Option (Int) := if (((Go.bits .and .u16 a0 31744) % 4294967296) / 1024) = 31 then (if ((((Go.bits .and .u16 a0 1023) % 4294967296) * 8192) % 4294967296) = 0 then (some (Go.bits .or .u32 (Go.bits .or .u32 ((((Go.bits .and .u16 a0 32768) % 4294967296) * 65536) % 4294967296) 2139095040) ((((Go.bits .and .u16 a0 1023) % 4294967296) * 8192) % 4294967296))) else (some (Go.bits .or .u32 (Go.bits .or .u32 ((((Go.bits .and .u16 a0 32768) % 4294967296) * 65536) % 4294967296) 2143289344) ((((Go.bits .and .u16 a0 1023) % 4294967296) * 8192) % 4294967296)))) else (if (((Go.bits .and .u16 a0 31744) % 4294967296) / 1024) = 0 then (if ((((Go.bits .and .u16 a0 1023) % 4294967296) * 8192) % 4294967296) = 0 then (some ((((Go.bits .and .u16 a0 32768) % 4294967296) * 65536) % 4294967296)) else (float16_f16bitsToF32bits.l0 k ((((Go.bits .and .u16 a0 32768) % 4294967296) * 65536) % 4294967296) ((((Go.bits .and .u16 a0 31744) % 4294967296) / 1024) + 1) ((((Go.bits .and .u16 a0 1023) % 4294967296) * 8192) % 4294967296))) else (some (Go.bits .or .u32 (Go.bits .or .u32 ((((Go.bits .and .u16 a0 32768) % 4294967296) * 65536) % 4294967296) ((((((Go.bits .and .u16 a0 31744) % 4294967296) / 1024) + 112) * 8388608) % 4294967296)) ((((Go.bits .and .u16 a0 1023) % 4294967296) * 8192) % 4294967296))))
theorem float16_f16bitsToF32bits.mono_l : ∀ k, (∀ y0 y1 y2, LeO (float16_f16bitsToF32bits.l0 k y0 y1 y2) (float16_f16bitsToF32bits.l0 (k + 1) y0 y1 y2))
  | 0 => fun _ _ _ r h => by simp [float16_f16bitsToF32bits.l0] at h
  | k + 1 => by
    have ih0 := float16_f16bitsToF32bits.mono_l k
    · intro y0 y1 y2
      unfold float16_f16bitsToF32bits.l0
      repeat' first
      | (with_reducible exact ih0 _ _ _)
      | (with_reducible exact LeO.refl _)
      | (with_reducible exact LeO.none _)
      | (with_reducible refine LeO.ite ?_ ?_)
      | (with_reducible refine LeO.bind ?_ (fun _ => ?_))
      | exact ih0 _ _ _
      | exact LeO.none _
      | refine LeO.ite ?_ ?_
      | refine LeO.bind ?_ (fun _ => ?_)
theorem float16_f16bitsToF32bits.mono : ∀ a0 k, LeO (float16_f16bitsToF32bits.f k a0) (float16_f16bitsToF32bits.f (k + 1) a0) := by
  intro a0 k
  have ih0 := float16_f16bitsToF32bits.mono_l k
  unfold float16_f16bitsToF32bits.f
  repeat' first
      | (with_reducible exact ih0 _ _ _)
      | (with_reducible exact LeO.refl _)
      | (with_reducible exact LeO.none _)
      | (with_reducible refine LeO.ite ?_ ?_)
      | (with_reducible refine LeO.bind ?_ (fun _ => ?_))
      | exact ih0 _ _ _
      | exact LeO.none _
      | refine LeO.ite ?_ ?_
      | refine LeO.bind ?_ (fun _ => ?_)
set_option maxHeartbeats 8000000 in
set_option maxRecDepth 100000 in
theorem float16_f16bitsToF32bits.calls (k : Nat) (a0 : Int) (r : Int) (w : World) (h : float16_f16bitsToF32bits.f k a0 = some r) :
    Calls Try.prog 45 #[.int .u16 a0] w fun e w' => e = .returned (.int .u32 r) ∧ Drawn0 w w' := by
  have H : (if (((Go.bits .and .u16 a0 31744) % 4294967296) / 1024) = 31 then (if ((((Go.bits .and .u16 a0 1023) % 4294967296) * 8192) % 4294967296) = 0 then (some (Go.bits .or .u32 (Go.bits .or .u32 ((((Go.bits .and .u16 a0 32768) % 4294967296) * 65536) % 4294967296) 2139095040) ((((Go.bits .and .u16 a0 1023) % 4294967296) * 8192) % 4294967296))) else (some (Go.bits .or .u32 (Go.bits .or .u32 ((((Go.bits .and .u16 a0 32768) % 4294967296) * 65536) % 4294967296) 2143289344) ((((Go.bits .and .u16 a0 1023) % 4294967296) * 8192) % 4294967296)))) else (if (((Go.bits .and .u16 a0 31744) % 4294967296) / 1024) = 0 then (if ((((Go.bits .and .u16 a0 1023) % 4294967296) * 8192) % 4294967296) = 0 then (some ((((Go.bits .and .u16 a0 32768) % 4294967296) * 65536) % 4294967296)) else (float16_f16bitsToF32bits.l0 k ((((Go.bits .and .u16 a0 32768) % 4294967296) * 65536) % 4294967296) ((((Go.bits .and .u16 a0 31744) % 4294967296) / 1024) + 1) ((((Go.bits .and .u16 a0 1023) % 4294967296) * 8192) % 4294967296))) else (some (Go.bits .or .u32 (Go.bits .or .u32 ((((Go.bits .and .u16 a0 32768) % 4294967296) * 65536) % 4294967296) ((((((Go.bits .and .u16 a0 31744) % 4294967296) / 1024) + 112) * 8388608) % 4294967296)) ((((Go.bits .and .u16 a0 1023) % 4294967296) * 8192) % 4294967296))))) = some r := h
  clear h
  by_cases c2 : (((Go.bits .and .u16 a0 31744) % 4294967296) / 1024) = 31
  · rw [if_pos c2] at H
    have c2b0 : ((((Go.bits .and .u16 a0 31744) % 4294967296) / 1024) == 31) = true := beq_iff_eq.mpr c2
    have c2b1 : ((((Go.bits .and .u16 a0 31744) % 4294967296) / 1024) != 31) = false := bne_eq_false_iff_eq.mpr c2
    clear c2
    by_cases c3 : ((((Go.bits .and .u16 a0 1023) % 4294967296) * 8192) % 4294967296) = 0
    · rw [if_pos c3] at H
      have c3b0 : (((((Go.bits .and .u16 a0 1023) % 4294967296) * 8192) % 4294967296) == 0) = true := beq_iff_eq.mpr c3
      have c3b1 : (((((Go.bits .and .u16 a0 1023) % 4294967296) * 8192) % 4294967296) != 0) = false := bne_eq_false_iff_eq.mpr c3
      clear c3
      obtain rfl := Option.some.inj H
      go_enter Try.func45, Try.ntmps45
      go_wp2
      go_ret
      exact ⟨by first | rfl | (simp; done) | (simp [*]; done), by repeat (first | exact Drawn0.refl _ | apply Drawn0.step)⟩
    · rw [if_neg c3] at H
      have c3b0 : (((((Go.bits .and .u16 a0 1023) % 4294967296) * 8192) % 4294967296) == 0) = false := beq_eq_false_iff_ne.mpr c3
      have c3b1 : (((((Go.bits .and .u16 a0 1023) % 4294967296) * 8192) % 4294967296) != 0) = true := bne_iff_ne.mpr c3
      obtain rfl := Option.some.inj H
      go_enter Try.func45, Try.ntmps45
      go_wp2
      go_ret
      exact ⟨by first | rfl | (simp; done) | (simp [*]; done), by repeat (first | exact Drawn0.refl _ | apply Drawn0.step)⟩
  · rw [if_neg c2] at H
    have c2b0 : ((((Go.bits .and .u16 a0 31744) % 4294967296) / 1024) == 31) = false := beq_eq_false_iff_ne.mpr c2
    have c2b1 : ((((Go.bits .and .u16 a0 31744) % 4294967296) / 1024) != 31) = true := bne_iff_ne.mpr c2
    by_cases c4 : (((Go.bits .and .u16 a0 31744) % 4294967296) / 1024) = 0
    · rw [if_pos c4] at H
      have c4b0 : ((((Go.bits .and .u16 a0 31744) % 4294967296) / 1024) == 0) = true := beq_iff_eq.mpr c4
      have c4b1 : ((((Go.bits .and .u16 a0 31744) % 4294967296) / 1024) != 0) = false := bne_eq_false_iff_eq.mpr c4
      clear c4
      by_cases c5 : ((((Go.bits .and .u16 a0 1023) % 4294967296) * 8192) % 4294967296) = 0
      · rw [if_pos c5] at H
        have c5b0 : (((((Go.bits .and .u16 a0 1023) % 4294967296) * 8192) % 4294967296) == 0) = true := beq_iff_eq.mpr c5
        have c5b1 : (((((Go.bits .and .u16 a0 1023) % 4294967296) * 8192) % 4294967296) != 0) = false := bne_eq_false_iff_eq.mpr c5
        clear c5
        obtain rfl := Option.some.inj H
        go_enter Try.func45, Try.ntmps45
        go_wp2
        go_ret
        exact ⟨by first | rfl | (simp; done) | (simp [*]; done), by repeat (first | exact Drawn0.refl _ | apply Drawn0.step)⟩
      · rw [if_neg c5] at H
        have c5b0 : (((((Go.bits .and .u16 a0 1023) % 4294967296) * 8192) % 4294967296) == 0) = false := beq_eq_false_iff_ne.mpr c5
        have c5b1 : (((((Go.bits .and .u16 a0 1023) % 4294967296) * 8192) % 4294967296) != 0) = true := bne_iff_ne.mpr c5
        have H' := Aside0.mk H
        clear H
        go_enter Try.func45, Try.ntmps45
        go_wp2
        go_loopg [4, 5] k (fun kq v4 v5 w' => ∃ (x4_1 : Int) (x5_1 : Int), v4 = .int .u32 x4_1 ∧ v5 = .int .u32 x5_1 ∧ Aside0 (float16_f16bitsToF32bits.l0 kq ((((Go.bits .and .u16 a0 32768) % 4294967296) * 65536) % 4294967296) x4_1 x5_1 = some r) ∧ Aside0 (kq ≤ k) ∧ Drawn0 w w')
        case atStart => exact ⟨((((Go.bits .and .u16 a0 31744) % 4294967296) / 1024) + 1), ((((Go.bits .and .u16 a0 1023) % 4294967296) * 8192) % 4294967296), (by first | rfl | (simp; done) | (simp [*]; done)), (by first | rfl | (simp; done) | (simp [*]; done)), H', ⟨Nat.le_refl _⟩, by repeat (first | exact Drawn0.refl _ | apply Drawn0.step)⟩
        case round =>
          clear H'
          try clear c2
          try clear c2b0
          try clear c2b1
          try clear p2
          try clear c3
          try clear c3b0
          try clear c3b1
          try clear c4
          try clear c4b0
          try clear c4b1
          try clear c5
          try clear c5b0
          try clear c5b1
          obtain ⟨x4_1, x5_1, rfl, rfl, HA, HK1, ⟨m1, rfl⟩⟩ := hrel
          cases gk with
          | zero => exact absurd HA.out (by simp [float16_f16bitsToF32bits.l0])
          | succ k1 =>
            have H := HA.out
            clear HA
            simp only [float16_f16bitsToF32bits.l0] at H
            by_cases c6 : (Go.bits .and .u32 x5_1 2139095040) = 0
            · rw [if_pos c6] at H
              have c6b0 : ((Go.bits .and .u32 x5_1 2139095040) == 0) = true := beq_iff_eq.mpr c6
              have c6b1 : ((Go.bits .and .u32 x5_1 2139095040) != 0) = false := bne_eq_false_iff_eq.mpr c6
              clear c6
              have H' := Aside0.mk H
              clear H
              go_wp2
              go_roundg k1
              case measure => have := HK1.out; omega
              case rel => exact ⟨((x4_1 - 1) % 4294967296), ((x5_1 * 2) % 4294967296), (by first | rfl | (simp; done) | (simp [*]; done)), (by first | rfl | (simp; done) | (simp [*]; done)), H', ⟨by have := HK1.out; omega⟩, by repeat (first | exact Drawn0.refl _ | apply Drawn0.step)⟩
            · rw [if_neg c6] at H
              have c6b0 : ((Go.bits .and .u32 x5_1 2139095040) == 0) = false := beq_eq_false_iff_ne.mpr c6
              have c6b1 : ((Go.bits .and .u32 x5_1 2139095040) != 0) = true := bne_iff_ne.mpr c6
              obtain rfl := Option.some.inj H
              go_wp2
              go_ret
              exact ⟨by first | rfl | (simp; done) | (simp [*]; done), by repeat (first | exact Drawn0.refl _ | apply Drawn0.step)⟩
    · rw [if_neg c4] at H
      have c4b0 : ((((Go.bits .and .u16 a0 31744) % 4294967296) / 1024) == 0) = false := beq_eq_false_iff_ne.mpr c4
      have c4b1 : ((((Go.bits .and .u16 a0 31744) % 4294967296) / 1024) != 0) = true := bne_iff_ne.mpr c4
      obtain rfl := Option.some.inj H
      go_enter Try.func45, Try.ntmps45
      go_wp2
      go_ret
      exact ⟨by first | rfl | (simp; done) | (simp [*]; done), by repeat (first | exact Drawn0.refl _ | apply Drawn0.step)⟩


-- NOT PRINTED: function 40 (float16_Float16_Float32)

/-! ### impl_HalfTo: function 18 -/
theorem drawn_trans {w w1 w2 : World} (h : Drawn0 w w1) (h' : Drawn0 w1 w2) : Drawn0 w w2 := by
  obtain ⟨n, rfl⟩ := h'.out
  exact h.step n
theorem run_f32bits (n : Nat) (w : World) : (callFunc 39 #[.float .f32 n]).run Try.prog w = .ok (.value (.int .u32 (n : Int))) w := by kernel_rfl
theorem run_f32from (n : Int) (w : World) : (callFunc 42 #[.int .u32 n]).run Try.prog w = .ok (.value (.float .f32 n.toNat)) w := by kernel_rfl
set_option maxHeartbeats 1000000 in
set_option maxRecDepth 100000 in
theorem float16_Float32.calls (k : Nat) (a0 : Int) (r : Int) (w : World) (h : float16_f16bitsToF32bits.f k a0 = some r) :
    Calls Try.prog 40 #[.int .u16 a0] w fun e w' => e = .returned (.float .f32 r.toNat) ∧ Drawn0 w w' := by
  have HH := Lib.hid h
  clear h
  have run := run_f32from
  go_enter Try.func40, Try.ntmps40
  go_wp2_with fail
  refine (float16_f16bitsToF32bits.calls k a0 r w HH).mono ?_
  rintro e w1 ⟨rfl, hb⟩
  go_wp2
  go_ret
  exact ⟨rfl, hb⟩
def impl_HalfTo.f (k : Nat) (a0 : Int) : Option Int := (float16_f16bitsToF32bits.f k a0).bind fun r => if 0 ≤ r then some r else none
theorem impl_HalfTo.mono : ∀ a0 k, LeO (impl_HalfTo.f k a0) (impl_HalfTo.f (k + 1) a0) := by
  intro a0 k
  unfold impl_HalfTo.f
  exact LeO.bind (float16_f16bitsToF32bits.mono a0 k) (fun _ => LeO.refl _)
set_option maxHeartbeats 1000000 in
set_option maxRecDepth 100000 in
theorem impl_HalfTo.calls (k : Nat) (a0 : Int) (r : Int) (w : World) (h : impl_HalfTo.f k a0 = some r) :
    Calls Try.prog 18 #[.int .u16 a0] w fun e w' => e = .returned (.int .u32 r) ∧ Drawn0 w w' := by
  unfold impl_HalfTo.f at h
  obtain ⟨s, h1, h2⟩ := Option.bind_eq_some_iff.mp h
  split at h2
  case isFalse => cases h2
  rename_i h0
  obtain rfl := Option.some.inj h2
  obtain ⟨n, rfl⟩ := Int.eq_ofNat_of_zero_le h0
  have HH := Lib.hid h1
  clear h h1 h2
  have run := run_f32bits
  go_enter Try.func18, Try.ntmps18
  go_wp2_with fail
  refine (float16_Frombits.calls a0 a0 w rfl).mono ?_
  rintro e w1 ⟨rfl, hb1⟩
  go_wp2_with fail
  refine (float16_Float32.calls k a0 n w1 HH).mono ?_
  rintro e w2 ⟨rfl, hb2⟩
  go_wp2
  go_ret
  exact ⟨by simp, drawn_trans hb1 hb2⟩

/-! ### spec_SingleKind: function 19 -/
def spec_SingleKind.f (a0 : Int) : Option (Int) := if (Go.bits .and .u32 (a0 / 8388608) 255) = 255 then (if (Go.bits .and .u32 a0 8388607) = 0 then (some 1) else (some 2)) else (some 0)
set_option maxHeartbeats 8000000 in
set_option maxRecDepth 100000 in
theorem spec_SingleKind.calls (a0 : Int) (r : Int) (w : World) (h : spec_SingleKind.f a0 = some r) :
    Calls Try.prog 19 #[.int .u32 a0] w fun e w' => e = .returned (.int .i64 r) ∧ Drawn0 w w' := by
  have H : (if (Go.bits .and .u32 (a0 / 8388608) 255) = 255 then (if (Go.bits .and .u32 a0 8388607) = 0 then (some 1) else (some 2)) else (some 0)) = some r := h
  clear h
  by_cases c2 : (Go.bits .and .u32 (a0 / 8388608) 255) = 255
  · rw [if_pos c2] at H
    have c2b0 : ((Go.bits .and .u32 (a0 / 8388608) 255) == 255) = true := beq_iff_eq.mpr c2
    have c2b1 : ((Go.bits .and .u32 (a0 / 8388608) 255) != 255) = false := bne_eq_false_iff_eq.mpr c2
    clear c2
    by_cases c3 : (Go.bits .and .u32 a0 8388607) = 0
    · rw [if_pos c3] at H
      have c3b0 : ((Go.bits .and .u32 a0 8388607) == 0) = true := beq_iff_eq.mpr c3
      have c3b1 : ((Go.bits .and .u32 a0 8388607) != 0) = false := bne_eq_false_iff_eq.mpr c3
      clear c3
      obtain rfl := Option.some.inj H
      go_enter Try.func19, Try.ntmps19
      go_wp2
      go_ret
      exact ⟨by first | rfl | (simp; done) | (simp [*]; done), by repeat (first | exact Drawn0.refl _ | apply Drawn0.step)⟩
    · rw [if_neg c3] at H
      have c3b0 : ((Go.bits .and .u32 a0 8388607) == 0) = false := beq_eq_false_iff_ne.mpr c3
      have c3b1 : ((Go.bits .and .u32 a0 8388607) != 0) = true := bne_iff_ne.mpr c3
      obtain rfl := Option.some.inj H
      go_enter Try.func19, Try.ntmps19
      go_wp2
      go_ret
      exact ⟨by first | rfl | (simp; done) | (simp [*]; done), by repeat (first | exact Drawn0.refl _ | apply Drawn0.step)⟩
  · rw [if_neg c2] at H
    have c2b0 : ((Go.bits .and .u32 (a0 / 8388608) 255) == 255) = false := beq_eq_false_iff_ne.mpr c2
    have c2b1 : ((Go.bits .and .u32 (a0 / 8388608) 255) != 255) = true := bne_iff_ne.mpr c2
    obtain rfl := Option.some.inj H
    go_enter Try.func19, Try.ntmps19
    go_wp2
    go_ret
    exact ⟨by first | rfl | (simp; done) | (simp [*]; done), by repeat (first | exact Drawn0.refl _ | apply Drawn0.step)⟩


/-! ### spec_HalfValue: function 20 -/
def spec_HalfValue.f (a0 : Int) : Option (Int × Int) := if (wrap64 (Go.bits .and .u16 (a0 / 1024) 31)) = 0 then (some (wrap64 (Go.bits .and .u16 a0 1023), (-24))) else (some (wrap64 (1024 + (wrap64 (Go.bits .and .u16 a0 1023))), wrap64 ((wrap64 (Go.bits .and .u16 (a0 / 1024) 31)) - 25)))
set_option maxHeartbeats 8000000 in
set_option maxRecDepth 100000 in
theorem spec_HalfValue.calls (a0 : Int) (r1 : Int) (r2 : Int) (w : World) (h : spec_HalfValue.f a0 = some (r1, r2)) :
    Calls Try.prog 20 #[.int .u16 a0] w fun e w' => e = .returned (.tuple #[.int .i64 r1, .int .i64 r2]) ∧ Drawn0 w w' := by
  have H : (if (wrap64 (Go.bits .and .u16 (a0 / 1024) 31)) = 0 then (some (wrap64 (Go.bits .and .u16 a0 1023), (-24))) else (some (wrap64 (1024 + (wrap64 (Go.bits .and .u16 a0 1023))), wrap64 ((wrap64 (Go.bits .and .u16 (a0 / 1024) 31)) - 25)))) = some (r1, r2) := h
  clear h
  by_cases c2 : (wrap64 (Go.bits .and .u16 (a0 / 1024) 31)) = 0
  · rw [if_pos c2] at H
    have c2b0 : ((wrap64 (Go.bits .and .u16 (a0 / 1024) 31)) == 0) = true := beq_iff_eq.mpr c2
    have c2b1 : ((wrap64 (Go.bits .and .u16 (a0 / 1024) 31)) != 0) = false := bne_eq_false_iff_eq.mpr c2
    clear c2
    simp only [Option.some.injEq, Prod.mk.injEq] at H
    obtain ⟨rfl, rfl⟩ := H
    go_enter Try.func20, Try.ntmps20
    go_wp2
    go_ret2
    exact ⟨by first | rfl | (simp; done) | (simp [*]; done), by repeat (first | exact Drawn0.refl _ | apply Drawn0.step)⟩
  · rw [if_neg c2] at H
    have c2b0 : ((wrap64 (Go.bits .and .u16 (a0 / 1024) 31)) == 0) = false := beq_eq_false_iff_ne.mpr c2
    have c2b1 : ((wrap64 (Go.bits .and .u16 (a0 / 1024) 31)) != 0) = true := bne_iff_ne.mpr c2
    simp only [Option.some.injEq, Prod.mk.injEq] at H
    obtain ⟨rfl, rfl⟩ := H
    go_enter Try.func20, Try.ntmps20
    go_wp2
    go_ret2
    exact ⟨by first | rfl | (simp; done) | (simp [*]; done), by repeat (first | exact Drawn0.refl _ | apply Drawn0.step)⟩


/-! ### spec_SingleValue: function 21 -/
def spec_SingleValue.f (a0 : Int) : Option (Int × Int) := if (wrap64 (Go.bits .and .u32 (a0 / 8388608) 255)) = 0 then (some (wrap64 (Go.bits .and .u32 a0 8388607), (-149))) else (some (wrap64 (8388608 + (wrap64 (Go.bits .and .u32 a0 8388607))), wrap64 ((wrap64 (Go.bits .and .u32 (a0 / 8388608) 255)) - 150)))
set_option maxHeartbeats 8000000 in
set_option maxRecDepth 100000 in
theorem spec_SingleValue.calls (a0 : Int) (r1 : Int) (r2 : Int) (w : World) (h : spec_SingleValue.f a0 = some (r1, r2)) :
    Calls Try.prog 21 #[.int .u32 a0] w fun e w' => e = .returned (.tuple #[.int .i64 r1, .int .i64 r2]) ∧ Drawn0 w w' := by
  have H : (if (wrap64 (Go.bits .and .u32 (a0 / 8388608) 255)) = 0 then (some (wrap64 (Go.bits .and .u32 a0 8388607), (-149))) else (some (wrap64 (8388608 + (wrap64 (Go.bits .and .u32 a0 8388607))), wrap64 ((wrap64 (Go.bits .and .u32 (a0 / 8388608) 255)) - 150)))) = some (r1, r2) := h
  clear h
  by_cases c2 : (wrap64 (Go.bits .and .u32 (a0 / 8388608) 255)) = 0
  · rw [if_pos c2] at H
    have c2b0 : ((wrap64 (Go.bits .and .u32 (a0 / 8388608) 255)) == 0) = true := beq_iff_eq.mpr c2
    have c2b1 : ((wrap64 (Go.bits .and .u32 (a0 / 8388608) 255)) != 0) = false := bne_eq_false_iff_eq.mpr c2
    clear c2
    simp only [Option.some.injEq, Prod.mk.injEq] at H
    obtain ⟨rfl, rfl⟩ := H
    go_enter Try.func21, Try.ntmps21
    go_wp2
    go_ret2
    exact ⟨by first | rfl | (simp; done) | (simp [*]; done), by repeat (first | exact Drawn0.refl _ | apply Drawn0.step)⟩
  · rw [if_neg c2] at H
    have c2b0 : ((wrap64 (Go.bits .and .u32 (a0 / 8388608) 255)) == 0) = false := beq_eq_false_iff_ne.mpr c2
    have c2b1 : ((wrap64 (Go.bits .and .u32 (a0 / 8388608) 255)) != 0) = true := bne_iff_ne.mpr c2
    simp only [Option.some.injEq, Prod.mk.injEq] at H
    obtain ⟨rfl, rfl⟩ := H
    go_enter Try.func21, Try.ntmps21
    go_wp2
    go_ret2
    exact ⟨by first | rfl | (simp; done) | (simp [*]; done), by repeat (first | exact Drawn0.refl _ | apply Drawn0.step)⟩


end Go.Proofs.Ytdepcnaiobfpkaa.PAll
