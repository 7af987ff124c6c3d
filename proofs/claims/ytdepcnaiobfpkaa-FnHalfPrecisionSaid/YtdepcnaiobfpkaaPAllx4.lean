/- Printed by the kit's print.py, called for several laws at once: functions as plain Lean, and the walks' contracts. -/
import Derived.Test.YtdepcnaiobfpkaaPAllx0
import Derived.Test.YtdepcnaiobfpkaaPAllx1
import Derived.Test.YtdepcnaiobfpkaaPAllx2
import Derived.Test.YtdepcnaiobfpkaaPAllx3
namespace Go.Proofs.Ytdepcnaiobfpkaa.PAll
open Go.RowKit Go.Proofs.YtdepcnaiobfpkaaW.PrintWords Go.Proofs.YtdepcnaiobfpkaaW.PrintLast Go.Proofs.YtdepcnaiobfpkaaW.PrintMore
attribute [local go_sem] max2_int min2_int max_two min_two max_three min_three max_four min_four   -- for this text's walks alone
set_option linter.unusedVariables false
set_option linter.unusedSimpArgs false

/-! ### laws_FnHalfOrder: function 8 -/
mutual
def laws_FnHalfOrder.j0 : Nat → Int → Int → Bool → Option (Bool)
  | 0, _, _, _ => none
  | k + 1, x0, x1, x14 => if x14 = true then (some true) else ((impl_HalfFrom.f x0).bind fun t157 => ((impl_HalfFrom.f x1).bind fun t158 => ((laws_halfRank.f (IntKind.u64.wrap (x0)) 31).bind fun t159 => ((laws_halfRank.f (IntKind.u64.wrap (x1)) 31).bind fun t160 => (if t159 > t160 then (laws_FnHalfOrder.j1 k x0 t158 t157) else (laws_FnHalfOrder.j1 k x0 t157 t158))))))
def laws_FnHalfOrder.j1 : Nat → Int → Int → Int → Option (Bool)
  | 0, _, _, _ => none
  | k + 1, x0, x5, x6 => (laws_halfRank.f (IntKind.u64.wrap (x5)) 15).bind fun t161 => ((laws_halfRank.f (IntKind.u64.wrap (x6)) 15).bind fun t162 => (if t161 ≤ t162 then ((impl_HalfFrom.f (Go.bits .xor .u32 x0 2147483648)).bind fun t163 => ((impl_HalfFrom.f x0).bind fun t164 => (some (t163 == (Go.bits .xor .u16 t164 32768))))) else (some false)))
end
def laws_FnHalfOrder.f (k : Nat) (a0 : Int) (a1 : Int) : Option (Bool) := (spec_SingleKind.f a0).bind fun t155 => (if t155 = 2 then (laws_FnHalfOrder.j0 k a0 a1 true) else ((spec_SingleKind.f a1).bind fun t156 => (laws_FnHalfOrder.j0 k a0 a1 (t156 == 2))))
theorem laws_FnHalfOrder.mono_l : ∀ k, (∀ y0 y1 y2, LeO (laws_FnHalfOrder.j0 k y0 y1 y2) (laws_FnHalfOrder.j0 (k + 1) y0 y1 y2)) ∧ (∀ y0 y1 y2, LeO (laws_FnHalfOrder.j1 k y0 y1 y2) (laws_FnHalfOrder.j1 (k + 1) y0 y1 y2))
  | 0 => ⟨fun _ _ _ r h => by simp [laws_FnHalfOrder.j0] at h, fun _ _ _ r h => by simp [laws_FnHalfOrder.j1] at h⟩
  | k + 1 => by
    obtain ⟨ih0, ih1⟩ := laws_FnHalfOrder.mono_l k
    refine ⟨?_, ?_⟩
    · intro y0 y1 y2
      unfold laws_FnHalfOrder.j0
      repeat' first
      | (with_reducible exact ih0 _ _ _)
      | (with_reducible exact ih1 _ _ _)
      | (with_reducible exact LeO.refl _)
      | (with_reducible exact LeO.none _)
      | (with_reducible refine LeO.ite ?_ ?_)
      | (with_reducible refine LeO.bind ?_ (fun _ => ?_))
      | exact ih0 _ _ _
      | exact ih1 _ _ _
      | exact LeO.none _
      | refine LeO.ite ?_ ?_
      | refine LeO.bind ?_ (fun _ => ?_)
    · intro y0 y1 y2
      unfold laws_FnHalfOrder.j1
      repeat' first
      | (with_reducible exact ih0 _ _ _)
      | (with_reducible exact ih1 _ _ _)
      | (with_reducible exact LeO.refl _)
      | (with_reducible exact LeO.none _)
      | (with_reducible refine LeO.ite ?_ ?_)
      | (with_reducible refine LeO.bind ?_ (fun _ => ?_))
      | exact ih0 _ _ _
      | exact ih1 _ _ _
      | exact LeO.none _
      | refine LeO.ite ?_ ?_
      | refine LeO.bind ?_ (fun _ => ?_)
theorem laws_FnHalfOrder.mono : ∀ a0 a1 k, LeO (laws_FnHalfOrder.f k a0 a1) (laws_FnHalfOrder.f (k + 1) a0 a1) := by
  intro a0 a1 k
  obtain ⟨ih0, ih1⟩ := laws_FnHalfOrder.mono_l k
  unfold laws_FnHalfOrder.f
  repeat' first
      | (with_reducible exact ih0 _ _ _)
      | (with_reducible exact ih1 _ _ _)
      | (with_reducible exact LeO.refl _)
      | (with_reducible exact LeO.none _)
      | (with_reducible refine LeO.ite ?_ ?_)
      | (with_reducible refine LeO.bind ?_ (fun _ => ?_))
      | exact ih0 _ _ _
      | exact ih1 _ _ _
      | exact LeO.none _
      | refine LeO.ite ?_ ?_
      | refine LeO.bind ?_ (fun _ => ?_)
set_option maxHeartbeats 8000000 in
set_option maxRecDepth 100000 in
theorem laws_FnHalfOrder.calls (k : Nat) (a0 : Int) (a1 : Int) (r : Bool) (w : World) (h : laws_FnHalfOrder.f k a0 a1 = some r) :
    Calls Try.prog 8 #[.int .u32 a0, .int .u32 a1] w fun e w' => e = .returned (.bool r) ∧ Drawn0 w w' := by
  have H : ((spec_SingleKind.f a0).bind fun t155 => (if t155 = 2 then (laws_FnHalfOrder.j0 k a0 a1 true) else ((spec_SingleKind.f a1).bind fun t156 => (laws_FnHalfOrder.j0 k a0 a1 (t156 == 2))))) = some r := h
  clear h
  have HC3 := Aside0.mk H
  clear H
  go_enter Try.func8, Try.ntmps8
  go_upto_region 1 with (fail)
  go_cut [14] (fun v14 wc => ∃ (kq : Nat) (x14_2 : Bool), v14 = .bool x14_2 ∧ Aside0 (laws_FnHalfOrder.j0 kq a0 a1 x14_2 = some r) ∧ Aside0 (kq ≤ k) ∧ Drawn0 w wc)
  case first =>
    have H := HC3.out
    clear HC3
    replace H := Option.bind_eq_some_iff.mp H
    obtain ⟨t155, A40, H⟩ := H
    replace H : (if t155 = 2 then (laws_FnHalfOrder.j0 k a0 a1 true) else ((spec_SingleKind.f a1).bind fun t156 => (laws_FnHalfOrder.j0 k a0 a1 (t156 == 2)))) = some r := H
    have A4 := Aside0.mk A40
    clear A40
    by_cases c5 : t155 = 2
    · rw [if_pos c5] at H
      have c5b0 : (t155 == 2) = true := beq_iff_eq.mpr c5
      have c5b1 : (t155 != 2) = false := bne_eq_false_iff_eq.mpr c5
      clear c5
      (first | rw [c5b0] | (simp only [i64_w, i32_w]; rw [c5b0]) | skip)
      have H' := Aside0.mk H
      clear H
      go_wp2_with (first | ((with_reducible refine gate_callee (f := 19) rfl ?_); refine goesL_ (some 8) rfl rfl Try.func19 (by kernel_rfl) rfl #[.int .u32 a0] rfl (by (try simp only [List.map_toArray, List.map_cons, List.map_nil]); first | done | rfl | (simp only [List.length_drop, List.length_take]; rfl)) ?_; (with_reducible refine (spec_SingleKind.calls a0 t155 _ A4.out).mono ?_); rintro e w' ⟨rfl, ⟨nd, rfl⟩⟩; refine ⟨_, rfl, ?_⟩))
      go_meet
      case rel => exact ⟨_, (true), (by first | rfl | (simp; done) | (simp [*]; done)), H', ⟨by first | omega | exact Nat.le_refl _⟩, by repeat (first | exact Drawn0.refl _ | apply Drawn0.step)⟩
    · rw [if_neg c5] at H
      have c5b0 : (t155 == 2) = false := beq_eq_false_iff_ne.mpr c5
      have c5b1 : (t155 != 2) = true := bne_iff_ne.mpr c5
      (first | rw [c5b0] | (simp only [i64_w, i32_w]; rw [c5b0]) | skip)
      replace H := Option.bind_eq_some_iff.mp H
      obtain ⟨t156, A60, H⟩ := H
      replace H : (laws_FnHalfOrder.j0 k a0 a1 (t156 == 2)) = some r := H
      have A6 := Aside0.mk A60
      clear A60
      have H' := Aside0.mk H
      clear H
      go_wp2_with (first | ((with_reducible refine gate_callee (f := 19) rfl ?_); refine goesL_ (some 8) rfl rfl Try.func19 (by kernel_rfl) rfl #[.int .u32 a0] rfl (by (try simp only [List.map_toArray, List.map_cons, List.map_nil]); first | done | rfl | (simp only [List.length_drop, List.length_take]; rfl)) ?_; (with_reducible refine (spec_SingleKind.calls a0 t155 _ A4.out).mono ?_); rintro e w' ⟨rfl, ⟨nd, rfl⟩⟩; refine ⟨_, rfl, ?_⟩) | (go_at_call 19; (with_reducible refine (spec_SingleKind.calls a1 t156 _ A6.out).mono ?_); rintro e w' ⟨rfl, ⟨nd, rfl⟩⟩))
      go_meet
      case rel => exact ⟨_, ((t156 == 2)), (by first | rfl | (simp; done) | (simp [*]; done)), H', ⟨by first | omega | exact Nat.le_refl _⟩, by repeat (first | exact Drawn0.refl _ | apply Drawn0.step)⟩
  case rest =>
    clear HC3
    try clear c1
    try clear p2
    try clear c5
    try clear c5b0
    try clear c5b1
    obtain ⟨kq, x14_2, rfl, HA, HJ2, ⟨mc2, rfl⟩⟩ := hcut
    cases kq with
    | zero => exact absurd HA.out (by simp [laws_FnHalfOrder.j0])
    | succ kj2 =>
      have H := HA.out
      clear HA
      simp only [laws_FnHalfOrder.j0] at H
      by_cases c7 : x14_2 = true
      · subst c7
        have H1 : (some true) = some r := by rw [if_pos rfl] at H; exact H
        clear H
        have H := H1
        clear H1
        obtain rfl := Option.some.inj H
        go_wp2
        go_ret
        exact ⟨by first | rfl | (simp; done) | (simp [*]; done), by repeat (first | exact Drawn0.refl _ | apply Drawn0.step)⟩
      · replace c7 := Bool.eq_false_iff.mpr c7
        subst c7
        have H1 : ((impl_HalfFrom.f a0).bind fun t157 => ((impl_HalfFrom.f a1).bind fun t158 => ((laws_halfRank.f (IntKind.u64.wrap (a0)) 31).bind fun t159 => ((laws_halfRank.f (IntKind.u64.wrap (a1)) 31).bind fun t160 => (if t159 > t160 then (laws_FnHalfOrder.j1 kj2 a0 t158 t157) else (laws_FnHalfOrder.j1 kj2 a0 t157 t158)))))) = some r := by rw [if_neg (show ¬ (false = true) by decide)] at H; exact H
        clear H
        have H := H1
        clear H1
        replace H := Option.bind_eq_some_iff.mp H
        obtain ⟨t157, A80, H⟩ := H
        replace H : ((impl_HalfFrom.f a1).bind fun t158 => ((laws_halfRank.f (IntKind.u64.wrap (a0)) 31).bind fun t159 => ((laws_halfRank.f (IntKind.u64.wrap (a1)) 31).bind fun t160 => (if t159 > t160 then (laws_FnHalfOrder.j1 kj2 a0 t158 t157) else (laws_FnHalfOrder.j1 kj2 a0 t157 t158))))) = some r := H
        have A8 := Aside0.mk A80
        clear A80
        replace H := Option.bind_eq_some_iff.mp H
        obtain ⟨t158, A90, H⟩ := H
        replace H : ((laws_halfRank.f (IntKind.u64.wrap (a0)) 31).bind fun t159 => ((laws_halfRank.f (IntKind.u64.wrap (a1)) 31).bind fun t160 => (if t159 > t160 then (laws_FnHalfOrder.j1 kj2 a0 t158 t157) else (laws_FnHalfOrder.j1 kj2 a0 t157 t158)))) = some r := H
        have A9 := Aside0.mk A90
        clear A90
        replace H := Option.bind_eq_some_iff.mp H
        obtain ⟨t159, A100, H⟩ := H
        replace H : ((laws_halfRank.f (IntKind.u64.wrap (a1)) 31).bind fun t160 => (if t159 > t160 then (laws_FnHalfOrder.j1 kj2 a0 t158 t157) else (laws_FnHalfOrder.j1 kj2 a0 t157 t158))) = some r := H
        have A10 := Aside0.mk A100
        clear A100
        replace H := Option.bind_eq_some_iff.mp H
        obtain ⟨t160, A110, H⟩ := H
        replace H : (if t159 > t160 then (laws_FnHalfOrder.j1 kj2 a0 t158 t157) else (laws_FnHalfOrder.j1 kj2 a0 t157 t158)) = some r := H
        have A11 := Aside0.mk A110
        clear A110
        have HC12 := Aside0.mk H
        clear H
        go_upto_if 25 with (first | ((with_reducible refine gate_callee (f := 23) rfl ?_); refine goesL_ (some 16) rfl rfl Try.func23 (by kernel_rfl) rfl #[.int .u32 a0] rfl (by (try simp only [List.map_toArray, List.map_cons, List.map_nil]); first | done | rfl | (simp only [List.length_drop, List.length_take]; rfl)) ?_; (with_reducible refine (impl_HalfFrom.calls a0 t157 _ A8.out).mono ?_); rintro e w' ⟨rfl, ⟨nd, rfl⟩⟩; refine ⟨_, rfl, ?_⟩) | ((with_reducible refine gate_callee (f := 23) rfl ?_); refine goesL_ (some 18) rfl rfl Try.func23 (by kernel_rfl) rfl #[.int .u32 a1] rfl (by (try simp only [List.map_toArray, List.map_cons, List.map_nil]); first | done | rfl | (simp only [List.length_drop, List.length_take]; rfl)) ?_; (with_reducible refine (impl_HalfFrom.calls a1 t158 _ A9.out).mono ?_); rintro e w' ⟨rfl, ⟨nd, rfl⟩⟩; refine ⟨_, rfl, ?_⟩) | ((with_reducible refine gate_callee (f := 25) rfl ?_); refine goesL_ (some 21) rfl rfl Try.func25 (by kernel_rfl) rfl #[.int .u64 (IntKind.u64.wrap (a0)), .int .i64 31] rfl (by (try simp only [List.map_toArray, List.map_cons, List.map_nil]); first | done | rfl | (simp only [List.length_drop, List.length_take]; rfl)) ?_; (with_reducible refine (laws_halfRank.calls (IntKind.u64.wrap (a0)) 31 t159 _ A10.out).mono ?_); rintro e w' ⟨rfl, ⟨nd, rfl⟩⟩; refine ⟨_, rfl, ?_⟩) | ((with_reducible refine gate_callee (f := 25) rfl ?_); refine goesL_ (some 24) rfl rfl Try.func25 (by kernel_rfl) rfl #[.int .u64 (IntKind.u64.wrap (a1)), .int .i64 31] rfl (by (try simp only [List.map_toArray, List.map_cons, List.map_nil]); first | done | rfl | (simp only [List.length_drop, List.length_take]; rfl)) ?_; (with_reducible refine (laws_halfRank.calls (IntKind.u64.wrap (a1)) 31 t160 _ A11.out).mono ?_); rintro e w' ⟨rfl, ⟨nd, rfl⟩⟩; refine ⟨_, rfl, ?_⟩))
        (try simp only [Act.put, List.setIfInBounds_toArray, List.set_cons_zero, List.set_cons_succ])
        go_cut [5, 6] (fun v5 v6 wc => ∃ (kq : Nat) (x5_11 : Int) (x6_11 : Int), v5 = .int .u16 x5_11 ∧ v6 = .int .u16 x6_11 ∧ Aside0 (laws_FnHalfOrder.j1 kq a0 x5_11 x6_11 = some r) ∧ Aside0 (kq ≤ kj2) ∧ Drawn0 w wc)
        case first =>
          have H := HC12.out
          clear HC12
          by_cases c13 : t159 > t160
          · rw [if_pos c13] at H
            have c13b0 : decide (t160 < t159) = true := decide_eq_true c13
            clear c13
            (first | rw [c13b0] | (simp only [i64_w, i32_w]; rw [c13b0]) | skip)
            have H' := Aside0.mk H
            clear H
            go_wp2
            go_meet
            case rel => exact ⟨_, (t158), (t157), (by first | rfl | (simp; done) | (simp [*]; done)), (by first | rfl | (simp; done) | (simp [*]; done)), H', ⟨by have := HJ2.out; first | omega | exact Nat.le_refl _⟩, by repeat (first | exact Drawn0.refl _ | apply Drawn0.step)⟩
          · rw [if_neg c13] at H
            have c13b0 : decide (t160 < t159) = false := decide_eq_false c13
            clear c13
            (first | rw [c13b0] | (simp only [i64_w, i32_w]; rw [c13b0]) | skip)
            have H' := Aside0.mk H
            clear H
            go_wp2
            go_meet
            case rel => exact ⟨_, (t157), (t158), (by first | rfl | (simp; done) | (simp [*]; done)), (by first | rfl | (simp; done) | (simp [*]; done)), H', ⟨by have := HJ2.out; first | omega | exact Nat.le_refl _⟩, by repeat (first | exact Drawn0.refl _ | apply Drawn0.step)⟩
        case rest =>
          clear HC12
          try clear c1
          try clear c2
          try clear p2
          try clear c5
          try clear c5b0
          try clear c5b1
          try clear c7
          try clear c8
          try clear c13
          try clear c13b0
          try clear p2
          obtain ⟨kq, x5_11, x6_11, rfl, rfl, HA, HJ11, ⟨mc11, rfl⟩⟩ := hcut
          cases kq with
          | zero => exact absurd HA.out (by simp [laws_FnHalfOrder.j1])
          | succ kj11 =>
            have H := HA.out
            clear HA
            simp only [laws_FnHalfOrder.j1] at H
            replace H := Option.bind_eq_some_iff.mp H
            obtain ⟨t161, A140, H⟩ := H
            replace H : ((laws_halfRank.f (IntKind.u64.wrap (x6_11)) 15).bind fun t162 => (if t161 ≤ t162 then ((impl_HalfFrom.f (Go.bits .xor .u32 a0 2147483648)).bind fun t163 => ((impl_HalfFrom.f a0).bind fun t164 => (some (t163 == (Go.bits .xor .u16 t164 32768))))) else (some false))) = some r := H
            have A14 := Aside0.mk A140
            clear A140
            replace H := Option.bind_eq_some_iff.mp H
            obtain ⟨t162, A150, H⟩ := H
            replace H : (if t161 ≤ t162 then ((impl_HalfFrom.f (Go.bits .xor .u32 a0 2147483648)).bind fun t163 => ((impl_HalfFrom.f a0).bind fun t164 => (some (t163 == (Go.bits .xor .u16 t164 32768))))) else (some false)) = some r := H
            have A15 := Aside0.mk A150
            clear A150
            by_cases c16 : t161 ≤ t162
            · rw [if_pos c16] at H
              have c16b0 : decide (t161 ≤ t162) = true := decide_eq_true c16
              clear c16
              replace H := Option.bind_eq_some_iff.mp H
              obtain ⟨t163, A170, H⟩ := H
              replace H : ((impl_HalfFrom.f a0).bind fun t164 => (some (t163 == (Go.bits .xor .u16 t164 32768)))) = some r := H
              have A17 := Aside0.mk A170
              clear A170
              replace H := Option.bind_eq_some_iff.mp H
              obtain ⟨t164, A180, H⟩ := H
              replace H : (some (t163 == (Go.bits .xor .u16 t164 32768))) = some r := H
              have A18 := Aside0.mk A180
              clear A180
              obtain rfl := Option.some.inj H
              go_wp2_with (first | ((with_reducible refine gate_callee (f := 25) rfl ?_); refine goesL_ (some 30) rfl rfl Try.func25 (by kernel_rfl) rfl #[.int .u64 (IntKind.u64.wrap (x5_11)), .int .i64 15] rfl (by (try simp only [List.map_toArray, List.map_cons, List.map_nil]); first | done | rfl | (simp only [List.length_drop, List.length_take]; rfl)) ?_; (with_reducible refine (laws_halfRank.calls (IntKind.u64.wrap (x5_11)) 15 t161 _ A14.out).mono ?_); rintro e w' ⟨rfl, ⟨nd, rfl⟩⟩; refine ⟨_, rfl, ?_⟩) | ((with_reducible refine gate_callee (f := 25) rfl ?_); refine goesL_ (some 33) rfl rfl Try.func25 (by kernel_rfl) rfl #[.int .u64 (IntKind.u64.wrap (x6_11)), .int .i64 15] rfl (by (try simp only [List.map_toArray, List.map_cons, List.map_nil]); first | done | rfl | (simp only [List.length_drop, List.length_take]; rfl)) ?_; (with_reducible refine (laws_halfRank.calls (IntKind.u64.wrap (x6_11)) 15 t162 _ A15.out).mono ?_); rintro e w' ⟨rfl, ⟨nd, rfl⟩⟩; refine ⟨_, rfl, ?_⟩) | (go_at_call 23; (with_reducible refine (impl_HalfFrom.calls (Go.bits .xor .u32 a0 2147483648) t163 _ A17.out).mono ?_); rintro e w' ⟨rfl, ⟨nd, rfl⟩⟩) | (go_at_call 23; (with_reducible refine (impl_HalfFrom.calls a0 t164 _ A18.out).mono ?_); rintro e w' ⟨rfl, ⟨nd, rfl⟩⟩))
              go_ret
              exact ⟨by first | rfl | (simp; done) | (simp [*]; done), by repeat (first | exact Drawn0.refl _ | apply Drawn0.step)⟩
            · rw [if_neg c16] at H
              have c16b0 : decide (t161 ≤ t162) = false := decide_eq_false c16
              clear c16
              obtain rfl := Option.some.inj H
              go_wp2_with (first | ((with_reducible refine gate_callee (f := 25) rfl ?_); refine goesL_ (some 30) rfl rfl Try.func25 (by kernel_rfl) rfl #[.int .u64 (IntKind.u64.wrap (x5_11)), .int .i64 15] rfl (by (try simp only [List.map_toArray, List.map_cons, List.map_nil]); first | done | rfl | (simp only [List.length_drop, List.length_take]; rfl)) ?_; (with_reducible refine (laws_halfRank.calls (IntKind.u64.wrap (x5_11)) 15 t161 _ A14.out).mono ?_); rintro e w' ⟨rfl, ⟨nd, rfl⟩⟩; refine ⟨_, rfl, ?_⟩) | ((with_reducible refine gate_callee (f := 25) rfl ?_); refine goesL_ (some 33) rfl rfl Try.func25 (by kernel_rfl) rfl #[.int .u64 (IntKind.u64.wrap (x6_11)), .int .i64 15] rfl (by (try simp only [List.map_toArray, List.map_cons, List.map_nil]); first | done | rfl | (simp only [List.length_drop, List.length_take]; rfl)) ?_; (with_reducible refine (laws_halfRank.calls (IntKind.u64.wrap (x6_11)) 15 t162 _ A15.out).mono ?_); rintro e w' ⟨rfl, ⟨nd, rfl⟩⟩; refine ⟨_, rfl, ?_⟩))
              go_ret
              exact ⟨by first | rfl | (simp; done) | (simp [*]; done), by repeat (first | exact Drawn0.refl _ | apply Drawn0.step)⟩

/-- THE ONE PURE STATEMENT of laws_FnHalfOrder: yours. -/
def laws_FnHalfOrder.Pure : Prop := ∀ (a0 : Int) (a1 : Int), (Lit.int .u32 a0).wf = true → (Lit.int .u32 a1).wf = true → ∃ k, laws_FnHalfOrder.f k a0 a1 = some true
theorem laws_FnHalfOrder.walk (P : laws_FnHalfOrder.Pure) (a0 : Int) (a1 : Int) (w : World) (w0 : (Lit.int .u32 a0).wf = true) (w1 : (Lit.int .u32 a1).wf = true) :
    Calls Try.prog 8 #[.int .u32 a0, .int .u32 a1] w fun e w' => e = .returned (.bool true) ∧ Below w.heap.size w w' := by
  obtain ⟨k, h⟩ := P a0 a1 w0 w1
  refine (laws_FnHalfOrder.calls k a0 a1 true w h).mono ?_
  rintro e w' ⟨rfl, hd⟩
  exact ⟨rfl, hd.below⟩


-- NOT PRINTED: function 43 (float16_PrecisionFromfloat32)

/-! ### impl_HalfPrecision: function 26 -/
set_option maxHeartbeats 2000000 in
set_option maxRecDepth 100000 in
theorem prec_z0 (n : Nat) (w : World) (h : n = 0) : Calls Try.prog 43 #[.float .f32 n] w fun e w' => e = .returned (.int .i64 0) ∧ Drawn0 w w' := by
  subst h
  have run : (callFunc 39 #[.float .f32 0]).run Try.prog w = .ok (.value (.int .u32 0)) w := run_f32bits 0 w
  go_enter Try.func43, Try.ntmps43
  go_wp2
  go_ret
  exact ⟨rfl, Drawn0.refl _⟩
set_option maxHeartbeats 2000000 in
set_option maxRecDepth 100000 in
theorem prec_z1 (n : Nat) (w : World) (h : n = 2147483648) : Calls Try.prog 43 #[.float .f32 n] w fun e w' => e = .returned (.int .i64 0) ∧ Drawn0 w w' := by
  subst h
  have run : (callFunc 39 #[.float .f32 2147483648]).run Try.prog w = .ok (.value (.int .u32 2147483648)) w := run_f32bits 2147483648 w
  go_enter Try.func43, Try.ntmps43
  go_wp2
  go_ret
  exact ⟨rfl, Drawn0.refl _⟩
set_option maxHeartbeats 2000000 in
set_option maxRecDepth 100000 in
theorem prec_t (n x c : Nat) (y : Int) (w : World) (n0 : ((n : Int) == 0) = false) (n1 : ((n : Int) == 2147483648) = false) (E2 : Go.bits .and .u32 (n : Int) 2139095040 = ((x * 8388608 : Nat) : Int)) (E3 : Go.bits .and .u32 (n : Int) 8388607 = (c : Int)) (hc : c < 8388608) (hx : x < 256) (EX : wrap32 (((x : Int) - 127) % 4294967296) = y) (h1 : y = 128) :
    Calls Try.prog 43 #[.float .f32 n] w fun e w' => e = .returned (.int .i64 0) ∧ Drawn0 w w' := by
  have run := run_f32bits n
  go_enter Try.func43, Try.ntmps43
  go_wp2
  go_ret
  exact ⟨rfl, Drawn0.refl _⟩
set_option maxHeartbeats 2000000 in
set_option maxRecDepth 100000 in
theorem prec_u (n x c : Nat) (y : Int) (w : World) (n0 : ((n : Int) == 0) = false) (n1 : ((n : Int) == 2147483648) = false) (E2 : Go.bits .and .u32 (n : Int) 2139095040 = ((x * 8388608 : Nat) : Int)) (E3 : Go.bits .and .u32 (n : Int) 8388607 = (c : Int)) (hc : c < 8388608) (hx : x < 256) (EX : wrap32 (((x : Int) - 127) % 4294967296) = y) (h1 : y < -24) :
    Calls Try.prog 43 #[.float .f32 n] w fun e w' => e = .returned (.int .i64 3) ∧ Drawn0 w w' := by
  have run := run_f32bits n
  go_enter Try.func43, Try.ntmps43
  go_wp2
  go_ret
  exact ⟨rfl, Drawn0.refl _⟩
set_option maxHeartbeats 2000000 in
set_option maxRecDepth 100000 in
theorem prec_o (n x c : Nat) (y : Int) (w : World) (n0 : ((n : Int) == 0) = false) (n1 : ((n : Int) == 2147483648) = false) (E2 : Go.bits .and .u32 (n : Int) 2139095040 = ((x * 8388608 : Nat) : Int)) (E3 : Go.bits .and .u32 (n : Int) 8388607 = (c : Int)) (hc : c < 8388608) (hx : x < 256) (EX : wrap32 (((x : Int) - 127) % 4294967296) = y) (h1 : y < 128) (h2 : 15 < y) :
    Calls Try.prog 43 #[.float .f32 n] w fun e w' => e = .returned (.int .i64 4) ∧ Drawn0 w w' := by
  have run := run_f32bits n
  go_enter Try.func43, Try.ntmps43
  go_wp2
  go_ret
  exact ⟨rfl, Drawn0.refl _⟩
set_option maxHeartbeats 2000000 in
set_option maxRecDepth 100000 in
theorem prec_i (n x c : Nat) (y : Int) (w : World) (n0 : ((n : Int) == 0) = false) (n1 : ((n : Int) == 2147483648) = false) (E2 : Go.bits .and .u32 (n : Int) 2139095040 = ((x * 8388608 : Nat) : Int)) (E3 : Go.bits .and .u32 (n : Int) 8388607 = (c : Int)) (hc : c < 8388608) (hx : x < 256) (EX : wrap32 (((x : Int) - 127) % 4294967296) = y) (h1 : -24 ≤ y) (h2 : y ≤ 15) (E4 : (Go.bits .and .u32 (c : Int) 8191 != 0) = true) :
    Calls Try.prog 43 #[.float .f32 n] w fun e w' => e = .returned (.int .i64 2) ∧ Drawn0 w w' := by
  have run := run_f32bits n
  go_enter Try.func43, Try.ntmps43
  go_wp2
  go_ret
  exact ⟨rfl, Drawn0.refl _⟩
set_option maxHeartbeats 2000000 in
set_option maxRecDepth 100000 in
theorem prec_k (n x c : Nat) (y : Int) (w : World) (n0 : ((n : Int) == 0) = false) (n1 : ((n : Int) == 2147483648) = false) (E2 : Go.bits .and .u32 (n : Int) 2139095040 = ((x * 8388608 : Nat) : Int)) (E3 : Go.bits .and .u32 (n : Int) 8388607 = (c : Int)) (hc : c < 8388608) (hx : x < 256) (EX : wrap32 (((x : Int) - 127) % 4294967296) = y) (h1 : -24 ≤ y) (h2 : y < -14) (E4 : (Go.bits .and .u32 (c : Int) 8191 != 0) = false) :
    Calls Try.prog 43 #[.float .f32 n] w fun e w' => e = .returned (.int .i64 1) ∧ Drawn0 w w' := by
  have run := run_f32bits n
  go_enter Try.func43, Try.ntmps43
  go_wp2
  go_ret
  exact ⟨rfl, Drawn0.refl _⟩
set_option maxHeartbeats 2000000 in
set_option maxRecDepth 100000 in
theorem prec_e (n x c : Nat) (y : Int) (w : World) (n0 : ((n : Int) == 0) = false) (n1 : ((n : Int) == 2147483648) = false) (E2 : Go.bits .and .u32 (n : Int) 2139095040 = ((x * 8388608 : Nat) : Int)) (E3 : Go.bits .and .u32 (n : Int) 8388607 = (c : Int)) (hc : c < 8388608) (hx : x < 256) (EX : wrap32 (((x : Int) - 127) % 4294967296) = y) (h1 : -14 ≤ y) (h2 : y ≤ 15) (E4 : (Go.bits .and .u32 (c : Int) 8191 != 0) = false) :
    Calls Try.prog 43 #[.float .f32 n] w fun e w' => e = .returned (.int .i64 0) ∧ Drawn0 w w' := by
  have run := run_f32bits n
  go_enter Try.func43, Try.ntmps43
  go_wp2
  go_ret
  exact ⟨rfl, Drawn0.refl _⟩
def prec (n : Nat) : Nat :=
  if n = 0 ∨ n = 2147483648 then 0
  else if n / 8388608 % 256 = 255 then 0
  else if n / 8388608 % 256 < 103 then 3
  else if 142 < n / 8388608 % 256 then 4
  else if n % 8192 ≠ 0 then 2
  else if n / 8388608 % 256 < 113 then 1
  else 0
theorem prec_le (n : Nat) : prec n = 0 ∨ prec n = 1 ∨ prec n = 2 ∨ prec n = 3 ∨ prec n = 4 := by
  unfold prec
  repeat' split
  all_goals omega
theorem low13 (c : Nat) (hc : c < 8388608) : (Go.bits .and .u32 (c : Int) 8191 != 0) = (c % 8192 != 0) := by
  have e := u32_and c 8191 (by omega) (by decide)
  rw [show ((8191 : Nat) : Int) = 8191 from rfl, show (8191 : Nat) = 2 ^ 13 - 1 from rfl, Nat.and_two_pow_sub_one_eq_mod] at e
  rw [e]
  exact nat_bne _ _ rfl
theorem prec_exp (x : Nat) (hx : x < 256) : wrap32 (((x : Int) - 127) % 4294967296) = (x : Int) - 127 := by
  unfold wrap32
  omega
theorem float16_Prec.calls (n : Nat) (w : World) (hn : n < 4294967296) : Calls Try.prog 43 #[.float .f32 n] w fun e w' => e = .returned (.int .i64 ((prec n : Nat) : Int)) ∧ Drawn0 w w' := by
  by_cases z0 : n = 0
  · have e : prec n = 0 := by unfold prec; rw [if_pos (Or.inl z0)]
    rw [e]
    exact prec_z0 n w z0
  by_cases z1 : n = 2147483648
  · have e : prec n = 0 := by unfold prec; rw [if_pos (Or.inr z1)]
    rw [e]
    exact prec_z1 n w z1
  have n0 : ((n : Int) == 0) = false := beq_eq_false_iff_ne.mpr (by omega)
  have n1 : ((n : Int) == 2147483648) = false := beq_eq_false_iff_ne.mpr (by omega)
  have E2 := and_exp n hn
  have E3 := and_frac n hn
  have hc : n % 8388608 < 8388608 := by omega
  have hx : n / 8388608 % 256 < 256 := by omega
  have EX := prec_exp _ hx
  have b := low13 _ hc
  rw [show n % 8388608 % 8192 = n % 8192 by omega] at b
  unfold prec
  rw [if_neg (by omega)]
  generalize n / 8388608 % 256 = x at *
  split
  · exact prec_t n x _ _ w n0 n1 E2 E3 hc hx EX (by omega)
  split
  · exact prec_u n x _ _ w n0 n1 E2 E3 hc hx EX (by omega)
  split
  · exact prec_o n x _ _ w n0 n1 E2 E3 hc hx EX (by omega) (by omega)
  split
  · rename_i h
    have b' : (n % 8192 != 0) = true := bne_iff_ne.mpr h
    rw [b'] at b
    exact prec_i n x _ _ w n0 n1 E2 E3 hc hx EX (by omega) (by omega) b
  rename_i h
  have b' : (n % 8192 != 0) = false := bne_eq_false_iff_eq.mpr (Decidable.not_not.mp h)
  rw [b'] at b
  split
  · exact prec_k n x _ _ w n0 n1 E2 E3 hc hx EX (by omega) (by omega) b
  · exact prec_e n x _ _ w n0 n1 E2 E3 hc hx EX (by omega) (by omega) b
def impl_HalfPrecision.f (a0 : Int) : Option Int := if 0 ≤ a0 ∧ a0 < 4294967296 then some ((prec a0.toNat : Nat) : Int) else none
set_option maxHeartbeats 2000000 in
set_option maxRecDepth 100000 in
theorem impl_HalfPrecision.calls (a0 : Int) (r : Int) (w : World) (h : impl_HalfPrecision.f a0 = some r) :
    Calls Try.prog 26 #[.int .u32 a0] w fun e w' => e = .returned (.int .i64 r) ∧ Drawn0 w w' := by
  unfold impl_HalfPrecision.f at h
  split at h
  case isFalse => cases h
  rename_i h0
  obtain rfl := Option.some.inj h
  obtain ⟨n, rfl⟩ := Int.eq_ofNat_of_zero_le h0.1
  have HP := Lib.hid (float16_Prec.calls n w (by have := h0.2; omega))
  have hle := prec_le n
  rw [Int.toNat_natCast]
  clear h h0
  have run := run_f32from
  generalize prec n = p at HP hle ⊢
  rcases hle with rfl | rfl | rfl | rfl | rfl <;>
  · go_enter Try.func26, Try.ntmps26
    go_wp2_with fail
    refine (id HP).mono ?_
    rintro e w1 ⟨rfl, hb⟩
    go_wp2
    go_ret
    exact ⟨rfl, hb⟩

/-! ### spec_HalfReport: function 27 -/
mutual
def spec_HalfReport.l0 : Nat → Int → Int → Int → Int → Option (Int)
  | 0, _, _, _, _ => none
  | k + 1, x0, x3, x5, x6 => if x6 > 1 then (spec_HalfReport.l0 k x0 x3 (wrap64 (x5 + 1)) (wrap64 (Int.tdiv x6 2))) else ((spec_SingleKind.f x0).bind fun t167 => (if t167 = 0 then (spec_HalfReport.j1 k x0 x5 (x3 == 0)) else (spec_HalfReport.j1 k x0 x5 true)))
def spec_HalfReport.j1 : Nat → Int → Int → Bool → Option (Int)
  | 0, _, _, _ => none
  | k + 1, x0, x5, x20 => if x20 = true then (some 0) else (if x5 < (-24) then (some 3) else (if x5 > 15 then (some 4) else (if (Go.bits .and .u32 x0 8191) = 0 then (if x5 < (-14) then (some 1) else (some 0)) else (some 2))))
end
def spec_HalfReport.f (k : Nat) (a0 : Int) : Option (Int) := (spec_SingleValue.f a0).bind fun bt165 => (spec_HalfReport.l0 k a0 bt165.1 bt165.2 bt165.1)
theorem spec_HalfReport.mono_l : ∀ k, (∀ y0 y1 y2 y3, LeO (spec_HalfReport.l0 k y0 y1 y2 y3) (spec_HalfReport.l0 (k + 1) y0 y1 y2 y3)) ∧ (∀ y0 y1 y2, LeO (spec_HalfReport.j1 k y0 y1 y2) (spec_HalfReport.j1 (k + 1) y0 y1 y2))
  | 0 => ⟨fun _ _ _ _ r h => by simp [spec_HalfReport.l0] at h, fun _ _ _ r h => by simp [spec_HalfReport.j1] at h⟩
  | k + 1 => by
    obtain ⟨ih0, ih1⟩ := spec_HalfReport.mono_l k
    refine ⟨?_, ?_⟩
    · intro y0 y1 y2 y3
      unfold spec_HalfReport.l0
      repeat' first
      | (with_reducible exact ih0 _ _ _ _)
      | (with_reducible exact ih1 _ _ _)
      | (with_reducible exact LeO.refl _)
      | (with_reducible exact LeO.none _)
      | (with_reducible refine LeO.ite ?_ ?_)
      | (with_reducible refine LeO.bind ?_ (fun _ => ?_))
      | exact ih0 _ _ _ _
      | exact ih1 _ _ _
      | exact LeO.none _
      | refine LeO.ite ?_ ?_
      | refine LeO.bind ?_ (fun _ => ?_)
    · intro y0 y1 y2
      unfold spec_HalfReport.j1
      repeat' first
      | (with_reducible exact ih0 _ _ _ _)
      | (with_reducible exact ih1 _ _ _)
      | (with_reducible exact LeO.refl _)
      | (with_reducible exact LeO.none _)
      | (with_reducible refine LeO.ite ?_ ?_)
      | (with_reducible refine LeO.bind ?_ (fun _ => ?_))
      | exact ih0 _ _ _ _
      | exact ih1 _ _ _
      | exact LeO.none _
      | refine LeO.ite ?_ ?_
      | refine LeO.bind ?_ (fun _ => ?_)
theorem spec_HalfReport.mono : ∀ a0 k, LeO (spec_HalfReport.f k a0) (spec_HalfReport.f (k + 1) a0) := by
  intro a0 k
  obtain ⟨ih0, ih1⟩ := spec_HalfReport.mono_l k
  unfold spec_HalfReport.f
  repeat' first
      | (with_reducible exact ih0 _ _ _ _)
      | (with_reducible exact ih1 _ _ _)
      | (with_reducible exact LeO.refl _)
      | (with_reducible exact LeO.none _)
      | (with_reducible refine LeO.ite ?_ ?_)
      | (with_reducible refine LeO.bind ?_ (fun _ => ?_))
      | exact ih0 _ _ _ _
      | exact ih1 _ _ _
      | exact LeO.none _
      | refine LeO.ite ?_ ?_
      | refine LeO.bind ?_ (fun _ => ?_)
set_option maxHeartbeats 8000000 in
set_option maxRecDepth 100000 in
theorem spec_HalfReport.calls (k : Nat) (a0 : Int) (r : Int) (w : World) (h : spec_HalfReport.f k a0 = some r) :
    Calls Try.prog 27 #[.int .u32 a0] w fun e w' => e = .returned (.int .i64 r) ∧ Drawn0 w w' := by
  have H : ((spec_SingleValue.f a0).bind fun bt165 => (spec_HalfReport.l0 k a0 bt165.1 bt165.2 bt165.1)) = some r := h
  clear h
  replace H := Option.bind_eq_some_iff.mp H
  obtain ⟨⟨t165, t166⟩, A20, H⟩ := H
  replace H : (spec_HalfReport.l0 k a0 t165 t166 t165) = some r := H
  have A2 := Aside0.mk A20
  clear A20
  have H' := Aside0.mk H
  clear H
  go_enter Try.func27, Try.ntmps27
  go_wp2_with (first | ((with_reducible refine gate_callee (f := 21) rfl ?_); refine goesL_ (some 9) rfl rfl Try.func21 (by kernel_rfl) rfl #[.int .u32 a0] rfl (by (try simp only [List.map_toArray, List.map_cons, List.map_nil]); first | done | rfl | (simp only [List.length_drop, List.length_take]; rfl)) ?_; (with_reducible refine (spec_SingleValue.calls a0 t165 t166 _ A2.out).mono ?_); rintro e w' ⟨rfl, ⟨nd, rfl⟩⟩; refine ⟨_, rfl, ?_⟩))
  go_loopg [5, 6] k (fun kq v5 v6 w' => ∃ (x5_1 : Int) (x6_1 : Int), v5 = .int .i64 x5_1 ∧ v6 = .int .i64 x6_1 ∧ Aside0 (spec_HalfReport.l0 kq a0 t165 x5_1 x6_1 = some r) ∧ Aside0 (kq ≤ k) ∧ Drawn0 w w')
  case atStart => exact ⟨(t166), (t165), (by first | rfl | (simp; done) | (simp [*]; done)), (by first | rfl | (simp; done) | (simp [*]; done)), H', ⟨Nat.le_refl _⟩, by repeat (first | exact Drawn0.refl _ | apply Drawn0.step)⟩
  case round =>
    clear H'
    try clear c2
    try clear p2
    obtain ⟨x5_1, x6_1, rfl, rfl, HA, HK1, ⟨m1, rfl⟩⟩ := hrel
    cases gk with
    | zero => exact absurd HA.out (by simp [spec_HalfReport.l0])
    | succ k1 =>
      have H := HA.out
      clear HA
      simp only [spec_HalfReport.l0] at H
      by_cases c3 : x6_1 > 1
      · rw [if_pos c3] at H
        have c3b0 : decide (1 < x6_1) = true := decide_eq_true c3
        clear c3
        have H' := Aside0.mk H
        clear H
        go_wp2
        go_roundg k1
        case measure => have := HK1.out; omega
        case rel => exact ⟨(wrap64 (x5_1 + 1)), (wrap64 (Int.tdiv x6_1 2)), (by first | rfl | (simp; done) | (simp [*]; done)), (by first | rfl | (simp; done) | (simp [*]; done)), H', ⟨by have := HK1.out; omega⟩, by repeat (first | exact Drawn0.refl _ | apply Drawn0.step)⟩
      · rw [if_neg c3] at H
        have c3b0 : decide (1 < x6_1) = false := decide_eq_false c3
        clear c3
        have HC4 := Aside0.mk H
        clear H
        go_upto_region 7 with (fail)
        go_cut [20] (fun v20 wc => ∃ (kq : Nat) (x20_3 : Bool), v20 = .bool x20_3 ∧ Aside0 (spec_HalfReport.j1 kq a0 x5_1 x20_3 = some r) ∧ Aside0 (kq ≤ k1) ∧ Drawn0 w wc)
        case first =>
          have H := HC4.out
          clear HC4
          replace H := Option.bind_eq_some_iff.mp H
          obtain ⟨t167, A50, H⟩ := H
          replace H : (if t167 = 0 then (spec_HalfReport.j1 k1 a0 x5_1 (t165 == 0)) else (spec_HalfReport.j1 k1 a0 x5_1 true)) = some r := H
          have A5 := Aside0.mk A50
          clear A50
          by_cases c6 : t167 = 0
          · rw [if_pos c6] at H
            have c6b0 : (t167 == 0) = true := beq_iff_eq.mpr c6
            have c6b1 : (t167 != 0) = false := bne_eq_false_iff_eq.mpr c6
            clear c6
            (first | rw [c6b0] | (simp only [i64_w, i32_w]; rw [c6b0]) | skip)
            have H' := Aside0.mk H
            clear H
            go_wp2_with (first | ((with_reducible refine gate_callee (f := 19) rfl ?_); refine goesL_ (some 22) rfl rfl Try.func19 (by kernel_rfl) rfl #[.int .u32 a0] rfl (by (try simp only [List.map_toArray, List.map_cons, List.map_nil]); first | done | rfl | (simp only [List.length_drop, List.length_take]; rfl)) ?_; (with_reducible refine (spec_SingleKind.calls a0 t167 _ A5.out).mono ?_); rintro e w' ⟨rfl, ⟨nd, rfl⟩⟩; refine ⟨_, rfl, ?_⟩))
            go_meet
            case rel => exact ⟨_, ((t165 == 0)), (by first | rfl | (simp; done) | (simp [*]; done)), H', ⟨by have := HK1.out; first | omega | exact Nat.le_refl _⟩, by repeat (first | exact Drawn0.refl _ | apply Drawn0.step)⟩
          · rw [if_neg c6] at H
            have c6b0 : (t167 == 0) = false := beq_eq_false_iff_ne.mpr c6
            have c6b1 : (t167 != 0) = true := bne_iff_ne.mpr c6
            (first | rw [c6b0] | (simp only [i64_w, i32_w]; rw [c6b0]) | skip)
            have H' := Aside0.mk H
            clear H
            go_wp2_with (first | ((with_reducible refine gate_callee (f := 19) rfl ?_); refine goesL_ (some 22) rfl rfl Try.func19 (by kernel_rfl) rfl #[.int .u32 a0] rfl (by (try simp only [List.map_toArray, List.map_cons, List.map_nil]); first | done | rfl | (simp only [List.length_drop, List.length_take]; rfl)) ?_; (with_reducible refine (spec_SingleKind.calls a0 t167 _ A5.out).mono ?_); rintro e w' ⟨rfl, ⟨nd, rfl⟩⟩; refine ⟨_, rfl, ?_⟩))
            go_meet
            case rel => exact ⟨_, (true), (by first | rfl | (simp; done) | (simp [*]; done)), H', ⟨by have := HK1.out; first | omega | exact Nat.le_refl _⟩, by repeat (first | exact Drawn0.refl _ | apply Drawn0.step)⟩
        case rest =>
          clear HC4
          try clear c1
          try clear c2
          try clear p2
          try clear c3
          try clear c3b0
          try clear c6
          try clear c6b0
          try clear c6b1
          try clear p6
          try clear p2
          obtain ⟨kq, x20_3, rfl, HA, HJ3, ⟨mc3, rfl⟩⟩ := hcut
          cases kq with
          | zero => exact absurd HA.out (by simp [spec_HalfReport.j1])
          | succ kj3 =>
            have H := HA.out
            clear HA
            simp only [spec_HalfReport.j1] at H
            by_cases c7 : x20_3 = true
            · subst c7
              have H1 : (some 0) = some r := by rw [if_pos rfl] at H; exact H
              clear H
              have H := H1
              clear H1
              obtain rfl := Option.some.inj H
              go_wp2
              go_ret
              exact ⟨by first | rfl | (simp; done) | (simp [*]; done), by repeat (first | exact Drawn0.refl _ | apply Drawn0.step)⟩
            · replace c7 := Bool.eq_false_iff.mpr c7
              subst c7
              have H1 : (if x5_1 < (-24) then (some 3) else (if x5_1 > 15 then (some 4) else (if (Go.bits .and .u32 a0 8191) = 0 then (if x5_1 < (-14) then (some 1) else (some 0)) else (some 2)))) = some r := by rw [if_neg (show ¬ (false = true) by decide)] at H; exact H
              clear H
              have H := H1
              clear H1
              by_cases c8 : x5_1 < (-24)
              · rw [if_pos c8] at H
                have c8b0 : decide (x5_1 < (-24)) = true := decide_eq_true c8
                clear c8
                obtain rfl := Option.some.inj H
                go_wp2
                go_ret
                exact ⟨by first | rfl | (simp; done) | (simp [*]; done), by repeat (first | exact Drawn0.refl _ | apply Drawn0.step)⟩
              · rw [if_neg c8] at H
                have c8b0 : decide (x5_1 < (-24)) = false := decide_eq_false c8
                clear c8
                by_cases c9 : x5_1 > 15
                · rw [if_pos c9] at H
                  have c9b0 : decide (15 < x5_1) = true := decide_eq_true c9
                  clear c9
                  obtain rfl := Option.some.inj H
                  go_wp2
                  go_ret
                  exact ⟨by first | rfl | (simp; done) | (simp [*]; done), by repeat (first | exact Drawn0.refl _ | apply Drawn0.step)⟩
                · rw [if_neg c9] at H
                  have c9b0 : decide (15 < x5_1) = false := decide_eq_false c9
                  clear c9
                  by_cases c10 : (Go.bits .and .u32 a0 8191) = 0
                  · rw [if_pos c10] at H
                    have c10b0 : ((Go.bits .and .u32 a0 8191) == 0) = true := beq_iff_eq.mpr c10
                    have c10b1 : ((Go.bits .and .u32 a0 8191) != 0) = false := bne_eq_false_iff_eq.mpr c10
                    clear c10
                    by_cases c11 : x5_1 < (-14)
                    · rw [if_pos c11] at H
                      have c11b0 : decide (x5_1 < (-14)) = true := decide_eq_true c11
                      clear c11
                      obtain rfl := Option.some.inj H
                      go_wp2
                      go_ret
                      exact ⟨by first | rfl | (simp; done) | (simp [*]; done), by repeat (first | exact Drawn0.refl _ | apply Drawn0.step)⟩
                    · rw [if_neg c11] at H
                      have c11b0 : decide (x5_1 < (-14)) = false := decide_eq_false c11
                      clear c11
                      obtain rfl := Option.some.inj H
                      go_wp2
                      go_ret
                      exact ⟨by first | rfl | (simp; done) | (simp [*]; done), by repeat (first | exact Drawn0.refl _ | apply Drawn0.step)⟩
                  · rw [if_neg c10] at H
                    have c10b0 : ((Go.bits .and .u32 a0 8191) == 0) = false := beq_eq_false_iff_ne.mpr c10
                    have c10b1 : ((Go.bits .and .u32 a0 8191) != 0) = true := bne_iff_ne.mpr c10
                    obtain rfl := Option.some.inj H
                    go_wp2
                    go_ret
                    exact ⟨by first | rfl | (simp; done) | (simp [*]; done), by repeat (first | exact Drawn0.refl _ | apply Drawn0.step)⟩


/-! ### laws_FnHalfPrecision: function 9 -/
def laws_FnHalfPrecision.f (k : Nat) (a0 : Int) : Option (Bool) := (impl_HalfPrecision.f a0).bind fun t168 => ((spec_HalfReport.f k a0).bind fun t169 => (some (t168 == t169)))
theorem laws_FnHalfPrecision.mono : ∀ a0 k, LeO (laws_FnHalfPrecision.f k a0) (laws_FnHalfPrecision.f (k + 1) a0) := by
  intro a0 k
  unfold laws_FnHalfPrecision.f
  repeat' first
      | (with_reducible exact spec_HalfReport.mono _ _)
      | (with_reducible exact LeO.refl _)
      | (with_reducible exact LeO.none _)
      | (with_reducible refine LeO.ite ?_ ?_)
      | (with_reducible refine LeO.bind ?_ (fun _ => ?_))
      | exact spec_HalfReport.mono _ _
      | exact LeO.none _
      | refine LeO.ite ?_ ?_
      | refine LeO.bind ?_ (fun _ => ?_)
set_option maxHeartbeats 8000000 in
set_option maxRecDepth 100000 in
theorem laws_FnHalfPrecision.calls (k : Nat) (a0 : Int) (r : Bool) (w : World) (h : laws_FnHalfPrecision.f k a0 = some r) :
    Calls Try.prog 9 #[.int .u32 a0] w fun e w' => e = .returned (.bool r) ∧ Drawn0 w w' := by
  have H : ((impl_HalfPrecision.f a0).bind fun t168 => ((spec_HalfReport.f k a0).bind fun t169 => (some (t168 == t169)))) = some r := h
  clear h
  replace H := Option.bind_eq_some_iff.mp H
  obtain ⟨t168, A20, H⟩ := H
  replace H : ((spec_HalfReport.f k a0).bind fun t169 => (some (t168 == t169))) = some r := H
  have A2 := Aside0.mk A20
  clear A20
  replace H := Option.bind_eq_some_iff.mp H
  obtain ⟨t169, A30, H⟩ := H
  replace H : (some (t168 == t169)) = some r := H
  have A3 := Aside0.mk A30
  clear A30
  obtain rfl := Option.some.inj H
  go_enter Try.func9, Try.ntmps9
  go_wp2_with (first | ((with_reducible refine gate_callee (f := 26) rfl ?_); refine goesL_ (some 4) rfl rfl Try.func26 (by kernel_rfl) rfl #[.int .u32 a0] rfl (by (try simp only [List.map_toArray, List.map_cons, List.map_nil]); first | done | rfl | (simp only [List.length_drop, List.length_take]; rfl)) ?_; (with_reducible refine (impl_HalfPrecision.calls a0 t168 _ A2.out).mono ?_); rintro e w' ⟨rfl, ⟨nd, rfl⟩⟩; refine ⟨_, rfl, ?_⟩) | ((with_reducible refine gate_callee (f := 27) rfl ?_); refine goesL_ (some 6) rfl rfl Try.func27 (by kernel_rfl) rfl #[.int .u32 a0] rfl (by (try simp only [List.map_toArray, List.map_cons, List.map_nil]); first | done | rfl | (simp only [List.length_drop, List.length_take]; rfl)) ?_; (with_reducible refine (spec_HalfReport.calls k a0 t169 _ A3.out).mono ?_); rintro e w' ⟨rfl, ⟨nd, rfl⟩⟩; refine ⟨_, rfl, ?_⟩))
  go_ret
  exact ⟨by first | rfl | (simp; done) | (simp [*]; done), by repeat (first | exact Drawn0.refl _ | apply Drawn0.step)⟩

/-- THE ONE PURE STATEMENT of laws_FnHalfPrecision: yours. -/
def laws_FnHalfPrecision.Pure : Prop := ∀ (a0 : Int), (Lit.int .u32 a0).wf = true → ∃ k, laws_FnHalfPrecision.f k a0 = some true
theorem laws_FnHalfPrecision.walk (P : laws_FnHalfPrecision.Pure) (a0 : Int) (w : World) (w0 : (Lit.int .u32 a0).wf = true) :
    Calls Try.prog 9 #[.int .u32 a0] w fun e w' => e = .returned (.bool true) ∧ Below w.heap.size w w' := by
  obtain ⟨k, h⟩ := P a0 w0
  refine (laws_FnHalfPrecision.calls k a0 true w h).mono ?_
  rintro e w' ⟨rfl, hd⟩
  exact ⟨rfl, hd.below⟩


-- NOT PRINTED: function 44 (float16_FromNaN32ps)

-- NOT PRINTED: function 28 (impl_HalfFromNaN)

-- NOT PRINTED: function 10 (laws_FnHalfNaN)

/-! ### laws_FnHalfBack: function 11 -/
def laws_FnHalfBack.f (k : Nat) (a0 : Int) : Option (Bool) := (impl_HalfTo.f k a0).bind fun t170 => ((impl_HalfFrom.f t170).bind fun t171 => ((spec_HalfKind.f a0).bind fun t172 => (if t172 = 2 then (some (t171 == (Go.bits .or .u16 a0 512))) else (some (t171 == a0)))))
theorem laws_FnHalfBack.mono : ∀ a0 k, LeO (laws_FnHalfBack.f k a0) (laws_FnHalfBack.f (k + 1) a0) := by
  intro a0 k
  unfold laws_FnHalfBack.f
  repeat' first
      | (with_reducible exact impl_HalfTo.mono _ _)
      | (with_reducible exact LeO.refl _)
      | (with_reducible exact LeO.none _)
      | (with_reducible refine LeO.ite ?_ ?_)
      | (with_reducible refine LeO.bind ?_ (fun _ => ?_))
      | exact impl_HalfTo.mono _ _
      | exact LeO.none _
      | refine LeO.ite ?_ ?_
      | refine LeO.bind ?_ (fun _ => ?_)
set_option maxHeartbeats 8000000 in
set_option maxRecDepth 100000 in
theorem laws_FnHalfBack.calls (k : Nat) (a0 : Int) (r : Bool) (w : World) (h : laws_FnHalfBack.f k a0 = some r) :
    Calls Try.prog 11 #[.int .u16 a0] w fun e w' => e = .returned (.bool r) ∧ Drawn0 w w' := by
  have H : ((impl_HalfTo.f k a0).bind fun t170 => ((impl_HalfFrom.f t170).bind fun t171 => ((spec_HalfKind.f a0).bind fun t172 => (if t172 = 2 then (some (t171 == (Go.bits .or .u16 a0 512))) else (some (t171 == a0)))))) = some r := h
  clear h
  replace H := Option.bind_eq_some_iff.mp H
  obtain ⟨t170, A20, H⟩ := H
  replace H : ((impl_HalfFrom.f t170).bind fun t171 => ((spec_HalfKind.f a0).bind fun t172 => (if t172 = 2 then (some (t171 == (Go.bits .or .u16 a0 512))) else (some (t171 == a0))))) = some r := H
  have A2 := Aside0.mk A20
  clear A20
  replace H := Option.bind_eq_some_iff.mp H
  obtain ⟨t171, A30, H⟩ := H
  replace H : ((spec_HalfKind.f a0).bind fun t172 => (if t172 = 2 then (some (t171 == (Go.bits .or .u16 a0 512))) else (some (t171 == a0)))) = some r := H
  have A3 := Aside0.mk A30
  clear A30
  replace H := Option.bind_eq_some_iff.mp H
  obtain ⟨t172, A40, H⟩ := H
  replace H : (if t172 = 2 then (some (t171 == (Go.bits .or .u16 a0 512))) else (some (t171 == a0))) = some r := H
  have A4 := Aside0.mk A40
  clear A40
  by_cases c5 : t172 = 2
  · rw [if_pos c5] at H
    have c5b0 : (t172 == 2) = true := beq_iff_eq.mpr c5
    have c5b1 : (t172 != 2) = false := bne_eq_false_iff_eq.mpr c5
    clear c5
    obtain rfl := Option.some.inj H
    go_enter Try.func11, Try.ntmps11
    go_wp2_with (first | ((with_reducible refine gate_callee (f := 18) rfl ?_); refine goesL_ (some 5) rfl rfl Try.func18 (by kernel_rfl) rfl #[.int .u16 a0] rfl (by (try simp only [List.map_toArray, List.map_cons, List.map_nil]); first | done | rfl | (simp only [List.length_drop, List.length_take]; rfl)) ?_; (with_reducible refine (impl_HalfTo.calls k a0 t170 _ A2.out).mono ?_); rintro e w' ⟨rfl, ⟨nd, rfl⟩⟩; refine ⟨_, rfl, ?_⟩) | ((with_reducible refine gate_callee (f := 23) rfl ?_); refine goesL_ (some 6) rfl rfl Try.func23 (by kernel_rfl) rfl #[.int .u32 t170] rfl (by (try simp only [List.map_toArray, List.map_cons, List.map_nil]); first | done | rfl | (simp only [List.length_drop, List.length_take]; rfl)) ?_; (with_reducible refine (impl_HalfFrom.calls t170 t171 _ A3.out).mono ?_); rintro e w' ⟨rfl, ⟨nd, rfl⟩⟩; refine ⟨_, rfl, ?_⟩) | ((with_reducible refine gate_callee (f := 17) rfl ?_); refine goesL_ (some 8) rfl rfl Try.func17 (by kernel_rfl) rfl #[.int .u16 a0] rfl (by (try simp only [List.map_toArray, List.map_cons, List.map_nil]); first | done | rfl | (simp only [List.length_drop, List.length_take]; rfl)) ?_; (with_reducible refine (spec_HalfKind.calls a0 t172 _ A4.out).mono ?_); rintro e w' ⟨rfl, ⟨nd, rfl⟩⟩; refine ⟨_, rfl, ?_⟩))
    go_ret
    exact ⟨by first | rfl | (simp; done) | (simp [*]; done), by repeat (first | exact Drawn0.refl _ | apply Drawn0.step)⟩
  · rw [if_neg c5] at H
    have c5b0 : (t172 == 2) = false := beq_eq_false_iff_ne.mpr c5
    have c5b1 : (t172 != 2) = true := bne_iff_ne.mpr c5
    obtain rfl := Option.some.inj H
    go_enter Try.func11, Try.ntmps11
    go_wp2_with (first | ((with_reducible refine gate_callee (f := 18) rfl ?_); refine goesL_ (some 5) rfl rfl Try.func18 (by kernel_rfl) rfl #[.int .u16 a0] rfl (by (try simp only [List.map_toArray, List.map_cons, List.map_nil]); first | done | rfl | (simp only [List.length_drop, List.length_take]; rfl)) ?_; (with_reducible refine (impl_HalfTo.calls k a0 t170 _ A2.out).mono ?_); rintro e w' ⟨rfl, ⟨nd, rfl⟩⟩; refine ⟨_, rfl, ?_⟩) | ((with_reducible refine gate_callee (f := 23) rfl ?_); refine goesL_ (some 6) rfl rfl Try.func23 (by kernel_rfl) rfl #[.int .u32 t170] rfl (by (try simp only [List.map_toArray, List.map_cons, List.map_nil]); first | done | rfl | (simp only [List.length_drop, List.length_take]; rfl)) ?_; (with_reducible refine (impl_HalfFrom.calls t170 t171 _ A3.out).mono ?_); rintro e w' ⟨rfl, ⟨nd, rfl⟩⟩; refine ⟨_, rfl, ?_⟩) | ((with_reducible refine gate_callee (f := 17) rfl ?_); refine goesL_ (some 8) rfl rfl Try.func17 (by kernel_rfl) rfl #[.int .u16 a0] rfl (by (try simp only [List.map_toArray, List.map_cons, List.map_nil]); first | done | rfl | (simp only [List.length_drop, List.length_take]; rfl)) ?_; (with_reducible refine (spec_HalfKind.calls a0 t172 _ A4.out).mono ?_); rintro e w' ⟨rfl, ⟨nd, rfl⟩⟩; refine ⟨_, rfl, ?_⟩))
    go_ret
    exact ⟨by first | rfl | (simp; done) | (simp [*]; done), by repeat (first | exact Drawn0.refl _ | apply Drawn0.step)⟩

/-- THE ONE PURE STATEMENT of laws_FnHalfBack: yours. -/
def laws_FnHalfBack.Pure : Prop := ∀ (a0 : Int), (Lit.int .u16 a0).wf = true → ∃ k, laws_FnHalfBack.f k a0 = some true
theorem laws_FnHalfBack.walk (P : laws_FnHalfBack.Pure) (a0 : Int) (w : World) (w0 : (Lit.int .u16 a0).wf = true) :
    Calls Try.prog 11 #[.int .u16 a0] w fun e w' => e = .returned (.bool true) ∧ Below w.heap.size w w' := by
  obtain ⟨k, h⟩ := P a0 w0
  refine (laws_FnHalfBack.calls k a0 true w h).mono ?_
  rintro e w' ⟨rfl, hd⟩
  exact ⟨rfl, hd.below⟩


/-! ### laws_FnHalfKnown: function 12 -/
def laws_FnHalfKnown.j0 : Nat → Int → Int → Bool → Option (Bool)
  | 0, _, _, _ => none
  | k + 1, x0, x3, x11 => if x11 = true then ((impl_HalfTo.f k x0).bind fun t173 => ((impl_HalfPrecision.f t173).bind fun t174 => (some (t174 == 1)))) else ((impl_HalfTo.f k x0).bind fun t175 => ((impl_HalfPrecision.f t175).bind fun t176 => (some (t176 == x3))))
def laws_FnHalfKnown.f (k : Nat) (a0 : Int) : Option (Bool) := if (Go.bits .and .u16 a0 31744) = 0 then (laws_FnHalfKnown.j0 k a0 0 ((Go.bits .and .u16 a0 1023) != 0)) else (laws_FnHalfKnown.j0 k a0 0 false)
theorem laws_FnHalfKnown.mono_l : ∀ k, (∀ y0 y1 y2, LeO (laws_FnHalfKnown.j0 k y0 y1 y2) (laws_FnHalfKnown.j0 (k + 1) y0 y1 y2))
  | 0 => fun _ _ _ r h => by simp [laws_FnHalfKnown.j0] at h
  | k + 1 => by
    have ih0 := laws_FnHalfKnown.mono_l k
    · intro y0 y1 y2
      unfold laws_FnHalfKnown.j0
      repeat' first
      | (with_reducible exact ih0 _ _ _)
      | (with_reducible exact impl_HalfTo.mono _ _)
      | (with_reducible exact LeO.refl _)
      | (with_reducible exact LeO.none _)
      | (with_reducible refine LeO.ite ?_ ?_)
      | (with_reducible refine LeO.bind ?_ (fun _ => ?_))
      | exact ih0 _ _ _
      | exact impl_HalfTo.mono _ _
      | exact LeO.none _
      | refine LeO.ite ?_ ?_
      | refine LeO.bind ?_ (fun _ => ?_)
theorem laws_FnHalfKnown.mono : ∀ a0 k, LeO (laws_FnHalfKnown.f k a0) (laws_FnHalfKnown.f (k + 1) a0) := by
  intro a0 k
  have ih0 := laws_FnHalfKnown.mono_l k
  unfold laws_FnHalfKnown.f
  repeat' first
      | (with_reducible exact ih0 _ _ _)
      | (with_reducible exact impl_HalfTo.mono _ _)
      | (with_reducible exact LeO.refl _)
      | (with_reducible exact LeO.none _)
      | (with_reducible refine LeO.ite ?_ ?_)
      | (with_reducible refine LeO.bind ?_ (fun _ => ?_))
      | exact ih0 _ _ _
      | exact impl_HalfTo.mono _ _
      | exact LeO.none _
      | refine LeO.ite ?_ ?_
      | refine LeO.bind ?_ (fun _ => ?_)
set_option maxHeartbeats 8000000 in
set_option maxRecDepth 100000 in
theorem laws_FnHalfKnown.calls (k : Nat) (a0 : Int) (r : Bool) (w : World) (h : laws_FnHalfKnown.f k a0 = some r) :
    Calls Try.prog 12 #[.int .u16 a0] w fun e w' => e = .returned (.bool r) ∧ Drawn0 w w' := by
  have H : (if (Go.bits .and .u16 a0 31744) = 0 then (laws_FnHalfKnown.j0 k a0 0 ((Go.bits .and .u16 a0 1023) != 0)) else (laws_FnHalfKnown.j0 k a0 0 false)) = some r := h
  clear h
  have HC2 := Aside0.mk H
  clear H
  go_enter Try.func12, Try.ntmps12
  go_upto_region 2 with (fail)
  go_cut [11] (fun v11 wc => ∃ (kq : Nat) (x11_1 : Bool), v11 = .bool x11_1 ∧ Aside0 (laws_FnHalfKnown.j0 kq a0 0 x11_1 = some r) ∧ Aside0 (kq ≤ k) ∧ Drawn0 w wc)
  case first =>
    have H := HC2.out
    clear HC2
    by_cases c3 : (Go.bits .and .u16 a0 31744) = 0
    · rw [if_pos c3] at H
      have c3b0 : ((Go.bits .and .u16 a0 31744) == 0) = true := beq_iff_eq.mpr c3
      have c3b1 : ((Go.bits .and .u16 a0 31744) != 0) = false := bne_eq_false_iff_eq.mpr c3
      clear c3
      (first | rw [c3b0] | (simp only [i64_w, i32_w]; rw [c3b0]) | skip)
      have H' := Aside0.mk H
      clear H
      go_wp2
      go_meet
      case rel => exact ⟨_, (((Go.bits .and .u16 a0 1023) != 0)), (by first | rfl | (simp; done) | (simp [*]; done)), H', ⟨by first | omega | exact Nat.le_refl _⟩, by repeat (first | exact Drawn0.refl _ | apply Drawn0.step)⟩
    · rw [if_neg c3] at H
      have c3b0 : ((Go.bits .and .u16 a0 31744) == 0) = false := beq_eq_false_iff_ne.mpr c3
      have c3b1 : ((Go.bits .and .u16 a0 31744) != 0) = true := bne_iff_ne.mpr c3
      (first | rw [c3b0] | (simp only [i64_w, i32_w]; rw [c3b0]) | skip)
      have H' := Aside0.mk H
      clear H
      go_wp2
      go_meet
      case rel => exact ⟨_, (false), (by first | rfl | (simp; done) | (simp [*]; done)), H', ⟨by first | omega | exact Nat.le_refl _⟩, by repeat (first | exact Drawn0.refl _ | apply Drawn0.step)⟩
  case rest =>
    clear HC2
    try clear c1
    try clear p2
    try clear c3
    try clear c3b0
    try clear c3b1
    obtain ⟨kq, x11_1, rfl, HA, HJ1, ⟨mc1, rfl⟩⟩ := hcut
    cases kq with
    | zero => exact absurd HA.out (by simp [laws_FnHalfKnown.j0])
    | succ kj1 =>
      have H := HA.out
      clear HA
      simp only [laws_FnHalfKnown.j0] at H
      by_cases c4 : x11_1 = true
      · subst c4
        have H1 : ((impl_HalfTo.f kj1 a0).bind fun t173 => ((impl_HalfPrecision.f t173).bind fun t174 => (some (t174 == 1)))) = some r := by rw [if_pos rfl] at H; exact H
        clear H
        have H := H1
        clear H1
        replace H := Option.bind_eq_some_iff.mp H
        obtain ⟨t173, A50, H⟩ := H
        replace H : ((impl_HalfPrecision.f t173).bind fun t174 => (some (t174 == 1))) = some r := H
        have A5 := Aside0.mk A50
        clear A50
        replace H := Option.bind_eq_some_iff.mp H
        obtain ⟨t174, A60, H⟩ := H
        replace H : (some (t174 == 1)) = some r := H
        have A6 := Aside0.mk A60
        clear A60
        obtain rfl := Option.some.inj H
        go_wp2_with (first | ((with_reducible refine gate_callee (f := 18) rfl ?_); refine goesL_ (some 13) rfl rfl Try.func18 (by kernel_rfl) rfl #[.int .u16 a0] rfl (by (try simp only [List.map_toArray, List.map_cons, List.map_nil]); first | done | rfl | (simp only [List.length_drop, List.length_take]; rfl)) ?_; (with_reducible refine (impl_HalfTo.calls kj1 a0 t173 _ A5.out).mono ?_); rintro e w' ⟨rfl, ⟨nd, rfl⟩⟩; refine ⟨_, rfl, ?_⟩) | ((with_reducible refine gate_callee (f := 26) rfl ?_); refine goesL_ (some 14) rfl rfl Try.func26 (by kernel_rfl) rfl #[.int .u32 t173] rfl (by (try simp only [List.map_toArray, List.map_cons, List.map_nil]); first | done | rfl | (simp only [List.length_drop, List.length_take]; rfl)) ?_; (with_reducible refine (impl_HalfPrecision.calls t173 t174 _ A6.out).mono ?_); rintro e w' ⟨rfl, ⟨nd, rfl⟩⟩; refine ⟨_, rfl, ?_⟩))
        go_ret
        exact ⟨by first | rfl | (simp; done) | (simp [*]; done), by repeat (first | exact Drawn0.refl _ | apply Drawn0.step)⟩
      · replace c4 := Bool.eq_false_iff.mpr c4
        subst c4
        have H1 : ((impl_HalfTo.f kj1 a0).bind fun t175 => ((impl_HalfPrecision.f t175).bind fun t176 => (some (t176 == 0)))) = some r := by rw [if_neg (show ¬ (false = true) by decide)] at H; exact H
        clear H
        have H := H1
        clear H1
        replace H := Option.bind_eq_some_iff.mp H
        obtain ⟨t175, A70, H⟩ := H
        replace H : ((impl_HalfPrecision.f t175).bind fun t176 => (some (t176 == 0))) = some r := H
        have A7 := Aside0.mk A70
        clear A70
        replace H := Option.bind_eq_some_iff.mp H
        obtain ⟨t176, A80, H⟩ := H
        replace H : (some (t176 == 0)) = some r := H
        have A8 := Aside0.mk A80
        clear A80
        obtain rfl := Option.some.inj H
        go_wp2_with (first | ((with_reducible refine gate_callee (f := 18) rfl ?_); refine goesL_ (some 13) rfl rfl Try.func18 (by kernel_rfl) rfl #[.int .u16 a0] rfl (by (try simp only [List.map_toArray, List.map_cons, List.map_nil]); first | done | rfl | (simp only [List.length_drop, List.length_take]; rfl)) ?_; (with_reducible refine (impl_HalfTo.calls kj1 a0 t175 _ A7.out).mono ?_); rintro e w' ⟨rfl, ⟨nd, rfl⟩⟩; refine ⟨_, rfl, ?_⟩) | ((with_reducible refine gate_callee (f := 26) rfl ?_); refine goesL_ (some 14) rfl rfl Try.func26 (by kernel_rfl) rfl #[.int .u32 t175] rfl (by (try simp only [List.map_toArray, List.map_cons, List.map_nil]); first | done | rfl | (simp only [List.length_drop, List.length_take]; rfl)) ?_; (with_reducible refine (impl_HalfPrecision.calls t175 t176 _ A8.out).mono ?_); rintro e w' ⟨rfl, ⟨nd, rfl⟩⟩; refine ⟨_, rfl, ?_⟩))
        go_ret
        exact ⟨by first | rfl | (simp; done) | (simp [*]; done), by repeat (first | exact Drawn0.refl _ | apply Drawn0.step)⟩

/-- THE ONE PURE STATEMENT of laws_FnHalfKnown: yours. -/
def laws_FnHalfKnown.Pure : Prop := ∀ (a0 : Int), (Lit.int .u16 a0).wf = true → ∃ k, laws_FnHalfKnown.f k a0 = some true
theorem laws_FnHalfKnown.walk (P : laws_FnHalfKnown.Pure) (a0 : Int) (w : World) (w0 : (Lit.int .u16 a0).wf = true) :
    Calls Try.prog 12 #[.int .u16 a0] w fun e w' => e = .returned (.bool true) ∧ Below w.heap.size w w' := by
  obtain ⟨k, h⟩ := P a0 w0
  refine (laws_FnHalfKnown.calls k a0 true w h).mono ?_
  rintro e w' ⟨rfl, hd⟩
  exact ⟨rfl, hd.below⟩


end Go.Proofs.Ytdepcnaiobfpkaa.PAll
