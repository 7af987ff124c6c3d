/- Printed by the kit's print.py, called for several laws at once: functions as plain Lean, and the walks' contracts. -/
import Derived.Test.YtdepcnaiobfpkaaPAllx0
import Derived.Test.YtdepcnaiobfpkaaPAllx1
import Derived.Test.YtdepcnaiobfpkaaPAllx2
import Derived.Test.YtdepcnaiobfpkaaPAllx4
namespace Go.Proofs.Ytdepcnaiobfpkaa.PAll
open Go.RowKit Go.Proofs.YtdepcnaiobfpkaaW.PrintWords Go.Proofs.YtdepcnaiobfpkaaW.PrintLast Go.Proofs.YtdepcnaiobfpkaaW.PrintMore
attribute [local go_sem] max2_int min2_int max_two min_two max_three min_three max_four min_four   -- for this text's walks alone
set_option linter.unusedVariables false
set_option linter.unusedSimpArgs false

/-! ### laws_FnHalfTrust: function 13 -/
def laws_FnHalfTrust.f (k : Nat) (a0 : Int) : Option (Bool) := (impl_HalfFrom.f a0).bind fun t177 => ((impl_HalfTo.f k t177).bind fun t178 => ((impl_HalfPrecision.f a0).bind fun t179 => (if t179 = 0 then ((spec_SingleKind.f a0).bind fun t180 => (if t180 = 2 then (some true) else (some (t178 == a0)))) else (if t179 = 1 then (some (decide ((Go.bits .and .u16 t177 32767) ≤ 1024))) else (if t179 = 2 then (some (!(t178 == a0))) else (if t179 = 3 then (some (!(t178 == a0))) else (if t179 = 4 then (some (!(t178 == a0))) else (some false))))))))
theorem laws_FnHalfTrust.mono : ∀ a0 k, LeO (laws_FnHalfTrust.f k a0) (laws_FnHalfTrust.f (k + 1) a0) := by
  intro a0 k
  unfold laws_FnHalfTrust.f
  repeat' first
      | (with_reducible exact impl_HalfTo.mono _ _)
      | (with_reducible exact LeO.refl _)
      | (with_reducible exact LeO.none _)
      | (with_reducible refine LeO.ite ?_ ?_)
      | (with_reducible refine LeO.bind ?_ (fun _ => ?_))
      | exact impl_HalfTo.mono _ _
      | exact LeO.none _
      | refine LeO.ite ?_ ?_
      | refine LeO.bind ?_ (fun _ => ?_)
set_option maxHeartbeats 8000000 in
set_option maxRecDepth 100000 in
theorem laws_FnHalfTrust.calls (k : Nat) (a0 : Int) (r : Bool) (w : World) (h : laws_FnHalfTrust.f k a0 = some r) :
    Calls Try.prog 13 #[.int .u32 a0] w fun e w' => e = .returned (.bool r) ∧ Drawn0 w w' := by
  have H : ((impl_HalfFrom.f a0).bind fun t177 => ((impl_HalfTo.f k t177).bind fun t178 => ((impl_HalfPrecision.f a0).bind fun t179 => (if t179 = 0 then ((spec_SingleKind.f a0).bind fun t180 => (if t180 = 2 then (some true) else (some (t178 == a0)))) else (if t179 = 1 then (some (decide ((Go.bits .and .u16 t177 32767) ≤ 1024))) else (if t179 = 2 then (some (!(t178 == a0))) else (if t179 = 3 then (some (!(t178 == a0))) else (if t179 = 4 then (some (!(t178 == a0))) else (some false))))))))) = some r := h
  clear h
  replace H := Option.bind_eq_some_iff.mp H
  obtain ⟨t177, A20, H⟩ := H
  replace H : ((impl_HalfTo.f k t177).bind fun t178 => ((impl_HalfPrecision.f a0).bind fun t179 => (if t179 = 0 then ((spec_SingleKind.f a0).bind fun t180 => (if t180 = 2 then (some true) else (some (t178 == a0)))) else (if t179 = 1 then (some (decide ((Go.bits .and .u16 t177 32767) ≤ 1024))) else (if t179 = 2 then (some (!(t178 == a0))) else (if t179 = 3 then (some (!(t178 == a0))) else (if t179 = 4 then (some (!(t178 == a0))) else (some false)))))))) = some r := H
  have A2 := Aside0.mk A20
  clear A20
  replace H := Option.bind_eq_some_iff.mp H
  obtain ⟨t178, A30, H⟩ := H
  replace H : ((impl_HalfPrecision.f a0).bind fun t179 => (if t179 = 0 then ((spec_SingleKind.f a0).bind fun t180 => (if t180 = 2 then (some true) else (some (t178 == a0)))) else (if t179 = 1 then (some (decide ((Go.bits .and .u16 t177 32767) ≤ 1024))) else (if t179 = 2 then (some (!(t178 == a0))) else (if t179 = 3 then (some (!(t178 == a0))) else (if t179 = 4 then (some (!(t178 == a0))) else (some false))))))) = some r := H
  have A3 := Aside0.mk A30
  clear A30
  replace H := Option.bind_eq_some_iff.mp H
  obtain ⟨t179, A40, H⟩ := H
  replace H : (if t179 = 0 then ((spec_SingleKind.f a0).bind fun t180 => (if t180 = 2 then (some true) else (some (t178 == a0)))) else (if t179 = 1 then (some (decide ((Go.bits .and .u16 t177 32767) ≤ 1024))) else (if t179 = 2 then (some (!(t178 == a0))) else (if t179 = 3 then (some (!(t178 == a0))) else (if t179 = 4 then (some (!(t178 == a0))) else (some false)))))) = some r := H
  have A4 := Aside0.mk A40
  clear A40
  by_cases c5 : t179 = 0
  · rw [if_pos c5] at H
    have c5b0 : (t179 == 0) = true := beq_iff_eq.mpr c5
    have c5b1 : (t179 != 0) = false := bne_eq_false_iff_eq.mpr c5
    clear c5
    replace H := Option.bind_eq_some_iff.mp H
    obtain ⟨t180, A60, H⟩ := H
    replace H : (if t180 = 2 then (some true) else (some (t178 == a0))) = some r := H
    have A6 := Aside0.mk A60
    clear A60
    by_cases c7 : t180 = 2
    · rw [if_pos c7] at H
      have c7b0 : (t180 == 2) = true := beq_iff_eq.mpr c7
      have c7b1 : (t180 != 2) = false := bne_eq_false_iff_eq.mpr c7
      clear c7
      obtain rfl := Option.some.inj H
      go_enter Try.func13, Try.ntmps13
      go_wp2_with (first | ((with_reducible refine gate_callee (f := 23) rfl ?_); refine goesL_ (some 6) rfl rfl Try.func23 (by kernel_rfl) rfl #[.int .u32 a0] rfl (by (try simp only [List.map_toArray, List.map_cons, List.map_nil]); first | done | rfl | (simp only [List.length_drop, List.length_take]; rfl)) ?_; (with_reducible refine (impl_HalfFrom.calls a0 t177 _ A2.out).mono ?_); rintro e w' ⟨rfl, ⟨nd, rfl⟩⟩; refine ⟨_, rfl, ?_⟩) | ((with_reducible refine gate_callee (f := 18) rfl ?_); refine goesL_ (some 8) rfl rfl Try.func18 (by kernel_rfl) rfl #[.int .u16 t177] rfl (by (try simp only [List.map_toArray, List.map_cons, List.map_nil]); first | done | rfl | (simp only [List.length_drop, List.length_take]; rfl)) ?_; (with_reducible refine (impl_HalfTo.calls k t177 t178 _ A3.out).mono ?_); rintro e w' ⟨rfl, ⟨nd, rfl⟩⟩; refine ⟨_, rfl, ?_⟩) | ((with_reducible refine gate_callee (f := 26) rfl ?_); refine goesL_ (some 12) rfl rfl Try.func26 (by kernel_rfl) rfl #[.int .u32 a0] rfl (by (try simp only [List.map_toArray, List.map_cons, List.map_nil]); first | done | rfl | (simp only [List.length_drop, List.length_take]; rfl)) ?_; (with_reducible refine (impl_HalfPrecision.calls a0 t179 _ A4.out).mono ?_); rintro e w' ⟨rfl, ⟨nd, rfl⟩⟩; refine ⟨_, rfl, ?_⟩) | ((with_reducible refine gate_callee (f := 19) rfl ?_); refine goesL_ (some 16) rfl rfl Try.func19 (by kernel_rfl) rfl #[.int .u32 a0] rfl (by (try simp only [List.map_toArray, List.map_cons, List.map_nil]); first | done | rfl | (simp only [List.length_drop, List.length_take]; rfl)) ?_; (with_reducible refine (spec_SingleKind.calls a0 t180 _ A6.out).mono ?_); rintro e w' ⟨rfl, ⟨nd, rfl⟩⟩; refine ⟨_, rfl, ?_⟩))
      go_ret
      exact ⟨by first | rfl | (simp; done) | (simp [*]; done), by repeat (first | exact Drawn0.refl _ | apply Drawn0.step)⟩
    · rw [if_neg c7] at H
      have c7b0 : (t180 == 2) = false := beq_eq_false_iff_ne.mpr c7
      have c7b1 : (t180 != 2) = true := bne_iff_ne.mpr c7
      obtain rfl := Option.some.inj H
      go_enter Try.func13, Try.ntmps13
      go_wp2_with (first | ((with_reducible refine gate_callee (f := 23) rfl ?_); refine goesL_ (some 6) rfl rfl Try.func23 (by kernel_rfl) rfl #[.int .u32 a0] rfl (by (try simp only [List.map_toArray, List.map_cons, List.map_nil]); first | done | rfl | (simp only [List.length_drop, List.length_take]; rfl)) ?_; (with_reducible refine (impl_HalfFrom.calls a0 t177 _ A2.out).mono ?_); rintro e w' ⟨rfl, ⟨nd, rfl⟩⟩; refine ⟨_, rfl, ?_⟩) | ((with_reducible refine gate_callee (f := 18) rfl ?_); refine goesL_ (some 8) rfl rfl Try.func18 (by kernel_rfl) rfl #[.int .u16 t177] rfl (by (try simp only [List.map_toArray, List.map_cons, List.map_nil]); first | done | rfl | (simp only [List.length_drop, List.length_take]; rfl)) ?_; (with_reducible refine (impl_HalfTo.calls k t177 t178 _ A3.out).mono ?_); rintro e w' ⟨rfl, ⟨nd, rfl⟩⟩; refine ⟨_, rfl, ?_⟩) | ((with_reducible refine gate_callee (f := 26) rfl ?_); refine goesL_ (some 12) rfl rfl Try.func26 (by kernel_rfl) rfl #[.int .u32 a0] rfl (by (try simp only [List.map_toArray, List.map_cons, List.map_nil]); first | done | rfl | (simp only [List.length_drop, List.length_take]; rfl)) ?_; (with_reducible refine (impl_HalfPrecision.calls a0 t179 _ A4.out).mono ?_); rintro e w' ⟨rfl, ⟨nd, rfl⟩⟩; refine ⟨_, rfl, ?_⟩) | ((with_reducible refine gate_callee (f := 19) rfl ?_); refine goesL_ (some 16) rfl rfl Try.func19 (by kernel_rfl) rfl #[.int .u32 a0] rfl (by (try simp only [List.map_toArray, List.map_cons, List.map_nil]); first | done | rfl | (simp only [List.length_drop, List.length_take]; rfl)) ?_; (with_reducible refine (spec_SingleKind.calls a0 t180 _ A6.out).mono ?_); rintro e w' ⟨rfl, ⟨nd, rfl⟩⟩; refine ⟨_, rfl, ?_⟩))
      go_ret
      exact ⟨by first | rfl | (simp; done) | (simp [*]; done), by repeat (first | exact Drawn0.refl _ | apply Drawn0.step)⟩
  · rw [if_neg c5] at H
    have c5b0 : (t179 == 0) = false := beq_eq_false_iff_ne.mpr c5
    have c5b1 : (t179 != 0) = true := bne_iff_ne.mpr c5
    by_cases c8 : t179 = 1
    · rw [if_pos c8] at H
      have c8b0 : (t179 == 1) = true := beq_iff_eq.mpr c8
      have c8b1 : (t179 != 1) = false := bne_eq_false_iff_eq.mpr c8
      clear c8
      obtain rfl := Option.some.inj H
      go_enter Try.func13, Try.ntmps13
      go_wp2_with (first | ((with_reducible refine gate_callee (f := 23) rfl ?_); refine goesL_ (some 6) rfl rfl Try.func23 (by kernel_rfl) rfl #[.int .u32 a0] rfl (by (try simp only [List.map_toArray, List.map_cons, List.map_nil]); first | done | rfl | (simp only [List.length_drop, List.length_take]; rfl)) ?_; (with_reducible refine (impl_HalfFrom.calls a0 t177 _ A2.out).mono ?_); rintro e w' ⟨rfl, ⟨nd, rfl⟩⟩; refine ⟨_, rfl, ?_⟩) | ((with_reducible refine gate_callee (f := 18) rfl ?_); refine goesL_ (some 8) rfl rfl Try.func18 (by kernel_rfl) rfl #[.int .u16 t177] rfl (by (try simp only [List.map_toArray, List.map_cons, List.map_nil]); first | done | rfl | (simp only [List.length_drop, List.length_take]; rfl)) ?_; (with_reducible refine (impl_HalfTo.calls k t177 t178 _ A3.out).mono ?_); rintro e w' ⟨rfl, ⟨nd, rfl⟩⟩; refine ⟨_, rfl, ?_⟩) | ((with_reducible refine gate_callee (f := 26) rfl ?_); refine goesL_ (some 12) rfl rfl Try.func26 (by kernel_rfl) rfl #[.int .u32 a0] rfl (by (try simp only [List.map_toArray, List.map_cons, List.map_nil]); first | done | rfl | (simp only [List.length_drop, List.length_take]; rfl)) ?_; (with_reducible refine (impl_HalfPrecision.calls a0 t179 _ A4.out).mono ?_); rintro e w' ⟨rfl, ⟨nd, rfl⟩⟩; refine ⟨_, rfl, ?_⟩))
      go_ret
      exact ⟨by first | rfl | (simp; done) | (simp [*]; done), by repeat (first | exact Drawn0.refl _ | apply Drawn0.step)⟩
    · rw [if_neg c8] at H
      have c8b0 : (t179 == 1) = false := beq_eq_false_iff_ne.mpr c8
      have c8b1 : (t179 != 1) = true := bne_iff_ne.mpr c8
      by_cases c9 : t179 = 2
      · rw [if_pos c9] at H
        have c9b0 : (t179 == 2) = true := beq_iff_eq.mpr c9
        have c9b1 : (t179 != 2) = false := bne_eq_false_iff_eq.mpr c9
        clear c9
        obtain rfl := Option.some.inj H
        go_enter Try.func13, Try.ntmps13
        go_wp2_with (first | ((with_reducible refine gate_callee (f := 23) rfl ?_); refine goesL_ (some 6) rfl rfl Try.func23 (by kernel_rfl) rfl #[.int .u32 a0] rfl (by (try simp only [List.map_toArray, List.map_cons, List.map_nil]); first | done | rfl | (simp only [List.length_drop, List.length_take]; rfl)) ?_; (with_reducible refine (impl_HalfFrom.calls a0 t177 _ A2.out).mono ?_); rintro e w' ⟨rfl, ⟨nd, rfl⟩⟩; refine ⟨_, rfl, ?_⟩) | ((with_reducible refine gate_callee (f := 18) rfl ?_); refine goesL_ (some 8) rfl rfl Try.func18 (by kernel_rfl) rfl #[.int .u16 t177] rfl (by (try simp only [List.map_toArray, List.map_cons, List.map_nil]); first | done | rfl | (simp only [List.length_drop, List.length_take]; rfl)) ?_; (with_reducible refine (impl_HalfTo.calls k t177 t178 _ A3.out).mono ?_); rintro e w' ⟨rfl, ⟨nd, rfl⟩⟩; refine ⟨_, rfl, ?_⟩) | ((with_reducible refine gate_callee (f := 26) rfl ?_); refine goesL_ (some 12) rfl rfl Try.func26 (by kernel_rfl) rfl #[.int .u32 a0] rfl (by (try simp only [List.map_toArray, List.map_cons, List.map_nil]); first | done | rfl | (simp only [List.length_drop, List.length_take]; rfl)) ?_; (with_reducible refine (impl_HalfPrecision.calls a0 t179 _ A4.out).mono ?_); rintro e w' ⟨rfl, ⟨nd, rfl⟩⟩; refine ⟨_, rfl, ?_⟩))
        go_ret
        exact ⟨by first | rfl | (simp; done) | (simp [*]; done), by repeat (first | exact Drawn0.refl _ | apply Drawn0.step)⟩
      · rw [if_neg c9] at H
        have c9b0 : (t179 == 2) = false := beq_eq_false_iff_ne.mpr c9
        have c9b1 : (t179 != 2) = true := bne_iff_ne.mpr c9
        by_cases c10 : t179 = 3
        · rw [if_pos c10] at H
          have c10b0 : (t179 == 3) = true := beq_iff_eq.mpr c10
          have c10b1 : (t179 != 3) = false := bne_eq_false_iff_eq.mpr c10
          clear c10
          obtain rfl := Option.some.inj H
          go_enter Try.func13, Try.ntmps13
          go_wp2_with (first | ((with_reducible refine gate_callee (f := 23) rfl ?_); refine goesL_ (some 6) rfl rfl Try.func23 (by kernel_rfl) rfl #[.int .u32 a0] rfl (by (try simp only [List.map_toArray, List.map_cons, List.map_nil]); first | done | rfl | (simp only [List.length_drop, List.length_take]; rfl)) ?_; (with_reducible refine (impl_HalfFrom.calls a0 t177 _ A2.out).mono ?_); rintro e w' ⟨rfl, ⟨nd, rfl⟩⟩; refine ⟨_, rfl, ?_⟩) | ((with_reducible refine gate_callee (f := 18) rfl ?_); refine goesL_ (some 8) rfl rfl Try.func18 (by kernel_rfl) rfl #[.int .u16 t177] rfl (by (try simp only [List.map_toArray, List.map_cons, List.map_nil]); first | done | rfl | (simp only [List.length_drop, List.length_take]; rfl)) ?_; (with_reducible refine (impl_HalfTo.calls k t177 t178 _ A3.out).mono ?_); rintro e w' ⟨rfl, ⟨nd, rfl⟩⟩; refine ⟨_, rfl, ?_⟩) | ((with_reducible refine gate_callee (f := 26) rfl ?_); refine goesL_ (some 12) rfl rfl Try.func26 (by kernel_rfl) rfl #[.int .u32 a0] rfl (by (try simp only [List.map_toArray, List.map_cons, List.map_nil]); first | done | rfl | (simp only [List.length_drop, List.length_take]; rfl)) ?_; (with_reducible refine (impl_HalfPrecision.calls a0 t179 _ A4.out).mono ?_); rintro e w' ⟨rfl, ⟨nd, rfl⟩⟩; refine ⟨_, rfl, ?_⟩))
          go_ret
          exact ⟨by first | rfl | (simp; done) | (simp [*]; done), by repeat (first | exact Drawn0.refl _ | apply Drawn0.step)⟩
        · rw [if_neg c10] at H
          have c10b0 : (t179 == 3) = false := beq_eq_false_iff_ne.mpr c10
          have c10b1 : (t179 != 3) = true := bne_iff_ne.mpr c10
          by_cases c11 : t179 = 4
          · rw [if_pos c11] at H
            have c11b0 : (t179 == 4) = true := beq_iff_eq.mpr c11
            have c11b1 : (t179 != 4) = false := bne_eq_false_iff_eq.mpr c11
            clear c11
            obtain rfl := Option.some.inj H
            go_enter Try.func13, Try.ntmps13
            go_wp2_with (first | ((with_reducible refine gate_callee (f := 23) rfl ?_); refine goesL_ (some 6) rfl rfl Try.func23 (by kernel_rfl) rfl #[.int .u32 a0] rfl (by (try simp only [List.map_toArray, List.map_cons, List.map_nil]); first | done | rfl | (simp only [List.length_drop, List.length_take]; rfl)) ?_; (with_reducible refine (impl_HalfFrom.calls a0 t177 _ A2.out).mono ?_); rintro e w' ⟨rfl, ⟨nd, rfl⟩⟩; refine ⟨_, rfl, ?_⟩) | ((with_reducible refine gate_callee (f := 18) rfl ?_); refine goesL_ (some 8) rfl rfl Try.func18 (by kernel_rfl) rfl #[.int .u16 t177] rfl (by (try simp only [List.map_toArray, List.map_cons, List.map_nil]); first | done | rfl | (simp only [List.length_drop, List.length_take]; rfl)) ?_; (with_reducible refine (impl_HalfTo.calls k t177 t178 _ A3.out).mono ?_); rintro e w' ⟨rfl, ⟨nd, rfl⟩⟩; refine ⟨_, rfl, ?_⟩) | ((with_reducible refine gate_callee (f := 26) rfl ?_); refine goesL_ (some 12) rfl rfl Try.func26 (by kernel_rfl) rfl #[.int .u32 a0] rfl (by (try simp only [List.map_toArray, List.map_cons, List.map_nil]); first | done | rfl | (simp only [List.length_drop, List.length_take]; rfl)) ?_; (with_reducible refine (impl_HalfPrecision.calls a0 t179 _ A4.out).mono ?_); rintro e w' ⟨rfl, ⟨nd, rfl⟩⟩; refine ⟨_, rfl, ?_⟩))
            go_ret
            exact ⟨by first | rfl | (simp; done) | (simp [*]; done), by repeat (first | exact Drawn0.refl _ | apply Drawn0.step)⟩
          · rw [if_neg c11] at H
            have c11b0 : (t179 == 4) = false := beq_eq_false_iff_ne.mpr c11
            have c11b1 : (t179 != 4) = true := bne_iff_ne.mpr c11
            obtain rfl := Option.some.inj H
            go_enter Try.func13, Try.ntmps13
            go_wp2_with (first | ((with_reducible refine gate_callee (f := 23) rfl ?_); refine goesL_ (some 6) rfl rfl Try.func23 (by kernel_rfl) rfl #[.int .u32 a0] rfl (by (try simp only [List.map_toArray, List.map_cons, List.map_nil]); first | done | rfl | (simp only [List.length_drop, List.length_take]; rfl)) ?_; (with_reducible refine (impl_HalfFrom.calls a0 t177 _ A2.out).mono ?_); rintro e w' ⟨rfl, ⟨nd, rfl⟩⟩; refine ⟨_, rfl, ?_⟩) | ((with_reducible refine gate_callee (f := 18) rfl ?_); refine goesL_ (some 8) rfl rfl Try.func18 (by kernel_rfl) rfl #[.int .u16 t177] rfl (by (try simp only [List.map_toArray, List.map_cons, List.map_nil]); first | done | rfl | (simp only [List.length_drop, List.length_take]; rfl)) ?_; (with_reducible refine (impl_HalfTo.calls k t177 t178 _ A3.out).mono ?_); rintro e w' ⟨rfl, ⟨nd, rfl⟩⟩; refine ⟨_, rfl, ?_⟩) | ((with_reducible refine gate_callee (f := 26) rfl ?_); refine goesL_ (some 12) rfl rfl Try.func26 (by kernel_rfl) rfl #[.int .u32 a0] rfl (by (try simp only [List.map_toArray, List.map_cons, List.map_nil]); first | done | rfl | (simp only [List.length_drop, List.length_take]; rfl)) ?_; (with_reducible refine (impl_HalfPrecision.calls a0 t179 _ A4.out).mono ?_); rintro e w' ⟨rfl, ⟨nd, rfl⟩⟩; refine ⟨_, rfl, ?_⟩))
            go_ret
            exact ⟨by first | rfl | (simp; done) | (simp [*]; done), by repeat (first | exact Drawn0.refl _ | apply Drawn0.step)⟩

/-- THE ONE PURE STATEMENT of laws_FnHalfTrust: yours. -/
def laws_FnHalfTrust.Pure : Prop := ∀ (a0 : Int), (Lit.int .u32 a0).wf = true → ∃ k, laws_FnHalfTrust.f k a0 = some true
theorem laws_FnHalfTrust.walk (P : laws_FnHalfTrust.Pure) (a0 : Int) (w : World) (w0 : (Lit.int .u32 a0).wf = true) :
    Calls Try.prog 13 #[.int .u32 a0] w fun e w' => e = .returned (.bool true) ∧ Below w.heap.size w w' := by
  obtain ⟨k, h⟩ := P a0 w0
  refine (laws_FnHalfTrust.calls k a0 true w h).mono ?_
  rintro e w' ⟨rfl, hd⟩
  exact ⟨rfl, hd.below⟩


end Go.Proofs.Ytdepcnaiobfpkaa.PAll
