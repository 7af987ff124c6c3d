/- Printed by the kit's print.py, called for several laws at once: functions as plain Lean, and the walks' contracts. -/
import Derived.Test.YtdepcnaiobfpkaaPAllx0
import Derived.Test.YtdepcnaiobfpkaaPAllx1
namespace Go.Proofs.Ytdepcnaiobfpkaa.PAll
open Go.RowKit Go.Proofs.YtdepcnaiobfpkaaW.PrintWords Go.Proofs.YtdepcnaiobfpkaaW.PrintLast Go.Proofs.YtdepcnaiobfpkaaW.PrintMore
attribute [local go_sem] max2_int min2_int max_two min_two max_three min_three max_four min_four   -- for this text's walks alone
set_option linter.unusedVariables false
set_option linter.unusedSimpArgs false

/-! ### spec_HalfSame: function 22 -/
mutual
def spec_HalfSame.j1 : Nat → Int → Int → Int → Int → Option (Bool)
  | 0, _, _, _, _ => none
  | k + 1, x0, x1, x2, x3 => spec_HalfSame.l1 k x0 x1 x2 x3
def spec_HalfSame.l1 : Nat → Int → Int → Int → Int → Option (Bool)
  | 0, _, _, _, _ => none
  | k + 1, x0, x1, x2, x3 => if x2 = 0 then (if x0 = x2 then (if x0 = 0 then (some true) else (some (x1 == x3))) else (some false)) else (if (Int.tmod x2 2) = 0 then (spec_HalfSame.l1 k x0 x1 (wrap64 (Int.tdiv x2 2)) (wrap64 (x3 + 1))) else (if x0 = x2 then (if x0 = 0 then (some true) else (some (x1 == x3))) else (some false)))
def spec_HalfSame.l0 : Nat → Int → Int → Int → Int → Option (Bool)
  | 0, _, _, _, _ => none
  | k + 1, x0, x1, x2, x3 => if x0 = 0 then (spec_HalfSame.j1 k x0 x1 x2 x3) else (if (Int.tmod x0 2) = 0 then (spec_HalfSame.l0 k (wrap64 (Int.tdiv x0 2)) (wrap64 (x1 + 1)) x2 x3) else (spec_HalfSame.j1 k x0 x1 x2 x3))
end
def spec_HalfSame.f (k : Nat) (a0 : Int) (a1 : Int) (a2 : Int) (a3 : Int) : Option (Bool) := spec_HalfSame.l0 k a0 a1 a2 a3
theorem spec_HalfSame.mono_l : ∀ k, (∀ y0 y1 y2 y3, LeO (spec_HalfSame.j1 k y0 y1 y2 y3) (spec_HalfSame.j1 (k + 1) y0 y1 y2 y3)) ∧ (∀ y0 y1 y2 y3, LeO (spec_HalfSame.l1 k y0 y1 y2 y3) (spec_HalfSame.l1 (k + 1) y0 y1 y2 y3)) ∧ (∀ y0 y1 y2 y3, LeO (spec_HalfSame.l0 k y0 y1 y2 y3) (spec_HalfSame.l0 (k + 1) y0 y1 y2 y3))
  | 0 => ⟨fun _ _ _ _ r h => by simp [spec_HalfSame.j1] at h, fun _ _ _ _ r h => by simp [spec_HalfSame.l1] at h, fun _ _ _ _ r h => by simp [spec_HalfSame.l0] at h⟩
  | k + 1 => by
    obtain ⟨ih0, ih1, ih2⟩ := spec_HalfSame.mono_l k
    refine ⟨?_, ?_, ?_⟩
    · intro y0 y1 y2 y3
      unfold spec_HalfSame.j1
      repeat' first
      | (with_reducible exact ih0 _ _ _ _)
      | (with_reducible exact ih1 _ _ _ _)
      | (with_reducible exact ih2 _ _ _ _)
      | (with_reducible exact LeO.refl _)
      | (with_reducible exact LeO.none _)
      | (with_reducible refine LeO.ite ?_ ?_)
      | (with_reducible refine LeO.bind ?_ (fun _ => ?_))
      | exact ih0 _ _ _ _
      | exact ih1 _ _ _ _
      | exact ih2 _ _ _ _
      | exact LeO.none _
      | refine LeO.ite ?_ ?_
      | refine LeO.bind ?_ (fun _ => ?_)
    · intro y0 y1 y2 y3
      unfold spec_HalfSame.l1
      repeat' first
      | (with_reducible exact ih0 _ _ _ _)
      | (with_reducible exact ih1 _ _ _ _)
      | (with_reducible exact ih2 _ _ _ _)
      | (with_reducible exact LeO.refl _)
      | (with_reducible exact LeO.none _)
      | (with_reducible refine LeO.ite ?_ ?_)
      | (with_reducible refine LeO.bind ?_ (fun _ => ?_))
      | exact ih0 _ _ _ _
      | exact ih1 _ _ _ _
      | exact ih2 _ _ _ _
      | exact LeO.none _
      | refine LeO.ite ?_ ?_
      | refine LeO.bind ?_ (fun _ => ?_)
    · intro y0 y1 y2 y3
      unfold spec_HalfSame.l0
      repeat' first
      | (with_reducible exact ih0 _ _ _ _)
      | (with_reducible exact ih1 _ _ _ _)
      | (with_reducible exact ih2 _ _ _ _)
      | (with_reducible exact LeO.refl _)
      | (with_reducible exact LeO.none _)
      | (with_reducible refine LeO.ite ?_ ?_)
      | (with_reducible refine LeO.bind ?_ (fun _ => ?_))
      | exact ih0 _ _ _ _
      | exact ih1 _ _ _ _
      | exact ih2 _ _ _ _
      | exact LeO.none _
      | refine LeO.ite ?_ ?_
      | refine LeO.bind ?_ (fun _ => ?_)
theorem spec_HalfSame.mono : ∀ a0 a1 a2 a3 k, LeO (spec_HalfSame.f k a0 a1 a2 a3) (spec_HalfSame.f (k + 1) a0 a1 a2 a3) := by
  intro a0 a1 a2 a3 k
  obtain ⟨ih0, ih1, ih2⟩ := spec_HalfSame.mono_l k
  unfold spec_HalfSame.f
  repeat' first
      | (with_reducible exact ih0 _ _ _ _)
      | (with_reducible exact ih1 _ _ _ _)
      | (with_reducible exact ih2 _ _ _ _)
      | (with_reducible exact LeO.refl _)
      | (with_reducible exact LeO.none _)
      | (with_reducible refine LeO.ite ?_ ?_)
      | (with_reducible refine LeO.bind ?_ (fun _ => ?_))
      | exact ih0 _ _ _ _
      | exact ih1 _ _ _ _
      | exact ih2 _ _ _ _
      | exact LeO.none _
      | refine LeO.ite ?_ ?_
      | refine LeO.bind ?_ (fun _ => ?_)
set_option maxHeartbeats 8000000 in
set_option maxRecDepth 100000 in
theorem spec_HalfSame.calls (k : Nat) (a0 : Int) (a1 : Int) (a2 : Int) (a3 : Int) (r : Bool) (w : World) (h : spec_HalfSame.f k a0 a1 a2 a3 = some r) :
    Calls Try.prog 22 #[.int .i64 a0, .int .i64 a1, .int .i64 a2, .int .i64 a3] w fun e w' => e = .returned (.bool r) ∧ Drawn0 w w' := by
  have H : (spec_HalfSame.l0 k a0 a1 a2 a3) = some r := h
  clear h
  have HC5 := Aside0.mk H
  clear H
  go_enter Try.func22, Try.ntmps22
  go_upto_block 0 with (fail)
  go_cut [0, 1] (fun v0 v1 wc => ∃ (kq : Nat) (x0_4 : Int) (x1_4 : Int), v0 = .int .i64 x0_4 ∧ v1 = .int .i64 x1_4 ∧ Aside0 (spec_HalfSame.j1 kq x0_4 x1_4 a2 a3 = some r) ∧ Aside0 (kq ≤ k) ∧ Drawn0 w wc)
  case first =>
    have H := HC5.out
    clear HC5
    have H' := Aside0.mk H
    clear H
    go_wp2
    go_loopg [0, 1] k (fun kq v0 v1 w' => ∃ (x0_1 : Int) (x1_1 : Int), v0 = .int .i64 x0_1 ∧ v1 = .int .i64 x1_1 ∧ Aside0 (spec_HalfSame.l0 kq x0_1 x1_1 a2 a3 = some r) ∧ Aside0 (kq ≤ k) ∧ Drawn0 w w')
    case atStart => exact ⟨(a0), (a1), (by first | rfl | (simp; done) | (simp [*]; done)), (by first | rfl | (simp; done) | (simp [*]; done)), H', ⟨Nat.le_refl _⟩, by repeat (first | exact Drawn0.refl _ | apply Drawn0.step)⟩
    case round =>
      clear H'
      try clear c2
      try clear p2
      obtain ⟨x0_1, x1_1, rfl, rfl, HA, HK1, ⟨m1, rfl⟩⟩ := hrel
      cases gk with
      | zero => exact absurd HA.out (by simp [spec_HalfSame.l0])
      | succ k1 =>
        have H := HA.out
        clear HA
        simp only [spec_HalfSame.l0] at H
        by_cases c6 : x0_1 = 0
        · rw [if_pos c6] at H
          have c6b0 : (x0_1 == 0) = true := beq_iff_eq.mpr c6
          have c6b1 : (x0_1 != 0) = false := bne_eq_false_iff_eq.mpr c6
          clear c6
          (first | rw [c6b0] | (simp only [i64_w, i32_w]; rw [c6b0]) | skip)
          have H' := Aside0.mk H
          clear H
          go_wp2
          go_meet
          case rel => exact ⟨_, (x0_1), (x1_1), (by first | rfl | (simp; done) | (simp [*]; done)), (by first | rfl | (simp; done) | (simp [*]; done)), H', ⟨by have := HK1.out; first | omega | exact Nat.le_refl _⟩, by repeat (first | exact Drawn0.refl _ | apply Drawn0.step)⟩
        · rw [if_neg c6] at H
          have c6b0 : (x0_1 == 0) = false := beq_eq_false_iff_ne.mpr c6
          have c6b1 : (x0_1 != 0) = true := bne_iff_ne.mpr c6
          (first | rw [c6b0] | (simp only [i64_w, i32_w]; rw [c6b0]) | skip)
          by_cases c7 : (Int.tmod x0_1 2) = 0
          · rw [if_pos c7] at H
            have c7b0 : ((Int.tmod x0_1 2) == 0) = true := beq_iff_eq.mpr c7
            have c7b1 : ((Int.tmod x0_1 2) != 0) = false := bne_eq_false_iff_eq.mpr c7
            clear c7
            have H' := Aside0.mk H
            clear H
            go_wp2
            go_roundg k1
            case measure => have := HK1.out; omega
            case rel => exact ⟨(wrap64 (Int.tdiv x0_1 2)), (wrap64 (x1_1 + 1)), (by first | rfl | (simp; done) | (simp [*]; done)), (by first | rfl | (simp; done) | (simp [*]; done)), H', ⟨by have := HK1.out; omega⟩, by repeat (first | exact Drawn0.refl _ | apply Drawn0.step)⟩
          · rw [if_neg c7] at H
            have c7b0 : ((Int.tmod x0_1 2) == 0) = false := beq_eq_false_iff_ne.mpr c7
            have c7b1 : ((Int.tmod x0_1 2) != 0) = true := bne_iff_ne.mpr c7
            have H' := Aside0.mk H
            clear H
            go_wp2
            go_meet
            case rel => exact ⟨_, (x0_1), (x1_1), (by first | rfl | (simp; done) | (simp [*]; done)), (by first | rfl | (simp; done) | (simp [*]; done)), H', ⟨by have := HK1.out; first | omega | exact Nat.le_refl _⟩, by repeat (first | exact Drawn0.refl _ | apply Drawn0.step)⟩
  case rest =>
    clear HC5
    try clear c2
    try clear p2
    try clear c6
    try clear c6b0
    try clear c6b1
    try clear p6
    try clear c7
    try clear c7b0
    try clear c7b1
    try clear p2
    obtain ⟨kq, x0_4, x1_4, rfl, rfl, HA, HJ4, ⟨mc4, rfl⟩⟩ := hcut
    cases kq with
    | zero => exact absurd HA.out (by simp [spec_HalfSame.j1])
    | succ kj4 =>
      have H := HA.out
      clear HA
      simp only [spec_HalfSame.j1] at H
      have H' := Aside0.mk H
      clear H
      go_wp2
      go_loopg [2, 3] kj4 (fun kq v2 v3 w' => ∃ (x2_2 : Int) (x3_2 : Int), v2 = .int .i64 x2_2 ∧ v3 = .int .i64 x3_2 ∧ Aside0 (spec_HalfSame.l1 kq x0_4 x1_4 x2_2 x3_2 = some r) ∧ Aside0 (kq ≤ kj4) ∧ Drawn0 w w')
      case atStart => exact ⟨(a2), (a3), (by first | rfl | (simp; done) | (simp [*]; done)), (by first | rfl | (simp; done) | (simp [*]; done)), H', ⟨Nat.le_refl _⟩, by repeat (first | exact Drawn0.refl _ | apply Drawn0.step)⟩
      case round =>
        clear H'
        try clear c2
        try clear p2
        try clear c4
        try clear c6
        try clear c6b0
        try clear c6b1
        try clear p6
        try clear c7
        try clear c7b0
        try clear c7b1
        try clear p2
        try clear p6
        obtain ⟨x2_2, x3_2, rfl, rfl, HA, HK2, ⟨m2, rfl⟩⟩ := hrel
        cases gk with
        | zero => exact absurd HA.out (by simp [spec_HalfSame.l1])
        | succ k2 =>
          have H := HA.out
          clear HA
          simp only [spec_HalfSame.l1] at H
          by_cases c8 : x2_2 = 0
          · rw [if_pos c8] at H
            have c8b0 : (x2_2 == 0) = true := beq_iff_eq.mpr c8
            have c8b1 : (x2_2 != 0) = false := bne_eq_false_iff_eq.mpr c8
            clear c8
            by_cases c9 : x0_4 = x2_2
            · rw [if_pos c9] at H
              have c9b0 : (x0_4 == x2_2) = true := beq_iff_eq.mpr c9
              have c9b1 : (x0_4 != x2_2) = false := bne_eq_false_iff_eq.mpr c9
              clear c9
              by_cases c10 : x0_4 = 0
              · rw [if_pos c10] at H
                have c10b0 : (x0_4 == 0) = true := beq_iff_eq.mpr c10
                have c10b1 : (x0_4 != 0) = false := bne_eq_false_iff_eq.mpr c10
                clear c10
                obtain rfl := Option.some.inj H
                go_wp2
                go_ret
                exact ⟨by first | rfl | (simp; done) | (simp [*]; done), by repeat (first | exact Drawn0.refl _ | apply Drawn0.step)⟩
              · rw [if_neg c10] at H
                have c10b0 : (x0_4 == 0) = false := beq_eq_false_iff_ne.mpr c10
                have c10b1 : (x0_4 != 0) = true := bne_iff_ne.mpr c10
                obtain rfl := Option.some.inj H
                go_wp2
                go_ret
                exact ⟨by first | rfl | (simp; done) | (simp [*]; done), by repeat (first | exact Drawn0.refl _ | apply Drawn0.step)⟩
            · rw [if_neg c9] at H
              have c9b0 : (x0_4 == x2_2) = false := beq_eq_false_iff_ne.mpr c9
              have c9b1 : (x0_4 != x2_2) = true := bne_iff_ne.mpr c9
              obtain rfl := Option.some.inj H
              go_wp2
              go_ret
              exact ⟨by first | rfl | (simp; done) | (simp [*]; done), by repeat (first | exact Drawn0.refl _ | apply Drawn0.step)⟩
          · rw [if_neg c8] at H
            have c8b0 : (x2_2 == 0) = false := beq_eq_false_iff_ne.mpr c8
            have c8b1 : (x2_2 != 0) = true := bne_iff_ne.mpr c8
            by_cases c11 : (Int.tmod x2_2 2) = 0
            · rw [if_pos c11] at H
              have c11b0 : ((Int.tmod x2_2 2) == 0) = true := beq_iff_eq.mpr c11
              have c11b1 : ((Int.tmod x2_2 2) != 0) = false := bne_eq_false_iff_eq.mpr c11
              clear c11
              have H' := Aside0.mk H
              clear H
              go_wp2
              go_roundg k2
              case measure => have := HJ4.out; have := HK2.out; omega
              case rel => exact ⟨(wrap64 (Int.tdiv x2_2 2)), (wrap64 (x3_2 + 1)), (by first | rfl | (simp; done) | (simp [*]; done)), (by first | rfl | (simp; done) | (simp [*]; done)), H', ⟨by have := HJ4.out; have := HK2.out; omega⟩, by repeat (first | exact Drawn0.refl _ | apply Drawn0.step)⟩
            · rw [if_neg c11] at H
              have c11b0 : ((Int.tmod x2_2 2) == 0) = false := beq_eq_false_iff_ne.mpr c11
              have c11b1 : ((Int.tmod x2_2 2) != 0) = true := bne_iff_ne.mpr c11
              by_cases c12 : x0_4 = x2_2
              · rw [if_pos c12] at H
                have c12b0 : (x0_4 == x2_2) = true := beq_iff_eq.mpr c12
                have c12b1 : (x0_4 != x2_2) = false := bne_eq_false_iff_eq.mpr c12
                clear c12
                by_cases c13 : x0_4 = 0
                · rw [if_pos c13] at H
                  have c13b0 : (x0_4 == 0) = true := beq_iff_eq.mpr c13
                  have c13b1 : (x0_4 != 0) = false := bne_eq_false_iff_eq.mpr c13
                  clear c13
                  obtain rfl := Option.some.inj H
                  go_wp2
                  go_ret
                  exact ⟨by first | rfl | (simp; done) | (simp [*]; done), by repeat (first | exact Drawn0.refl _ | apply Drawn0.step)⟩
                · rw [if_neg c13] at H
                  have c13b0 : (x0_4 == 0) = false := beq_eq_false_iff_ne.mpr c13
                  have c13b1 : (x0_4 != 0) = true := bne_iff_ne.mpr c13
                  obtain rfl := Option.some.inj H
                  go_wp2
                  go_ret
                  exact ⟨by first | rfl | (simp; done) | (simp [*]; done), by repeat (first | exact Drawn0.refl _ | apply Drawn0.step)⟩
              · rw [if_neg c12] at H
                have c12b0 : (x0_4 == x2_2) = false := beq_eq_false_iff_ne.mpr c12
                have c12b1 : (x0_4 != x2_2) = true := bne_iff_ne.mpr c12
                obtain rfl := Option.some.inj H
                go_wp2
                go_ret
                exact ⟨by first | rfl | (simp; done) | (simp [*]; done), by repeat (first | exact Drawn0.refl _ | apply Drawn0.step)⟩


/-! ### laws_FnHalfToSingle: function 5 -/
def laws_FnHalfToSingle.j0 : Nat → Int → Int → Bool → Option (Bool)
  | 0, _, _, _ => none
  | k + 1, x0, x3, x22 => if x22 = true then (some false) else ((spec_HalfKind.f x0).bind fun t130 => (if t130 = 0 then ((spec_HalfValue.f x0).bind fun bt131 => ((spec_SingleValue.f x3).bind fun bt133 => ((spec_HalfSame.f k bt131.1 bt131.2 bt133.1 bt133.2).bind fun t135 => (some t135)))) else (if t130 = 1 then (some true) else (some ((Go.bits .and .u32 x3 4194303) == ((((Go.bits .and .u16 x0 511) % 4294967296) * 8192) % 4294967296))))))
def laws_FnHalfToSingle.f (k : Nat) (a0 : Int) : Option (Bool) := (impl_HalfTo.f k a0).bind fun t127 => (if (t127 / 2147483648) = ((a0 / 32768) % 4294967296) then ((spec_SingleKind.f t127).bind fun t128 => ((spec_HalfKind.f a0).bind fun t129 => (laws_FnHalfToSingle.j0 k a0 t127 (t128 != t129)))) else (laws_FnHalfToSingle.j0 k a0 t127 true))
theorem laws_FnHalfToSingle.mono_l : ∀ k, (∀ y0 y1 y2, LeO (laws_FnHalfToSingle.j0 k y0 y1 y2) (laws_FnHalfToSingle.j0 (k + 1) y0 y1 y2))
  | 0 => fun _ _ _ r h => by simp [laws_FnHalfToSingle.j0] at h
  | k + 1 => by
    have ih0 := laws_FnHalfToSingle.mono_l k
    · intro y0 y1 y2
      unfold laws_FnHalfToSingle.j0
      repeat' first
      | (with_reducible exact ih0 _ _ _)
      | (with_reducible exact impl_HalfTo.mono _ _)
      | (with_reducible exact spec_HalfSame.mono _ _ _ _ _)
      | (with_reducible exact LeO.refl _)
      | (with_reducible exact LeO.none _)
      | (with_reducible refine LeO.ite ?_ ?_)
      | (with_reducible refine LeO.bind ?_ (fun _ => ?_))
      | exact ih0 _ _ _
      | exact impl_HalfTo.mono _ _
      | exact spec_HalfSame.mono _ _ _ _ _
      | exact LeO.none _
      | refine LeO.ite ?_ ?_
      | refine LeO.bind ?_ (fun _ => ?_)
theorem laws_FnHalfToSingle.mono : ∀ a0 k, LeO (laws_FnHalfToSingle.f k a0) (laws_FnHalfToSingle.f (k + 1) a0) := by
  intro a0 k
  have ih0 := laws_FnHalfToSingle.mono_l k
  unfold laws_FnHalfToSingle.f
  repeat' first
      | (with_reducible exact ih0 _ _ _)
      | (with_reducible exact impl_HalfTo.mono _ _)
      | (with_reducible exact spec_HalfSame.mono _ _ _ _ _)
      | (with_reducible exact LeO.refl _)
      | (with_reducible exact LeO.none _)
      | (with_reducible refine LeO.ite ?_ ?_)
      | (with_reducible refine LeO.bind ?_ (fun _ => ?_))
      | exact ih0 _ _ _
      | exact impl_HalfTo.mono _ _
      | exact spec_HalfSame.mono _ _ _ _ _
      | exact LeO.none _
      | refine LeO.ite ?_ ?_
      | refine LeO.bind ?_ (fun _ => ?_)
set_option maxHeartbeats 8000000 in
set_option maxRecDepth 100000 in
theorem laws_FnHalfToSingle.calls (k : Nat) (a0 : Int) (r : Bool) (w : World) (h : laws_FnHalfToSingle.f k a0 = some r) :
    Calls Try.prog 5 #[.int .u16 a0] w fun e w' => e = .returned (.bool r) ∧ Drawn0 w w' := by
  have H : ((impl_HalfTo.f k a0).bind fun t127 => (if (t127 / 2147483648) = ((a0 / 32768) % 4294967296) then ((spec_SingleKind.f t127).bind fun t128 => ((spec_HalfKind.f a0).bind fun t129 => (laws_FnHalfToSingle.j0 k a0 t127 (t128 != t129)))) else (laws_FnHalfToSingle.j0 k a0 t127 true))) = some r := h
  clear h
  replace H := Option.bind_eq_some_iff.mp H
  obtain ⟨t127, A20, H⟩ := H
  replace H : (if (t127 / 2147483648) = ((a0 / 32768) % 4294967296) then ((spec_SingleKind.f t127).bind fun t128 => ((spec_HalfKind.f a0).bind fun t129 => (laws_FnHalfToSingle.j0 k a0 t127 (t128 != t129)))) else (laws_FnHalfToSingle.j0 k a0 t127 true)) = some r := H
  have A2 := Aside0.mk A20
  clear A20
  have HC3 := Aside0.mk H
  clear H
  go_enter Try.func5, Try.ntmps5
  go_upto_region 2 with (first | ((with_reducible refine gate_callee (f := 18) rfl ?_); refine goesL_ (some 9) rfl rfl Try.func18 (by kernel_rfl) rfl #[.int .u16 a0] rfl (by (try simp only [List.map_toArray, List.map_cons, List.map_nil]); first | done | rfl | (simp only [List.length_drop, List.length_take]; rfl)) ?_; (with_reducible refine (impl_HalfTo.calls k a0 t127 _ A2.out).mono ?_); rintro e w' ⟨rfl, ⟨nd, rfl⟩⟩; refine ⟨_, rfl, ?_⟩))
  (try simp only [Act.put, List.setIfInBounds_toArray, List.set_cons_zero, List.set_cons_succ])
  go_cut [22] (fun v22 wc => ∃ (kq : Nat) (x22_2 : Bool), v22 = .bool x22_2 ∧ Aside0 (laws_FnHalfToSingle.j0 kq a0 t127 x22_2 = some r) ∧ Aside0 (kq ≤ k) ∧ Drawn0 w wc)
  case first =>
    have H := HC3.out
    clear HC3
    by_cases c4 : (t127 / 2147483648) = ((a0 / 32768) % 4294967296)
    · rw [if_pos c4] at H
      have c4b0 : ((t127 / 2147483648) == ((a0 / 32768) % 4294967296)) = true := beq_iff_eq.mpr c4
      have c4b1 : ((t127 / 2147483648) != ((a0 / 32768) % 4294967296)) = false := bne_eq_false_iff_eq.mpr c4
      clear c4
      (first | rw [c4b0] | (simp only [i64_w, i32_w]; rw [c4b0]) | skip)
      replace H := Option.bind_eq_some_iff.mp H
      obtain ⟨t128, A50, H⟩ := H
      replace H : ((spec_HalfKind.f a0).bind fun t129 => (laws_FnHalfToSingle.j0 k a0 t127 (t128 != t129))) = some r := H
      have A5 := Aside0.mk A50
      clear A50
      replace H := Option.bind_eq_some_iff.mp H
      obtain ⟨t129, A60, H⟩ := H
      replace H : (laws_FnHalfToSingle.j0 k a0 t127 (t128 != t129)) = some r := H
      have A6 := Aside0.mk A60
      clear A60
      have H' := Aside0.mk H
      clear H
      go_wp2_with (first | (go_at_call 19; (with_reducible refine (spec_SingleKind.calls t127 t128 _ A5.out).mono ?_); rintro e w' ⟨rfl, ⟨nd, rfl⟩⟩) | (go_at_call 17; (with_reducible refine (spec_HalfKind.calls a0 t129 _ A6.out).mono ?_); rintro e w' ⟨rfl, ⟨nd, rfl⟩⟩))
      go_meet
      case rel => exact ⟨_, ((t128 != t129)), (by first | rfl | (simp; done) | (simp [*]; done)), H', ⟨by first | omega | exact Nat.le_refl _⟩, by repeat (first | exact Drawn0.refl _ | apply Drawn0.step)⟩
    · rw [if_neg c4] at H
      have c4b0 : ((t127 / 2147483648) == ((a0 / 32768) % 4294967296)) = false := beq_eq_false_iff_ne.mpr c4
      have c4b1 : ((t127 / 2147483648) != ((a0 / 32768) % 4294967296)) = true := bne_iff_ne.mpr c4
      (first | rw [c4b0] | (simp only [i64_w, i32_w]; rw [c4b0]) | skip)
      have H' := Aside0.mk H
      clear H
      go_wp2
      go_meet
      case rel => exact ⟨_, (true), (by first | rfl | (simp; done) | (simp [*]; done)), H', ⟨by first | omega | exact Nat.le_refl _⟩, by repeat (first | exact Drawn0.refl _ | apply Drawn0.step)⟩
  case rest =>
    clear HC3
    try clear c1
    try clear p2
    try clear c4
    try clear c4b0
    try clear c4b1
    try clear c5
    obtain ⟨kq, x22_2, rfl, HA, HJ2, ⟨mc2, rfl⟩⟩ := hcut
    cases kq with
    | zero => exact absurd HA.out (by simp [laws_FnHalfToSingle.j0])
    | succ kj2 =>
      have H := HA.out
      clear HA
      simp only [laws_FnHalfToSingle.j0] at H
      by_cases c7 : x22_2 = true
      · subst c7
        have H1 : (some false) = some r := by rw [if_pos rfl] at H; exact H
        clear H
        have H := H1
        clear H1
        obtain rfl := Option.some.inj H
        go_wp2
        go_ret
        exact ⟨by first | rfl | (simp; done) | (simp [*]; done), by repeat (first | exact Drawn0.refl _ | apply Drawn0.step)⟩
      · replace c7 := Bool.eq_false_iff.mpr c7
        subst c7
        have H1 : ((spec_HalfKind.f a0).bind fun t130 => (if t130 = 0 then ((spec_HalfValue.f a0).bind fun bt131 => ((spec_SingleValue.f t127).bind fun bt133 => ((spec_HalfSame.f kj2 bt131.1 bt131.2 bt133.1 bt133.2).bind fun t135 => (some t135)))) else (if t130 = 1 then (some true) else (some ((Go.bits .and .u32 t127 4194303) == ((((Go.bits .and .u16 a0 511) % 4294967296) * 8192) % 4294967296)))))) = some r := by rw [if_neg (show ¬ (false = true) by decide)] at H; exact H
        clear H
        have H := H1
        clear H1
        replace H := Option.bind_eq_some_iff.mp H
        obtain ⟨t130, A80, H⟩ := H
        replace H : (if t130 = 0 then ((spec_HalfValue.f a0).bind fun bt131 => ((spec_SingleValue.f t127).bind fun bt133 => ((spec_HalfSame.f kj2 bt131.1 bt131.2 bt133.1 bt133.2).bind fun t135 => (some t135)))) else (if t130 = 1 then (some true) else (some ((Go.bits .and .u32 t127 4194303) == ((((Go.bits .and .u16 a0 511) % 4294967296) * 8192) % 4294967296))))) = some r := H
        have A8 := Aside0.mk A80
        clear A80
        by_cases c9 : t130 = 0
        · rw [if_pos c9] at H
          have c9b0 : (t130 == 0) = true := beq_iff_eq.mpr c9
          have c9b1 : (t130 != 0) = false := bne_eq_false_iff_eq.mpr c9
          clear c9
          replace H := Option.bind_eq_some_iff.mp H
          obtain ⟨⟨t131, t132⟩, A100, H⟩ := H
          replace H : ((spec_SingleValue.f t127).bind fun bt133 => ((spec_HalfSame.f kj2 t131 t132 bt133.1 bt133.2).bind fun t135 => (some t135))) = some r := H
          have A10 := Aside0.mk A100
          clear A100
          replace H := Option.bind_eq_some_iff.mp H
          obtain ⟨⟨t133, t134⟩, A110, H⟩ := H
          replace H : ((spec_HalfSame.f kj2 t131 t132 t133 t134).bind fun t135 => (some t135)) = some r := H
          have A11 := Aside0.mk A110
          clear A110
          replace H := Option.bind_eq_some_iff.mp H
          obtain ⟨t135, A120, H⟩ := H
          replace H : (some t135) = some r := H
          have A12 := Aside0.mk A120
          clear A120
          obtain rfl := Option.some.inj H
          go_wp2_with (first | ((with_reducible refine gate_callee (f := 17) rfl ?_); refine goesL_ (some 24) rfl rfl Try.func17 (by kernel_rfl) rfl #[.int .u16 a0] rfl (by (try simp only [List.map_toArray, List.map_cons, List.map_nil]); first | done | rfl | (simp only [List.length_drop, List.length_take]; rfl)) ?_; (with_reducible refine (spec_HalfKind.calls a0 t130 _ A8.out).mono ?_); rintro e w' ⟨rfl, ⟨nd, rfl⟩⟩; refine ⟨_, rfl, ?_⟩) | ((with_reducible refine gate_callee (f := 20) rfl ?_); refine goesL_ (some 29) rfl rfl Try.func20 (by kernel_rfl) rfl #[.int .u16 a0] rfl (by (try simp only [List.map_toArray, List.map_cons, List.map_nil]); first | done | rfl | (simp only [List.length_drop, List.length_take]; rfl)) ?_; (with_reducible refine (spec_HalfValue.calls a0 t131 t132 _ A10.out).mono ?_); rintro e w' ⟨rfl, ⟨nd, rfl⟩⟩; refine ⟨_, rfl, ?_⟩) | ((with_reducible refine gate_callee (f := 21) rfl ?_); refine goesL_ (some 34) rfl rfl Try.func21 (by kernel_rfl) rfl #[.int .u32 t127] rfl (by (try simp only [List.map_toArray, List.map_cons, List.map_nil]); first | done | rfl | (simp only [List.length_drop, List.length_take]; rfl)) ?_; (with_reducible refine (spec_SingleValue.calls t127 t133 t134 _ A11.out).mono ?_); rintro e w' ⟨rfl, ⟨nd, rfl⟩⟩; refine ⟨_, rfl, ?_⟩) | ((with_reducible refine gate_callee (f := 22) rfl ?_); refine goesL_ (some 41) rfl rfl Try.func22 (by kernel_rfl) rfl #[.int .i64 t131, .int .i64 t132, .int .i64 t133, .int .i64 t134] rfl (by (try simp only [List.map_toArray, List.map_cons, List.map_nil]); first | done | rfl | (simp only [List.length_drop, List.length_take]; rfl)) ?_; (with_reducible refine (spec_HalfSame.calls kj2 t131 t132 t133 t134 t135 _ A12.out).mono ?_); rintro e w' ⟨rfl, ⟨nd, rfl⟩⟩; refine ⟨_, rfl, ?_⟩))
          go_ret
          exact ⟨by first | rfl | (simp; done) | (simp [*]; done), by repeat (first | exact Drawn0.refl _ | apply Drawn0.step)⟩
        · rw [if_neg c9] at H
          have c9b0 : (t130 == 0) = false := beq_eq_false_iff_ne.mpr c9
          have c9b1 : (t130 != 0) = true := bne_iff_ne.mpr c9
          by_cases c13 : t130 = 1
          · rw [if_pos c13] at H
            have c13b0 : (t130 == 1) = true := beq_iff_eq.mpr c13
            have c13b1 : (t130 != 1) = false := bne_eq_false_iff_eq.mpr c13
            clear c13
            obtain rfl := Option.some.inj H
            go_wp2_with (first | ((with_reducible refine gate_callee (f := 17) rfl ?_); refine goesL_ (some 24) rfl rfl Try.func17 (by kernel_rfl) rfl #[.int .u16 a0] rfl (by (try simp only [List.map_toArray, List.map_cons, List.map_nil]); first | done | rfl | (simp only [List.length_drop, List.length_take]; rfl)) ?_; (with_reducible refine (spec_HalfKind.calls a0 t130 _ A8.out).mono ?_); rintro e w' ⟨rfl, ⟨nd, rfl⟩⟩; refine ⟨_, rfl, ?_⟩))
            go_ret
            exact ⟨by first | rfl | (simp; done) | (simp [*]; done), by repeat (first | exact Drawn0.refl _ | apply Drawn0.step)⟩
          · rw [if_neg c13] at H
            have c13b0 : (t130 == 1) = false := beq_eq_false_iff_ne.mpr c13
            have c13b1 : (t130 != 1) = true := bne_iff_ne.mpr c13
            obtain rfl := Option.some.inj H
            go_wp2_with (first | ((with_reducible refine gate_callee (f := 17) rfl ?_); refine goesL_ (some 24) rfl rfl Try.func17 (by kernel_rfl) rfl #[.int .u16 a0] rfl (by (try simp only [List.map_toArray, List.map_cons, List.map_nil]); first | done | rfl | (simp only [List.length_drop, List.length_take]; rfl)) ?_; (with_reducible refine (spec_HalfKind.calls a0 t130 _ A8.out).mono ?_); rintro e w' ⟨rfl, ⟨nd, rfl⟩⟩; refine ⟨_, rfl, ?_⟩))
            go_ret
            exact ⟨by first | rfl | (simp; done) | (simp [*]; done), by repeat (first | exact Drawn0.refl _ | apply Drawn0.step)⟩

/-- THE ONE PURE STATEMENT of laws_FnHalfToSingle: yours. -/
def laws_FnHalfToSingle.Pure : Prop := ∀ (a0 : Int), (Lit.int .u16 a0).wf = true → ∃ k, laws_FnHalfToSingle.f k a0 = some true
theorem laws_FnHalfToSingle.walk (P : laws_FnHalfToSingle.Pure) (a0 : Int) (w : World) (w0 : (Lit.int .u16 a0).wf = true) :
    Calls Try.prog 5 #[.int .u16 a0] w fun e w' => e = .returned (.bool true) ∧ Below w.heap.size w w' := by
  obtain ⟨k, h⟩ := P a0 w0
  refine (laws_FnHalfToSingle.calls k a0 true w h).mono ?_
  rintro e w' ⟨rfl, hd⟩
  exact ⟨rfl, hd.below⟩


/-! ### float16_f32bitsToF16bits: function 46 -/
/-- The half of a float32's bits, as plain numbers: s the sign, x the exponent's field, c the fraction's. -/
def rup (m d : Nat) : Bool := (m &&& 2 ^ (d - 1)) != 0 && (m &&& (3 * 2 ^ (d - 1) - 1)) != 0
def f16 (n : Nat) : Nat :=
  let s := n / 2147483648
  let x := n / 8388608 % 256
  let c := n % 8388608
  if x = 255 then (s * 32768 ||| 31744 ||| (if c = 0 then 0 else 512) ||| c / 8192)
  else if 143 ≤ x then s * 32768 ||| 31744
  else if x ≤ 112 then
    if x < 102 then s * 32768
    else s * 32768 ||| ((c ||| 8388608) / 2 ^ (126 - x) + if rup (c ||| 8388608) (126 - x) then 1 else 0)
  else ((s * 32768 ||| (x - 112) * 1024 ||| c / 8192) + if rup c 13 then 1 else 0) % 65536
theorem u32_and (a b : Nat) (ha : a < 4294967296) (hb : b < 4294967296) : Go.bits .and .u32 (a : Int) (b : Int) = ((a &&& b : Nat) : Int) := u32_and_nat a b ha hb
theorem u32_or (a b : Nat) (ha : a < 4294967296) (hb : b < 4294967296) : Go.bits .or .u32 (a : Int) (b : Int) = ((a ||| b : Nat) : Int) := u32_or_nat a b ha hb
theorem and_sign (n : Nat) (hn : n < 4294967296) : Go.bits .and .u32 (n : Int) 2147483648 = ((n / 2147483648 * 2147483648 : Nat) : Int) := by
  have e := u32_and n 2147483648 hn (by decide)
  rw [show ((2147483648 : Nat) : Int) = 2147483648 from rfl] at e
  rw [e]
  congr 1
  apply Nat.eq_of_testBit_eq
  intro i
  rw [Nat.testBit_and, show (2147483648 : Nat) = 2 ^ 31 from rfl, Nat.testBit_two_pow, Nat.mul_comm, Nat.testBit_two_pow_mul, Nat.testBit_div_two_pow]
  by_cases h : 31 = i
  · subst h
    simp
  · by_cases h2 : 31 ≤ i
    · rw [Nat.sub_add_cancel h2, Nat.testBit_lt_two_pow (Nat.lt_of_lt_of_le (show n < 2 ^ 32 from hn) (Nat.pow_le_pow_right (by decide) (by omega)))]
      simp
    · simp [h, h2]
theorem and_frac (n : Nat) (hn : n < 4294967296) : Go.bits .and .u32 (n : Int) 8388607 = ((n % 8388608 : Nat) : Int) := by
  have e := u32_and n 8388607 hn (by decide)
  rw [show ((8388607 : Nat) : Int) = 8388607 from rfl, show (8388607 : Nat) = 2 ^ 23 - 1 from rfl, Nat.and_two_pow_sub_one_eq_mod] at e
  exact e
theorem and_exp (n : Nat) (hn : n < 4294967296) : Go.bits .and .u32 (n : Int) 2139095040 = ((n / 8388608 % 256 * 8388608 : Nat) : Int) := by
  have e := u32_and n 2139095040 hn (by decide)
  rw [show ((2139095040 : Nat) : Int) = 2139095040 from rfl] at e
  rw [e]
  congr 1
  apply Nat.eq_of_testBit_eq
  intro i
  rw [Nat.testBit_and, show (2139095040 : Nat) = 2 ^ 23 * (2 ^ 8 - 1) from rfl, Nat.testBit_two_pow_mul, Nat.testBit_two_pow_sub_one, Nat.mul_comm (n / 8388608 % 256), show (8388608 : Nat) = 2 ^ 23 from rfl, Nat.testBit_two_pow_mul, show (256 : Nat) = 2 ^ 8 from rfl, Nat.testBit_mod_two_pow, Nat.testBit_div_two_pow]
  by_cases h : 23 ≤ i
  · rw [Nat.sub_add_cancel h]
    simp [h, Bool.and_comm]
  · simp [h]
def orS (s : Nat) (y : Int) : Int := IntKind.u16.wrap (Go.bits .or .u32 ((s : Int) * 2147483648 / 65536) y)
set_option maxHeartbeats 2000000 in
set_option maxRecDepth 100000 in
theorem f16_t1 (n s x c f : Nat) (w : World) (E1 : Go.bits .and .u32 (n : Int) 2147483648 = ((s * 2147483648 : Nat) : Int)) (E2 : Go.bits .and .u32 (n : Int) 2139095040 = ((x * 8388608 : Nat) : Int)) (E3 : Go.bits .and .u32 (n : Int) 8388607 = (c : Int)) (hs : s < 2) (hc : c < 8388608) (hx : x = 255) (h0 : c = 0) (hf : IntKind.u16.wrap (Go.bits .or .u32 (Go.bits .or .u32 (Go.bits .or .u32 ((s : Int) * 2147483648 / 65536) 31744) 0) 0) = (f : Int)) :
    Calls Try.prog 46 #[.int .u32 (n : Int)] w fun e w' => e = .returned (.int .u16 (f : Nat)) ∧ Drawn0 w w' := by
  go_enter Try.func46, Try.ntmps46
  go_wp2
  go_ret
  refine ⟨?_, Drawn0.refl _⟩
  rw [← hf]
  rfl
set_option maxHeartbeats 2000000 in
set_option maxRecDepth 100000 in
theorem f16_t2 (n s x c f : Nat) (w : World) (E1 : Go.bits .and .u32 (n : Int) 2147483648 = ((s * 2147483648 : Nat) : Int)) (E2 : Go.bits .and .u32 (n : Int) 2139095040 = ((x * 8388608 : Nat) : Int)) (E3 : Go.bits .and .u32 (n : Int) 8388607 = (c : Int)) (hs : s < 2) (hc : c < 8388608) (hx : x = 255) (h0 : c ≠ 0) (hf : IntKind.u16.wrap (Go.bits .or .u32 (Go.bits .or .u32 (Go.bits .or .u32 ((s : Int) * 2147483648 / 65536) 31744) 512) ((c : Int) / 8192)) = (f : Int)) :
    Calls Try.prog 46 #[.int .u32 (n : Int)] w fun e w' => e = .returned (.int .u16 (f : Nat)) ∧ Drawn0 w w' := by
  go_enter Try.func46, Try.ntmps46
  go_wp2
  go_ret
  refine ⟨?_, Drawn0.refl _⟩
  rw [← hf]
  rfl
set_option maxHeartbeats 2000000 in
set_option maxRecDepth 100000 in
theorem f16_o (n s x c f : Nat) (w : World) (E1 : Go.bits .and .u32 (n : Int) 2147483648 = ((s * 2147483648 : Nat) : Int)) (E2 : Go.bits .and .u32 (n : Int) 2139095040 = ((x * 8388608 : Nat) : Int)) (E3 : Go.bits .and .u32 (n : Int) 8388607 = (c : Int)) (hs : s < 2) (hc : c < 8388608) (hx : x < 255) (h1 : 143 ≤ x) (hf : IntKind.u16.wrap (Go.bits .or .u32 ((s : Int) * 2147483648 / 65536) 31744) = (f : Int)) :
    Calls Try.prog 46 #[.int .u32 (n : Int)] w fun e w' => e = .returned (.int .u16 (f : Nat)) ∧ Drawn0 w w' := by
  go_enter Try.func46, Try.ntmps46
  go_wp2
  go_ret
  refine ⟨?_, Drawn0.refl _⟩
  rw [← hf]
  rfl
set_option maxHeartbeats 2000000 in
set_option maxRecDepth 100000 in
theorem f16_u (n s x c f : Nat) (w : World) (E1 : Go.bits .and .u32 (n : Int) 2147483648 = ((s * 2147483648 : Nat) : Int)) (E2 : Go.bits .and .u32 (n : Int) 2139095040 = ((x * 8388608 : Nat) : Int)) (E3 : Go.bits .and .u32 (n : Int) 8388607 = (c : Int)) (hs : s < 2) (hc : c < 8388608) (hx : x < 102) (hf : IntKind.u16.wrap ((s : Int) * 2147483648 / 65536) = (f : Int)) :
    Calls Try.prog 46 #[.int .u32 (n : Int)] w fun e w' => e = .returned (.int .u16 (f : Nat)) ∧ Drawn0 w w' := by
  go_enter Try.func46, Try.ntmps46
  go_wp2
  go_ret
  refine ⟨?_, Drawn0.refl _⟩
  rw [← hf]
  rfl
set_option maxHeartbeats 2000000 in
set_option maxRecDepth 100000 in
theorem f16_s0 (n s x c f : Nat) (m : Nat) (w : World) (E1 : Go.bits .and .u32 (n : Int) 2147483648 = ((s * 2147483648 : Nat) : Int)) (E2 : Go.bits .and .u32 (n : Int) 2139095040 = ((x * 8388608 : Nat) : Int)) (E3 : Go.bits .and .u32 (n : Int) 8388607 = (c : Int)) (hs : s < 2) (hc : c < 8388608) (h1 : 102 ≤ x) (h2 : x ≤ 112) (E4 : Go.bits .or .u32 (c : Int) 8388608 = (m : Int)) (hm : m < 16777216) (c1 : (Go.bits .and .u32 (m : Int) (2 ^ (13 - ((x : Int) - 127 + 15)).toNat % 4294967296) != 0) = false)  (hf : IntKind.u16.wrap (Go.bits .or .u32 ((s : Int) * 2147483648 / 65536) ((m : Int) / 2 ^ (14 - ((x : Int) - 127 + 15)).toNat)) = (f : Int)) :
    Calls Try.prog 46 #[.int .u32 (n : Int)] w fun e w' => e = .returned (.int .u16 (f : Nat)) ∧ Drawn0 w w' := by
  go_enter Try.func46, Try.ntmps46
  go_wp2
  go_ret
  refine ⟨?_, Drawn0.refl _⟩
  rw [← hf]
  rfl
set_option maxHeartbeats 2000000 in
set_option maxRecDepth 100000 in
theorem f16_s1 (n s x c f : Nat) (m : Nat) (w : World) (E1 : Go.bits .and .u32 (n : Int) 2147483648 = ((s * 2147483648 : Nat) : Int)) (E2 : Go.bits .and .u32 (n : Int) 2139095040 = ((x * 8388608 : Nat) : Int)) (E3 : Go.bits .and .u32 (n : Int) 8388607 = (c : Int)) (hs : s < 2) (hc : c < 8388608) (h1 : 102 ≤ x) (h2 : x ≤ 112) (E4 : Go.bits .or .u32 (c : Int) 8388608 = (m : Int)) (hm : m < 16777216) (c1 : (Go.bits .and .u32 (m : Int) (2 ^ (13 - ((x : Int) - 127 + 15)).toNat % 4294967296) != 0) = true) (c2 : (Go.bits .and .u32 (m : Int) ((3 * (2 ^ (13 - ((x : Int) - 127 + 15)).toNat % 4294967296) - 1) % 4294967296) != 0) = false)  (hf : IntKind.u16.wrap (Go.bits .or .u32 ((s : Int) * 2147483648 / 65536) ((m : Int) / 2 ^ (14 - ((x : Int) - 127 + 15)).toNat)) = (f : Int)) :
    Calls Try.prog 46 #[.int .u32 (n : Int)] w fun e w' => e = .returned (.int .u16 (f : Nat)) ∧ Drawn0 w w' := by
  go_enter Try.func46, Try.ntmps46
  go_wp2
  go_ret
  refine ⟨?_, Drawn0.refl _⟩
  rw [← hf]
  rfl
set_option maxHeartbeats 2000000 in
set_option maxRecDepth 100000 in
theorem f16_s2 (n s x c f : Nat) (m : Nat) (w : World) (E1 : Go.bits .and .u32 (n : Int) 2147483648 = ((s * 2147483648 : Nat) : Int)) (E2 : Go.bits .and .u32 (n : Int) 2139095040 = ((x * 8388608 : Nat) : Int)) (E3 : Go.bits .and .u32 (n : Int) 8388607 = (c : Int)) (hs : s < 2) (hc : c < 8388608) (h1 : 102 ≤ x) (h2 : x ≤ 112) (E4 : Go.bits .or .u32 (c : Int) 8388608 = (m : Int)) (hm : m < 16777216) (c1 : (Go.bits .and .u32 (m : Int) (2 ^ (13 - ((x : Int) - 127 + 15)).toNat % 4294967296) != 0) = true) (c2 : (Go.bits .and .u32 (m : Int) ((3 * (2 ^ (13 - ((x : Int) - 127 + 15)).toNat % 4294967296) - 1) % 4294967296) != 0) = true)  (hf : IntKind.u16.wrap (Go.bits .or .u32 ((s : Int) * 2147483648 / 65536) (((m : Int) / 2 ^ (14 - ((x : Int) - 127 + 15)).toNat + 1) % 4294967296)) = (f : Int)) :
    Calls Try.prog 46 #[.int .u32 (n : Int)] w fun e w' => e = .returned (.int .u16 (f : Nat)) ∧ Drawn0 w w' := by
  go_enter Try.func46, Try.ntmps46
  go_wp2
  go_ret
  refine ⟨?_, Drawn0.refl _⟩
  rw [← hf]
  rfl
set_option maxHeartbeats 2000000 in
set_option maxRecDepth 100000 in
theorem f16_m0 (n s x c f : Nat) (w : World) (E1 : Go.bits .and .u32 (n : Int) 2147483648 = ((s * 2147483648 : Nat) : Int)) (E2 : Go.bits .and .u32 (n : Int) 2139095040 = ((x * 8388608 : Nat) : Int)) (E3 : Go.bits .and .u32 (n : Int) 8388607 = (c : Int)) (hs : s < 2) (hc : c < 8388608) (h1 : 112 < x) (h2 : x < 143) (c1 : (Go.bits .and .u32 (c : Int) 4096 != 0) = false)  (hf : IntKind.u16.wrap (Go.bits .or .u32 (Go.bits .or .u32 ((s : Int) * 2147483648 / 65536) (((x : Int) - 127 + 15) * 1024)) ((c : Int) / 8192)) = (f : Int)) :
    Calls Try.prog 46 #[.int .u32 (n : Int)] w fun e w' => e = .returned (.int .u16 (f : Nat)) ∧ Drawn0 w w' := by
  go_enter Try.func46, Try.ntmps46
  go_wp2
  go_ret
  refine ⟨?_, Drawn0.refl _⟩
  rw [← hf]
  rfl
set_option maxHeartbeats 2000000 in
set_option maxRecDepth 100000 in
theorem f16_m1 (n s x c f : Nat) (w : World) (E1 : Go.bits .and .u32 (n : Int) 2147483648 = ((s * 2147483648 : Nat) : Int)) (E2 : Go.bits .and .u32 (n : Int) 2139095040 = ((x * 8388608 : Nat) : Int)) (E3 : Go.bits .and .u32 (n : Int) 8388607 = (c : Int)) (hs : s < 2) (hc : c < 8388608) (h1 : 112 < x) (h2 : x < 143) (c1 : (Go.bits .and .u32 (c : Int) 4096 != 0) = true) (c2 : (Go.bits .and .u32 (c : Int) 12287 != 0) = false)  (hf : IntKind.u16.wrap (Go.bits .or .u32 (Go.bits .or .u32 ((s : Int) * 2147483648 / 65536) (((x : Int) - 127 + 15) * 1024)) ((c : Int) / 8192)) = (f : Int)) :
    Calls Try.prog 46 #[.int .u32 (n : Int)] w fun e w' => e = .returned (.int .u16 (f : Nat)) ∧ Drawn0 w w' := by
  go_enter Try.func46, Try.ntmps46
  go_wp2
  go_ret
  refine ⟨?_, Drawn0.refl _⟩
  rw [← hf]
  rfl
set_option maxHeartbeats 2000000 in
set_option maxRecDepth 100000 in
theorem f16_m2 (n s x c f : Nat) (w : World) (E1 : Go.bits .and .u32 (n : Int) 2147483648 = ((s * 2147483648 : Nat) : Int)) (E2 : Go.bits .and .u32 (n : Int) 2139095040 = ((x * 8388608 : Nat) : Int)) (E3 : Go.bits .and .u32 (n : Int) 8388607 = (c : Int)) (hs : s < 2) (hc : c < 8388608) (h1 : 112 < x) (h2 : x < 143) (c1 : (Go.bits .and .u32 (c : Int) 4096 != 0) = true) (c2 : (Go.bits .and .u32 (c : Int) 12287 != 0) = true)  (hf : IntKind.u16.wrap (((Go.bits .or .u32 (Go.bits .or .u32 ((s : Int) * 2147483648 / 65536) (((x : Int) - 127 + 15) * 1024)) ((c : Int) / 8192)) + 1) % 4294967296) = (f : Int)) :
    Calls Try.prog 46 #[.int .u32 (n : Int)] w fun e w' => e = .returned (.int .u16 (f : Nat)) ∧ Drawn0 w w' := by
  go_enter Try.func46, Try.ntmps46
  go_wp2
  go_ret
  refine ⟨?_, Drawn0.refl _⟩
  rw [← hf]
  rfl
theorem pow_cast (k : Nat) (hk : k ≤ 23) : ((2 : Int) ^ k % 4294967296) = ((2 ^ k : Nat) : Int) := by
  have h : (2 : Nat) ^ k ≤ 2 ^ 23 := Nat.pow_le_pow_right (by decide) hk
  have e : ((2 : Int) ^ k) = ((2 ^ k : Nat) : Int) := by simp
  rw [e]
  generalize (2 : Nat) ^ k = P at *
  omega
theorem nat_bne (a b : Nat) (h : a = b) : ((a : Int) != 0) = (b != 0) := by
  subst h
  cases a with
  | zero => rfl
  | succ a =>
    rw [bne_iff_ne.mpr (by omega : ((a + 1 : Nat) : Int) ≠ 0), bne_iff_ne.mpr (by omega : a + 1 ≠ 0)]
theorem and_b1 (m k : Nat) (hm : m < 16777216) (hk : k ≤ 23) : (Go.bits .and .u32 (m : Int) ((2 : Int) ^ k % 4294967296) != 0) = ((m &&& 2 ^ k) != 0) := by
  have h : (2 : Nat) ^ k ≤ 2 ^ 23 := Nat.pow_le_pow_right (by decide) hk
  rw [pow_cast k hk, u32_and m (2 ^ k) (by omega) (by omega)]
  exact nat_bne _ _ rfl
theorem and_b2 (m k : Nat) (hm : m < 16777216) (hk : k ≤ 23) : (Go.bits .and .u32 (m : Int) ((3 * ((2 : Int) ^ k % 4294967296) - 1) % 4294967296) != 0) = ((m &&& (3 * 2 ^ k - 1)) != 0) := by
  have h : (2 : Nat) ^ k ≤ 2 ^ 23 := Nat.pow_le_pow_right (by decide) hk
  have h0 : 0 < (2 : Nat) ^ k := Nat.pow_pos (by decide)
  have e : (3 * ((2 ^ k : Nat) : Int) - 1) % 4294967296 = ((3 * 2 ^ k - 1 : Nat) : Int) := by omega
  rw [pow_cast k hk, e, u32_and m (3 * 2 ^ k - 1) (by omega) (by omega)]
  exact nat_bne _ _ rfl
theorem sgn (s : Nat) : (s : Int) * 2147483648 / 65536 = ((s * 32768 : Nat) : Int) := by omega
theorem wrap16 (y : Nat) : IntKind.u16.wrap (y : Int) = ((y % 65536 : Nat) : Int) := by
  rw [IntKind.wrap_u16]
  omega
theorem or_lt16 {a b : Nat} (ha : a < 65536) (hb : b < 65536) : a ||| b < 65536 := Nat.or_lt_two_pow (n := 16) ha hb
theorem or_s (s y : Nat) (hs : s < 2) (hy : y < 32768) : IntKind.u16.wrap (Go.bits .or .u32 ((s : Int) * 2147483648 / 65536) (y : Int)) = ((s * 32768 ||| y : Nat) : Int) := by
  rw [sgn, u32_or _ _ (by omega) (by omega), wrap16, Nat.mod_eq_of_lt (or_lt16 (by omega) (by omega))]
theorem div_cast (m k : Nat) : (m : Int) / 2 ^ k = ((m / 2 ^ k : Nat) : Int) := by simp
def float16_f32bitsToF16bits.f (a0 : Int) : Option Int := if 0 ≤ a0 ∧ a0 < 4294967296 then some ((f16 a0.toNat : Nat) : Int) else none
theorem float16_f32bitsToF16bits.calls (a0 : Int) (r : Int) (w : World) (h : float16_f32bitsToF16bits.f a0 = some r) :
    Calls Try.prog 46 #[.int .u32 a0] w fun e w' => e = .returned (.int .u16 r) ∧ Drawn0 w w' := by
  unfold float16_f32bitsToF16bits.f at h
  split at h
  case isFalse => cases h
  rename_i h0
  obtain rfl := Option.some.inj h
  obtain ⟨n, rfl⟩ := Int.eq_ofNat_of_zero_le h0.1
  have hn : n < 4294967296 := by have := h0.2; omega
  rw [Int.toNat_natCast]
  have E1 := and_sign n hn
  have E2 := and_exp n hn
  have E3 := and_frac n hn
  have hs : n / 2147483648 < 2 := by omega
  have hc : n % 8388608 < 8388608 := by omega
  have hx : n / 8388608 % 256 < 256 := by omega
  unfold f16
  simp only []
  generalize n / 2147483648 = s at *
  generalize n % 8388608 = c at *
  generalize n / 8388608 % 256 = x at *
  clear h h0
  have hcd : c / 8192 < 1024 := by omega
  have ec : (c : Int) / 8192 = ((c / 8192 : Nat) : Int) := by omega
  by_cases x255 : x = 255
  · rw [if_pos x255]
    by_cases c0 : c = 0
    · rw [if_pos c0]
      refine f16_t1 n s x c _ w E1 E2 E3 hs hc x255 c0 ?_
      have e1 := u32_or (s * 32768) 31744 (by omega) (by decide)
      have e2 := u32_or (s * 32768 ||| 31744) 0 (Nat.lt_trans (or_lt16 (by omega) (by decide)) (by decide)) (by decide)
      rw [show ((31744 : Nat) : Int) = 31744 from rfl] at e1
      rw [show ((0 : Nat) : Int) = 0 from rfl] at e2
      rw [sgn, e1, e2, Nat.or_zero, e2, Nat.or_zero, wrap16, Nat.mod_eq_of_lt (or_lt16 (by omega) (by decide)), c0]
      simp
    · rw [if_neg c0]
      refine f16_t2 n s x c _ w E1 E2 E3 hs hc x255 c0 ?_
      have l1 : s * 32768 ||| 31744 < 65536 := or_lt16 (by omega) (by decide)
      have l2 : s * 32768 ||| 31744 ||| 512 < 65536 := or_lt16 l1 (by decide)
      have e1 := u32_or (s * 32768) 31744 (by omega) (by decide)
      have e2 := u32_or (s * 32768 ||| 31744) 512 (Nat.lt_trans l1 (by decide)) (by decide)
      have e3 := u32_or (s * 32768 ||| 31744 ||| 512) (c / 8192) (Nat.lt_trans l2 (by decide)) (by omega)
      rw [show ((31744 : Nat) : Int) = 31744 from rfl] at e1
      rw [show ((512 : Nat) : Int) = 512 from rfl] at e2
      rw [sgn, ec, e1, e2, e3, wrap16, Nat.mod_eq_of_lt (or_lt16 l2 (by omega))]
  rw [if_neg x255]
  by_cases x143 : 143 ≤ x
  · rw [if_pos x143]
    refine f16_o n s x c _ w E1 E2 E3 hs hc (by omega) x143 ?_
    exact or_s s 31744 hs (by decide)
  rw [if_neg x143]
  by_cases x112 : x ≤ 112
  · rw [if_pos x112]
    by_cases x102 : x < 102
    · rw [if_pos x102]
      refine f16_u n s x c _ w E1 E2 E3 hs hc x102 ?_
      rw [sgn, wrap16, Nat.mod_eq_of_lt (by omega)]
    · rw [if_neg x102]
      have hm : c ||| 8388608 < 16777216 := Nat.or_lt_two_pow (n := 24) (by omega) (by decide)
      have E4 := u32_or c 8388608 (by omega) (by decide)
      rw [show ((8388608 : Nat) : Int) = 8388608 from rfl] at E4
      generalize c ||| 8388608 = m at *
      have k1 : (13 - ((x : Int) - 127 + 15)).toNat = 125 - x := by omega
      have k2 : (14 - ((x : Int) - 127 + 15)).toNat = 126 - x := by omega
      have kd : 126 - x - 1 = 125 - x := by omega
      have b1 := and_b1 m (125 - x) hm (by omega)
      have b2 := and_b2 m (125 - x) hm (by omega)
      have hq : m / 2 ^ (126 - x) ≤ 1023 := by
        have p14 : (2 : Nat) ^ 14 ≤ 2 ^ (126 - x) := Nat.pow_le_pow_right (by decide) (by omega)
        have := Nat.div_le_div_left (a := m) p14 (by decide)
        have : m / 2 ^ 14 < 1024 := Nat.div_lt_of_lt_mul hm
        omega
      unfold rup
      rw [kd]
      rw [← k1] at b1 b2
      cases c1 : (m &&& 2 ^ (125 - x)) != 0
      · rw [k1, c1] at b1
        rw [← k1] at b1
        refine f16_s0 n s x c _ m w E1 E2 E3 hs hc (by omega) x112 E4 hm b1 ?_
        rw [k2, div_cast, or_s s _ hs (by omega)]
        simp
      · cases c2 : (m &&& (3 * 2 ^ (125 - x) - 1)) != 0
        · rw [k1, c1] at b1
          rw [k1, c2] at b2
          rw [← k1] at b1 b2
          refine f16_s1 n s x c _ m w E1 E2 E3 hs hc (by omega) x112 E4 hm b1 b2 ?_
          rw [k2, div_cast, or_s s _ hs (by omega)]
          simp
        · rw [k1, c1] at b1
          rw [k1, c2] at b2
          rw [← k1] at b1 b2
          refine f16_s2 n s x c _ m w E1 E2 E3 hs hc (by omega) x112 E4 hm b1 b2 ?_
          have e : (((m / 2 ^ (126 - x) : Nat) : Int) + 1) % 4294967296 = ((m / 2 ^ (126 - x) + 1 : Nat) : Int) := by
            clear c1 c2 b1 b2 E4
            generalize m / 2 ^ (126 - x) = q at *
            omega
          rw [k2, div_cast, e, or_s s _ hs (by omega)]
          simp
  rw [if_neg x112]
  have l1 : s * 32768 ||| (x - 112) * 1024 < 65536 := or_lt16 (by omega) (by omega)
  have l2 : s * 32768 ||| (x - 112) * 1024 ||| c / 8192 < 65536 := or_lt16 l1 (by omega)
  have ex : ((x : Int) - 127 + 15) * 1024 = (((x - 112) * 1024 : Nat) : Int) := by omega
  have e1 := u32_or (s * 32768) ((x - 112) * 1024) (by omega) (by omega)
  have e2 := u32_or (s * 32768 ||| (x - 112) * 1024) (c / 8192) (Nat.lt_trans l1 (by decide)) (by omega)
  have b1 : (Go.bits .and .u32 (c : Int) 4096 != 0) = ((c &&& 4096) != 0) := by
    have e := u32_and c 4096 (by omega) (by decide)
    rw [show ((4096 : Nat) : Int) = 4096 from rfl] at e
    rw [e]
    exact nat_bne _ _ rfl
  have b2 : (Go.bits .and .u32 (c : Int) 12287 != 0) = ((c &&& 12287) != 0) := by
    have e := u32_and c 12287 (by omega) (by decide)
    rw [show ((12287 : Nat) : Int) = 12287 from rfl] at e
    rw [e]
    exact nat_bne _ _ rfl
  unfold rup
  rw [show (2 : Nat) ^ (13 - 1) = 4096 from rfl, show 3 * 4096 - 1 = 12287 from rfl]
  cases c1 : (c &&& 4096) != 0
  · rw [c1] at b1
    refine f16_m0 n s x c _ w E1 E2 E3 hs hc (by omega) (by omega) b1 ?_
    rw [sgn, ec, ex, e1, e2, wrap16]
    simp
  · cases c2 : (c &&& 12287) != 0
    · rw [c1] at b1
      rw [c2] at b2
      refine f16_m1 n s x c _ w E1 E2 E3 hs hc (by omega) (by omega) b1 b2 ?_
      rw [sgn, ec, ex, e1, e2, wrap16]
      simp
    · rw [c1] at b1
      rw [c2] at b2
      refine f16_m2 n s x c _ w E1 E2 E3 hs hc (by omega) (by omega) b1 b2 ?_
      rw [sgn, ec, ex, e1, e2]
      generalize s * 32768 ||| (x - 112) * 1024 ||| c / 8192 = q at *
      have e : ((q : Int) + 1) % 4294967296 = ((q + 1 : Nat) : Int) := by omega
      rw [e, wrap16]
      simp

-- NOT PRINTED: function 41 (float16_Fromfloat32)

/-! ### impl_HalfFrom: function 23 -/
def impl_HalfFrom.f (a0 : Int) : Option Int := if 0 ≤ a0 then float16_f32bitsToF16bits.f a0 else none
set_option maxHeartbeats 1000000 in
set_option maxRecDepth 100000 in
theorem float16_Fromfloat32.calls (n : Nat) (r : Int) (w : World) (h : float16_f32bitsToF16bits.f (n : Int) = some r) :
    Calls Try.prog 41 #[.float .f32 n] w fun e w' => e = .returned (.int .u16 r) ∧ Drawn0 w w' := by
  have HH := Lib.hid h
  clear h
  have run := run_f32bits
  go_enter Try.func41, Try.ntmps41
  go_wp2_with fail
  refine (float16_f32bitsToF16bits.calls n r w HH).mono ?_
  rintro e w1 ⟨rfl, hb⟩
  go_wp2
  go_ret
  exact ⟨rfl, hb⟩
set_option maxHeartbeats 1000000 in
set_option maxRecDepth 100000 in
theorem impl_HalfFrom.calls (a0 : Int) (r : Int) (w : World) (h : impl_HalfFrom.f a0 = some r) :
    Calls Try.prog 23 #[.int .u32 a0] w fun e w' => e = .returned (.int .u16 r) ∧ Drawn0 w w' := by
  unfold impl_HalfFrom.f at h
  split at h
  case isFalse => cases h
  rename_i h0
  obtain ⟨n, rfl⟩ := Int.eq_ofNat_of_zero_le h0
  have HH := Lib.hid h
  clear h
  have run := run_f32from
  go_enter Try.func23, Try.ntmps23
  go_wp2_with fail
  refine (float16_Fromfloat32.calls n r w HH).mono ?_
  rintro e w1 ⟨rfl, hb1⟩
  go_wp2_with fail
  refine (float16_Float16_Bits.calls r r w1 rfl).mono ?_
  rintro e w2 ⟨rfl, hb2⟩
  go_wp2
  go_ret
  exact ⟨rfl, drawn_trans hb1 hb2⟩

end Go.Proofs.Ytdepcnaiobfpkaa.PAll
