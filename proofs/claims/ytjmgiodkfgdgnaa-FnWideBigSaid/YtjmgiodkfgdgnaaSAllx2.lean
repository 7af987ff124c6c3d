/- Printed by the kit's print.py, called for several laws at once: functions as plain Lean, and the walks' contracts. -/
import Derived.Test.YtjmgiodkfgdgnaaSAllx0
namespace Go.Proofs.Ytjmgiodkfgdgnaa.SAll
open Go.RowKit Go.Proofs.YtjmgiodkfgdgnaaW.PrintWords Go.Proofs.YtjmgiodkfgdgnaaW.PrintLast Go.Proofs.YtjmgiodkfgdgnaaW.PrintMore
attribute [local go_sem] max2_int min2_int max_two min_two max_three min_three max_four min_four   -- for this text's walks alone
set_option linter.unusedVariables false
set_option linter.unusedSimpArgs false

/-! ### impl_WideBig: function 4 -/
def impl_WideBig.f (a0_0 a0_1 : Int) : Option (List Int) := Go.Proofs.Ytjmgiodkfgdgnaa.PAll.wbigF a0_0 a0_1
theorem impl_WideBig.calls (a0_0 a0_1 : Int) (r : List Int) (w : World) (h : impl_WideBig.f a0_0 a0_1 = some r) :
    Calls Try.prog 4 #[.agg #[.int .u64 a0_0, .int .u64 a0_1]] w fun e w' => ∃ v0_ : Value, e = .returned (v0_) ∧ Kd.V (Kd.int .u8) 5 w' w.heap.size (fun k_ => (w.heap.size ≤ k_)) v0_ r ∧ Below w.heap.size w w' :=
  Go.Proofs.Ytjmgiodkfgdgnaa.PAll.wbig_calls a0_0 a0_1 r w h

/-! ### spec_Compare: function 5 -/
def spec_Compare.l0 : Nat → List Int → List Int → Int → Option (Int)
  | 0, _, _, _ => none
  | k + 1, x0, x1, x5 => if x5 ≥ 0 then (if 0 ≤ x5 then (if x5 < (x0.length : Int) then (if x5 < (x1.length : Int) then (if (rd x0 x5) = (rd x1 x5) then (spec_Compare.l0 k x0 x1 (wrap64 (x5 - 1))) else (if (rd x0 x5) < (rd x1 x5) then (some (-1)) else (some 1))) else (none)) else (none)) else (none)) else (some 0)
def spec_Compare.f (k : Nat) (l0 : List Int) (l1 : List Int) : Option (Int) := if (l0.length : Int) = (l1.length : Int) then (spec_Compare.l0 k l0 l1 (wrap64 ((l0.length : Int) - 1))) else (if (l0.length : Int) < (l1.length : Int) then (some (-1)) else (some 1))
theorem spec_Compare.mono_l : ∀ k, (∀ y0 y1 y2, LeO (spec_Compare.l0 k y0 y1 y2) (spec_Compare.l0 (k + 1) y0 y1 y2))
  | 0 => fun _ _ _ r h => by simp [spec_Compare.l0] at h
  | k + 1 => by
    have ih0 := spec_Compare.mono_l k
    · intro y0 y1 y2
      unfold spec_Compare.l0
      repeat' first
      | (with_reducible exact ih0 _ _ _)
      | (with_reducible exact LeO.refl _)
      | (with_reducible exact LeO.none _)
      | (with_reducible refine LeO.ite ?_ ?_)
      | (with_reducible refine LeO.bind ?_ (fun _ => ?_))
      | exact ih0 _ _ _
      | exact LeO.none _
      | refine LeO.ite ?_ ?_
      | refine LeO.bind ?_ (fun _ => ?_)
theorem spec_Compare.mono : ∀ a0 a1 k, LeO (spec_Compare.f k a0 a1) (spec_Compare.f (k + 1) a0 a1) := by
  intro a0 a1 k
  have ih0 := spec_Compare.mono_l k
  unfold spec_Compare.f
  repeat' first
      | (with_reducible exact ih0 _ _ _)
      | (with_reducible exact LeO.refl _)
      | (with_reducible exact LeO.none _)
      | (with_reducible refine LeO.ite ?_ ?_)
      | (with_reducible refine LeO.bind ?_ (fun _ => ?_))
      | exact ih0 _ _ _
      | exact LeO.none _
      | refine LeO.ite ?_ ?_
      | refine LeO.bind ?_ (fun _ => ?_)
set_option maxHeartbeats 8000000 in
set_option maxRecDepth 100000 in
theorem spec_Compare.calls (k : Nat) (A0 : Option Addr) (c0 : Nat) (l0 : List Int) (A1 : Option Addr) (c1 : Nat) (l1 : List Int) (r : Int) (w : World) (hr0 : Kd.C (Kd.int .i64) w A0 l0.length l0) (hc0 : l0.length ≤ c0) (hr1 : Kd.C (Kd.int .i64) w A1 l1.length l1) (hc1 : l1.length ≤ c1) (h : spec_Compare.f k l0 l1 = some r) :
    Calls Try.prog 5 #[.slice A0 l0.length c0, .slice A1 l1.length c1] w fun e w' => e = .returned (.int .i64 r) ∧ Drawn0 w w' := by
  have HR0 := Aside0.mk hr0
  have HC0 := Aside0.mk hc0
  clear hr0 hc0
  have HR1 := Aside0.mk hr1
  have HC1 := Aside0.mk hc1
  clear hr1 hc1
  have H : (if (l0.length : Int) = (l1.length : Int) then (spec_Compare.l0 k l0 l1 (wrap64 ((l0.length : Int) - 1))) else (if (l0.length : Int) < (l1.length : Int) then (some (-1)) else (some 1))) = some r := h
  clear h
  by_cases c3 : (l0.length : Int) = (l1.length : Int)
  · rw [if_pos c3] at H
    have c3b0 : ((l0.length : Int) == (l1.length : Int)) = true := beq_iff_eq.mpr c3
    have c3b1 : ((l0.length : Int) != (l1.length : Int)) = false := bne_eq_false_iff_eq.mpr c3
    have c3b2 : (l0.length == l1.length) = true := by first | simpa using c3 | (simp at c3 ⊢; omega)
    clear c3
    have H' := Aside0.mk H
    clear H
    go_enter Try.func5, Try.ntmps5
    go_wp2
    repeat (go_quiet (fail); try go_wp2)
    go_loopg [5] k (fun kq v5 w' => ∃ (x5_1 : Int), v5 = .int .i64 x5_1 ∧ Aside0 (spec_Compare.l0 kq l0 l1 x5_1 = some r) ∧ Aside0 (kq ≤ k) ∧ Drawn0 w w')
    case atStart => exact ⟨(wrap64 ((l0.length : Int) - 1)), (by first | rfl | (simp; done) | (simp [*]; done)), H', ⟨Nat.le_refl _⟩, by repeat (first | exact Drawn0.refl _ | apply Drawn0.step)⟩
    case round =>
      clear H'
      try clear c1
      try clear p2
      try clear c3
      try clear c3b0
      try clear c3b1
      try clear c3b2
      obtain ⟨x5_1, rfl, HA, HK1, ⟨m1, rfl⟩⟩ := hrel
      cases gk with
      | zero => exact absurd HA.out (by simp [spec_Compare.l0])
      | succ k1 =>
        have H := HA.out
        clear HA
        simp only [spec_Compare.l0] at H
        by_cases c4 : x5_1 ≥ 0
        · rw [if_pos c4] at H
          have c4b0 : decide (0 ≤ x5_1) = true := decide_eq_true c4
          clear c4
          by_cases c5 : 0 ≤ x5_1
          · rw [if_pos c5] at H
            have c5b0 : decide (0 ≤ x5_1) = true := decide_eq_true c5
            clear c5
            by_cases c6 : x5_1 < (l0.length : Int)
            · rw [if_pos c6] at H
              have c6b0 : decide (x5_1 < (l0.length : Int)) = true := decide_eq_true c6
              clear c6
              by_cases c7 : x5_1 < (l1.length : Int)
              · rw [if_pos c7] at H
                have c7b0 : decide (x5_1 < (l1.length : Int)) = true := decide_eq_true c7
                clear c7
                by_cases c8 : (rd l0 x5_1) = (rd l1 x5_1)
                · rw [if_pos c8] at H
                  have c8b0 : ((rd l0 x5_1) == (rd l1 x5_1)) = true := beq_iff_eq.mpr c8
                  have c8b1 : ((rd l0 x5_1) != (rd l1 x5_1)) = false := bne_eq_false_iff_eq.mpr c8
                  clear c8
                  have H' := Aside0.mk H
                  clear H
                  have p129 : 0 ≤ (x5_1 : Int) := of_decide_eq_true (by first | (with_reducible assumption) | assumption)
                  have q129 : x5_1 < (l0.length : Int) := of_decide_eq_true (by first | (with_reducible assumption) | assumption)
                  obtain ⟨ad129, e129, hx129_0⟩ := Kd.at_int HR0.out x5_1 p129 q129
                  cases e129
                  replace p129 := eq_true p129
                  replace q129 := eq_true q129
                  have p130 : 0 ≤ (x5_1 : Int) := of_decide_eq_true (by first | (with_reducible assumption) | assumption)
                  have q130 : x5_1 < (l1.length : Int) := of_decide_eq_true (by first | (with_reducible assumption) | assumption)
                  obtain ⟨ad130, e130, hx130_0⟩ := Kd.at_int HR1.out x5_1 p130 q130
                  cases e130
                  replace p130 := eq_true p130
                  replace q130 := eq_true q130
                  go_wp2
                  repeat (go_quiet (fail); try go_wp2)
                  go_roundg k1
                  case measure => have := HK1.out; omega
                  case rel => exact ⟨(wrap64 (x5_1 - 1)), (by first | rfl | (simp; done) | (simp [*]; done)), H', ⟨by have := HK1.out; omega⟩, by repeat (first | exact Drawn0.refl _ | apply Drawn0.step)⟩
                · rw [if_neg c8] at H
                  have c8b0 : ((rd l0 x5_1) == (rd l1 x5_1)) = false := beq_eq_false_iff_ne.mpr c8
                  have c8b1 : ((rd l0 x5_1) != (rd l1 x5_1)) = true := bne_iff_ne.mpr c8
                  by_cases c9 : (rd l0 x5_1) < (rd l1 x5_1)
                  · rw [if_pos c9] at H
                    have c9b0 : decide ((rd l0 x5_1) < (rd l1 x5_1)) = true := decide_eq_true c9
                    clear c9
                    obtain rfl := Option.some.inj H
                    have p129 : 0 ≤ (x5_1 : Int) := of_decide_eq_true (by first | (with_reducible assumption) | assumption)
                    have q129 : x5_1 < (l0.length : Int) := of_decide_eq_true (by first | (with_reducible assumption) | assumption)
                    obtain ⟨ad129, e129, hx129_0⟩ := Kd.at_int HR0.out x5_1 p129 q129
                    cases e129
                    replace p129 := eq_true p129
                    replace q129 := eq_true q129
                    have p130 : 0 ≤ (x5_1 : Int) := of_decide_eq_true (by first | (with_reducible assumption) | assumption)
                    have q130 : x5_1 < (l1.length : Int) := of_decide_eq_true (by first | (with_reducible assumption) | assumption)
                    obtain ⟨ad130, e130, hx130_0⟩ := Kd.at_int HR1.out x5_1 p130 q130
                    cases e130
                    replace p130 := eq_true p130
                    replace q130 := eq_true q130
                    have p131 : 0 ≤ (x5_1 : Int) := of_decide_eq_true (by first | (with_reducible assumption) | assumption)
                    have q131 : x5_1 < (l0.length : Int) := of_decide_eq_true (by first | (with_reducible assumption) | assumption)
                    obtain ⟨ad131, e131, hx131_0⟩ := Kd.at_int HR0.out x5_1 p131 q131
                    obtain rfl : ad129 = ad131 := (by injection e131)
                    replace p131 := eq_true p131
                    replace q131 := eq_true q131
                    have p132 : 0 ≤ (x5_1 : Int) := of_decide_eq_true (by first | (with_reducible assumption) | assumption)
                    have q132 : x5_1 < (l1.length : Int) := of_decide_eq_true (by first | (with_reducible assumption) | assumption)
                    obtain ⟨ad132, e132, hx132_0⟩ := Kd.at_int HR1.out x5_1 p132 q132
                    obtain rfl : ad130 = ad132 := (by injection e132)
                    replace p132 := eq_true p132
                    replace q132 := eq_true q132
                    go_wp2
                    repeat (go_quiet (fail); try go_wp2)
                    go_ret
                    exact ⟨by first | rfl | (simp; done) | (simp [*]; done), by repeat (first | exact Drawn0.refl _ | apply Drawn0.step)⟩
                  · rw [if_neg c9] at H
                    have c9b0 : decide ((rd l0 x5_1) < (rd l1 x5_1)) = false := decide_eq_false c9
                    clear c9
                    obtain rfl := Option.some.inj H
                    have p129 : 0 ≤ (x5_1 : Int) := of_decide_eq_true (by first | (with_reducible assumption) | assumption)
                    have q129 : x5_1 < (l0.length : Int) := of_decide_eq_true (by first | (with_reducible assumption) | assumption)
                    obtain ⟨ad129, e129, hx129_0⟩ := Kd.at_int HR0.out x5_1 p129 q129
                    cases e129
                    replace p129 := eq_true p129
                    replace q129 := eq_true q129
                    have p130 : 0 ≤ (x5_1 : Int) := of_decide_eq_true (by first | (with_reducible assumption) | assumption)
                    have q130 : x5_1 < (l1.length : Int) := of_decide_eq_true (by first | (with_reducible assumption) | assumption)
                    obtain ⟨ad130, e130, hx130_0⟩ := Kd.at_int HR1.out x5_1 p130 q130
                    cases e130
                    replace p130 := eq_true p130
                    replace q130 := eq_true q130
                    have p131 : 0 ≤ (x5_1 : Int) := of_decide_eq_true (by first | (with_reducible assumption) | assumption)
                    have q131 : x5_1 < (l0.length : Int) := of_decide_eq_true (by first | (with_reducible assumption) | assumption)
                    obtain ⟨ad131, e131, hx131_0⟩ := Kd.at_int HR0.out x5_1 p131 q131
                    obtain rfl : ad129 = ad131 := (by injection e131)
                    replace p131 := eq_true p131
                    replace q131 := eq_true q131
                    have p132 : 0 ≤ (x5_1 : Int) := of_decide_eq_true (by first | (with_reducible assumption) | assumption)
                    have q132 : x5_1 < (l1.length : Int) := of_decide_eq_true (by first | (with_reducible assumption) | assumption)
                    obtain ⟨ad132, e132, hx132_0⟩ := Kd.at_int HR1.out x5_1 p132 q132
                    obtain rfl : ad130 = ad132 := (by injection e132)
                    replace p132 := eq_true p132
                    replace q132 := eq_true q132
                    go_wp2
                    repeat (go_quiet (fail); try go_wp2)
                    go_ret
                    exact ⟨by first | rfl | (simp; done) | (simp [*]; done), by repeat (first | exact Drawn0.refl _ | apply Drawn0.step)⟩
              · rw [if_neg c7] at H
                exact absurd H (by simp)
            · rw [if_neg c6] at H
              exact absurd H (by simp)
          · rw [if_neg c5] at H
            exact absurd H (by simp)
        · rw [if_neg c4] at H
          have c4b0 : decide (0 ≤ x5_1) = false := decide_eq_false c4
          clear c4
          obtain rfl := Option.some.inj H
          go_wp2
          repeat (go_quiet (fail); try go_wp2)
          go_ret
          exact ⟨by first | rfl | (simp; done) | (simp [*]; done), by repeat (first | exact Drawn0.refl _ | apply Drawn0.step)⟩
  · rw [if_neg c3] at H
    have c3b0 : ((l0.length : Int) == (l1.length : Int)) = false := beq_eq_false_iff_ne.mpr c3
    have c3b1 : ((l0.length : Int) != (l1.length : Int)) = true := bne_iff_ne.mpr c3
    have c3b2 : (l0.length == l1.length) = false := by first | simpa using c3 | (simp at c3 ⊢; omega)
    by_cases c10 : (l0.length : Int) < (l1.length : Int)
    · rw [if_pos c10] at H
      have c10b0 : decide ((l0.length : Int) < (l1.length : Int)) = true := decide_eq_true c10
      have c10b1 : decide (l0.length < l1.length) = true := decide_eq_true (Int.ofNat_lt.mp c10)
      clear c10
      obtain rfl := Option.some.inj H
      go_enter Try.func5, Try.ntmps5
      go_wp2
      repeat (go_quiet (fail); try go_wp2)
      go_ret
      exact ⟨by first | rfl | (simp; done) | (simp [*]; done), by repeat (first | exact Drawn0.refl _ | apply Drawn0.step)⟩
    · rw [if_neg c10] at H
      have c10b0 : decide ((l0.length : Int) < (l1.length : Int)) = false := decide_eq_false c10
      have c10b1 : decide (l0.length < l1.length) = false := decide_eq_false (fun h => c10 (Int.ofNat_lt.mpr h))
      clear c10
      obtain rfl := Option.some.inj H
      go_enter Try.func5, Try.ntmps5
      go_wp2
      repeat (go_quiet (fail); try go_wp2)
      go_ret
      exact ⟨by first | rfl | (simp; done) | (simp [*]; done), by repeat (first | exact Drawn0.refl _ | apply Drawn0.step)⟩


/-! ### spec_trim: function 14 -/
def spec_trim.l0 : Nat → List Int → Option (List Int)
  | 0, _ => none
  | k + 1, x0 => if (x0.length : Int) > 0 then (if 0 ≤ (wrap64 ((x0.length : Int) - 1)) then (if (wrap64 ((x0.length : Int) - 1)) < (x0.length : Int) then (if (rd x0 (wrap64 ((x0.length : Int) - 1))) = 0 then (if (wrap64 ((x0.length : Int) - 1)) ≤ (x0.length : Int) then (spec_trim.l0 k (x0.take ((wrap64 ((x0.length : Int) - 1)) : Int).toNat)) else (none)) else (some x0)) else (none)) else (none)) else (some x0)
def spec_trim.f (k : Nat) (l0 : List Int) : Option (List Int) := spec_trim.l0 k l0
theorem spec_trim.mono_l : ∀ k, (∀ y0, LeO (spec_trim.l0 k y0) (spec_trim.l0 (k + 1) y0))
  | 0 => fun _ r h => by simp [spec_trim.l0] at h
  | k + 1 => by
    have ih0 := spec_trim.mono_l k
    · intro y0
      unfold spec_trim.l0
      repeat' first
      | (with_reducible exact ih0 _)
      | (with_reducible exact LeO.refl _)
      | (with_reducible exact LeO.none _)
      | (with_reducible refine LeO.ite ?_ ?_)
      | (with_reducible refine LeO.bind ?_ (fun _ => ?_))
      | exact ih0 _
      | exact LeO.none _
      | refine LeO.ite ?_ ?_
      | refine LeO.bind ?_ (fun _ => ?_)
theorem spec_trim.mono : ∀ a0 k, LeO (spec_trim.f k a0) (spec_trim.f (k + 1) a0) := by
  intro a0 k
  have ih0 := spec_trim.mono_l k
  unfold spec_trim.f
  repeat' first
      | (with_reducible exact ih0 _)
      | (with_reducible exact LeO.refl _)
      | (with_reducible exact LeO.none _)
      | (with_reducible refine LeO.ite ?_ ?_)
      | (with_reducible refine LeO.bind ?_ (fun _ => ?_))
      | exact ih0 _
      | exact LeO.none _
      | refine LeO.ite ?_ ?_
      | refine LeO.bind ?_ (fun _ => ?_)
set_option maxHeartbeats 8000000 in
set_option maxRecDepth 100000 in
theorem spec_trim.calls (k : Nat) (P0_ : Nat → Prop) (A0 : Option Addr) (c0 : Nat) (l0 : List Int) (r : List Int) (w : World) (hs0 : Kd.V (Kd.int .i64) 3 w w.heap.size (fun k_ => P0_ k_) (.slice A0 l0.length c0) l0) (h : spec_trim.f k l0 = some r) :
    Calls Try.prog 14 #[.slice A0 l0.length c0] w fun e w' => ∃ v0_ : Value, e = .returned (v0_) ∧ Kd.V (Kd.int .i64) 3 w' w.heap.size (fun k_ => (P0_ k_ ∨ w.heap.size ≤ k_)) v0_ r ∧ Below w.heap.size w w' := by
  have HO0 := Aside0.mk (show Kd.V (Kd.int .i64) 3 w w.heap.size (fun k_ => (P0_ k_ ∨ w.heap.size ≤ k_)) (.slice A0 l0.length c0) l0 from Kd.V_mono hs0 (fun k_ hk => .inl hk))
  have HB := Aside0.mk (Below.refl w.heap.size w)
  have H : (spec_trim.l0 k l0) = some r := h
  clear h
  have H' := Aside0.mk H
  clear H
  go_enter Try.func14, Try.ntmps14
  go_wp2
  go_loopg [0] k (fun kq v0 w' => ∃ (x0_1 : List Int), Aside0 (spec_trim.l0 kq x0_1 = some r) ∧ Aside0 (kq ≤ k) ∧ Aside0 (Kd.V (Kd.int .i64) 3 w' w.heap.size (fun k_ => (P0_ k_ ∨ w.heap.size ≤ k_)) v0 x0_1) ∧ Aside0 (Below w.heap.size w w'))
  case atStart => exact ⟨(l0), H', ⟨Nat.le_refl _⟩, ⟨by (with_reducible repeat (first | apply Kd.V_alloc | apply Kd.V_drewN | apply Kd.V_drew)); exact HO0.out⟩, ⟨by repeat (first | (with_reducible first | exact HB.out | apply below_alloc | apply pw_below_drewN | apply below_drew1) | exact HB.out)⟩⟩
  case round =>
    clear H'
    try clear c1
    obtain ⟨x0_1, HA, HK1, HO_0, HB⟩ := hrel
    cases gk with
    | zero => exact absurd HA.out (by simp [spec_trim.l0])
    | succ k1 =>
      have H := HA.out
      clear HA
      simp only [spec_trim.l0] at H
      by_cases c2 : (x0_1.length : Int) > 0
      · rw [if_pos c2] at H
        have c2b0 : decide (0 < (x0_1.length : Int)) = true := decide_eq_true c2
        have c2b1 : decide (0 < x0_1.length) = true := decide_eq_true (by omega)
        clear c2
        obtain ⟨ji3, hji3⟩ : ∃ j_ : Int, (wrap64 ((x0_1.length : Int) - 1)) = j_ := ⟨_, rfl⟩
        replace H : (if 0 ≤ (ji3) then (if (ji3) < (x0_1.length : Int) then (if (rd x0_1 (ji3)) = 0 then (if (ji3) ≤ (x0_1.length : Int) then (spec_trim.l0 k1 (x0_1.take ((ji3) : Int).toNat)) else (none)) else (some x0_1)) else (none)) else (none)) = some r := by first | (rw [hji3] at H; exact H) | (simp only [hji3] at H ⊢; exact H)
        have hji3w : (IntKind.i64.wrap ((x0_1.length : Int) - 1)) = ji3 := (i64_w _).trans hji3
        by_cases c4 : 0 ≤ (ji3)
        · rw [if_pos c4] at H
          have c4b0 : decide (0 ≤ (ji3)) = true := decide_eq_true c4
          clear c4
          by_cases c5 : (ji3) < (x0_1.length : Int)
          · rw [if_pos c5] at H
            have c5b0 : decide ((ji3) < (x0_1.length : Int)) = true := decide_eq_true c5
            clear c5
            by_cases c6 : (rd x0_1 (ji3)) = 0
            · rw [if_pos c6] at H
              have c6b0 : ((rd x0_1 (ji3)) == 0) = true := beq_iff_eq.mpr c6
              have c6b1 : ((rd x0_1 (ji3)) != 0) = false := bne_eq_false_iff_eq.mpr c6
              clear c6
              have c7b0 := eq_true (of_decide_eq_true (by first | (with_reducible assumption) | assumption) : 0 ≤ (ji3))
              by_cases c8 : (ji3) ≤ (x0_1.length : Int)
              · rw [if_pos c8] at H
                have c8b0 := eq_true c8
                have c8b1 : decide ((ji3) ≤ (x0_1.length : Int)) = true := decide_eq_true c8
                clear c8
                obtain ⟨y134, hy134⟩ : ∃ y_ : List Int, y_ = (x0_1.take ((ji3) : Int).toNat) := ⟨_, rfl⟩
                replace H : (spec_trim.l0 k1 y134) = some r := by first | (rw [hy134]; with_reducible exact H) | (have H2_ := (Option.bind_some _ _).symm.trans H; rw [hy134]; with_reducible exact H2_) | (have H2_ := (Option.bind_some _ _).symm.trans H; with_reducible exact H2_) | with_reducible exact H | (rw [hy134]; exact H) | exact H
                have Ny134 := Aside0.mk hy134
                clear hy134
                have H' := Aside0.mk H
                clear H
                obtain ⟨Ao9, co9, eo9⟩ := Kd.V_slice HO_0.out
                subst eo9
                have p133 : 0 ≤ ((ji3) : Int) := of_decide_eq_true (by first | (with_reducible assumption) | assumption)
                have q133 : (ji3) < (x0_1.length : Int) := of_decide_eq_true (by first | (with_reducible assumption) | assumption)
                obtain ⟨ad133, e133, hx133_0⟩ := Kd.at_int (Kd.V_reads' HO_0.out).2.2 (ji3) p133 q133
                cases e133
                replace p133 := eq_true p133
                replace q133 := eq_true q133
                have q10 : ((ji3) : Int) ≤ ((x0_1.length : Int) : Int) := of_decide_eq_true (by first | (with_reducible assumption) | assumption)
                obtain ⟨i010, hi010, _, hsz10, _⟩ := info_parts info3
                have hroom10 : x0_1.length ≤ co9 := (Kd.V_reads' HO_0.out).2.1
                have hC10 : Kd.F (Kd.int .i64) _ _ (some ad133) x0_1.length x0_1 := (Kd.V_at (base := w.heap.size) HO_0.out).2.2
                have hcut10 := cut_to (P := Try.prog) 29 3 .i64 Try.underlying29 hi010 (some ad133) x0_1.length co9 (ji3) (of_decide_eq_true (by first | (with_reducible assumption) | assumption)) q10 hroom10
                have hr10 := Kd.F_take (m := ((ji3) : Int).toNat) hC10 (by omega)
                have hy10 : y134.length = ((ji3) : Int).toNat := (by rw [Ny134.out, List.length_take]; omega)
                rw [← Ny134.out] at hr10
                rw [← hy10] at hcut10
                have HO138 := Aside0.mk (show Kd.V (Kd.int .i64) 3 _ w.heap.size _ (.slice (some ad133) y134.length co9) y134 from Kd.V_mk (by omega) hr10)
                have HC138 := Aside0.mk (show y134.length ≤ co9 from by omega)
                clear hr10 hC10 hroom10 hi010 hsz10
                have KY10 := Aside0.mk hy10
                clear hy10
                replace q10 := eq_true q10
                go_wp2
                go_roundg k1
                case measure => have := HK1.out; omega
                case rel => exact ⟨(y134), H', ⟨by have := HK1.out; omega⟩, ⟨by (with_reducible repeat (first | apply Kd.V_alloc | apply Kd.V_drewN | apply Kd.V_drew)); exact HO138.out⟩, ⟨by repeat (first | (with_reducible first | exact HB.out | apply below_alloc | apply pw_below_drewN | apply below_drew1) | exact HB.out)⟩⟩
              · rw [if_neg c8] at H
                exact absurd H (by simp)
            · rw [if_neg c6] at H
              have c6b0 : ((rd x0_1 (ji3)) == 0) = false := beq_eq_false_iff_ne.mpr c6
              have c6b1 : ((rd x0_1 (ji3)) != 0) = true := bne_iff_ne.mpr c6
              obtain rfl := Option.some.inj H
              obtain ⟨Ao11, co11, eo11⟩ := Kd.V_slice HO_0.out
              subst eo11
              have p133 : 0 ≤ ((ji3) : Int) := of_decide_eq_true (by first | (with_reducible assumption) | assumption)
              have q133 : (ji3) < (x0_1.length : Int) := of_decide_eq_true (by first | (with_reducible assumption) | assumption)
              obtain ⟨ad133, e133, hx133_0⟩ := Kd.at_int (Kd.V_reads' HO_0.out).2.2 (ji3) p133 q133
              cases e133
              replace p133 := eq_true p133
              replace q133 := eq_true q133
              go_wp2
              go_ret
              exact ⟨_, by first | rfl | (simp [errW_none, errW_some] <;> rfl) | (simp only [← hji3]; first | rfl | (simp [errW_none, errW_some] <;> rfl)) | (simp [*, errW_none, errW_some] <;> rfl), by (with_reducible repeat (first | apply Kd.V_alloc | apply Kd.V_drewN | apply Kd.V_drew)); exact HO_0.out, by repeat (first | (with_reducible first | exact HB.out | apply below_alloc | apply pw_below_drewN | apply below_drew1) | exact HB.out)⟩
          · rw [if_neg c5] at H
            exact absurd H (by simp)
        · rw [if_neg c4] at H
          exact absurd H (by simp)
      · rw [if_neg c2] at H
        have c2b0 : decide (0 < (x0_1.length : Int)) = false := decide_eq_false c2
        have c2b1 : decide (0 < x0_1.length) = false := decide_eq_false (by omega)
        clear c2
        obtain rfl := Option.some.inj H
        obtain ⟨Ao12, co12, eo12⟩ := Kd.V_slice HO_0.out
        subst eo12
        go_wp2
        go_ret
        exact ⟨_, by first | rfl | (simp [errW_none, errW_some] <;> rfl) | (simp [*, errW_none, errW_some] <;> rfl), by (with_reducible repeat (first | apply Kd.V_alloc | apply Kd.V_drewN | apply Kd.V_drew)); exact HO_0.out, by repeat (first | (with_reducible first | exact HB.out | apply below_alloc | apply pw_below_drewN | apply below_drew1) | exact HB.out)⟩


/-! ### spec_FromBytes: function 6 -/
def spec_FromBytes.l0 : Nat → List Int → List Int → Int → Option (List Int)
  | 0, _, _, _ => none
  | k + 1, x0, x3, x4 => if x4 ≥ 0 then (if 0 ≤ x4 then (if x4 < (x0.length : Int) then (if x4 > 0 then (if 0 ≤ (wrap64 (x4 - 1)) then (if (wrap64 (x4 - 1)) < (x0.length : Int) then (if x3.length < 17592186044416 then (spec_FromBytes.l0 k x0 (x3 ++ [Go.bits .or .i64 (wrap64 (rd x0 x4)) (wrap64 ((wrap64 (rd x0 (wrap64 (x4 - 1)))) * 256))]) (wrap64 (x4 - 2))) else (none)) else (none)) else (none)) else (if x3.length < 17592186044416 then (spec_FromBytes.l0 k x0 (x3 ++ [wrap64 (rd x0 x4)]) (wrap64 (x4 - 2))) else (none))) else (none)) else (none)) else ((spec_trim.f k x3).bind fun t147 => (some t147))
def spec_FromBytes.f (k : Nat) (l0 : List Int) : Option (List Int) := spec_FromBytes.l0 k l0 ([] : List Int) (wrap64 ((l0.length : Int) - 1))
theorem spec_FromBytes.mono_l : ∀ k, (∀ y0 y1 y2, LeO (spec_FromBytes.l0 k y0 y1 y2) (spec_FromBytes.l0 (k + 1) y0 y1 y2))
  | 0 => fun _ _ _ r h => by simp [spec_FromBytes.l0] at h
  | k + 1 => by
    have ih0 := spec_FromBytes.mono_l k
    · intro y0 y1 y2
      unfold spec_FromBytes.l0
      repeat' first
      | (with_reducible exact ih0 _ _ _)
      | (with_reducible exact spec_trim.mono _ _)
      | (with_reducible exact LeO.refl _)
      | (with_reducible exact LeO.none _)
      | (with_reducible refine LeO.ite ?_ ?_)
      | (with_reducible refine LeO.bind ?_ (fun _ => ?_))
      | exact ih0 _ _ _
      | exact spec_trim.mono _ _
      | exact LeO.none _
      | refine LeO.ite ?_ ?_
      | refine LeO.bind ?_ (fun _ => ?_)
theorem spec_FromBytes.mono : ∀ a0 k, LeO (spec_FromBytes.f k a0) (spec_FromBytes.f (k + 1) a0) := by
  intro a0 k
  have ih0 := spec_FromBytes.mono_l k
  unfold spec_FromBytes.f
  repeat' first
      | (with_reducible exact ih0 _ _ _)
      | (with_reducible exact spec_trim.mono _ _)
      | (with_reducible exact LeO.refl _)
      | (with_reducible exact LeO.none _)
      | (with_reducible refine LeO.ite ?_ ?_)
      | (with_reducible refine LeO.bind ?_ (fun _ => ?_))
      | exact ih0 _ _ _
      | exact spec_trim.mono _ _
      | exact LeO.none _
      | refine LeO.ite ?_ ?_
      | refine LeO.bind ?_ (fun _ => ?_)
set_option maxHeartbeats 8000000 in
set_option maxRecDepth 100000 in
theorem spec_FromBytes.calls (k : Nat) (A0 : Option Addr) (c0 : Nat) (l0 : List Int) (r : List Int) (w : World) (hr0 : Kd.C (Kd.int .u8) w A0 l0.length l0) (hc0 : l0.length ≤ c0) (h : spec_FromBytes.f k l0 = some r) :
    Calls Try.prog 6 #[.slice A0 l0.length c0] w fun e w' => ∃ v0_ : Value, e = .returned (v0_) ∧ Kd.V (Kd.int .i64) 3 w' w.heap.size (fun k_ => (w.heap.size ≤ k_)) v0_ r ∧ Below w.heap.size w w' := by
  have HR0 := Aside0.mk hr0
  have HC0 := Aside0.mk hc0
  clear hr0 hc0
  have HB := Aside0.mk (Below.refl w.heap.size w)
  have H : (spec_FromBytes.l0 k l0 ([] : List Int) (wrap64 ((l0.length : Int) - 1))) = some r := h
  clear h
  have H' := Aside0.mk H
  clear H
  go_enter Try.func6, Try.ntmps6
  go_wp2
  go_loopg [3, 4] k (fun kq v3 v4 w' => ∃ (x3_1 : List Int) (x4_1 : Int), v4 = .int .i64 x4_1 ∧ Aside0 (spec_FromBytes.l0 kq l0 x3_1 x4_1 = some r) ∧ Aside0 (kq ≤ k) ∧ Aside0 (Kd.R (Kd.int .i64) 3 w' w.heap.size (fun k_ => (w.heap.size ≤ k_)) v3 x3_1) ∧ Aside0 (Below w.heap.size w w'))
  case atStart => exact ⟨(([] : List Int)), (wrap64 ((l0.length : Int) - 1)), (by first | rfl | (simp; done) | (simp [*]; done)), H', ⟨Nat.le_refl _⟩, ⟨by first | exact Kd.R_nil _ _ _ _ _ | exact Kd.N_nil _ _ _ _ _ | exact Kd.V_nil _ _ _ _ _ | exact Kd.Q_nil _ _ _ _ _ | exact Kd.S_nil _ _ _ _ _⟩, ⟨by repeat (first | (with_reducible first | exact HB.out | apply below_alloc | apply pw_below_drewN | apply below_drew1) | exact HB.out)⟩⟩
  case round =>
    clear H'
    obtain ⟨x3_1, x4_1, rfl, HA, HK1, HO_3, HB⟩ := hrel
    cases gk with
    | zero => exact absurd HA.out (by simp [spec_FromBytes.l0])
    | succ k1 =>
      have H := HA.out
      clear HA
      simp only [spec_FromBytes.l0] at H
      by_cases c2 : x4_1 ≥ 0
      · rw [if_pos c2] at H
        have c2b0 : decide (0 ≤ x4_1) = true := decide_eq_true c2
        clear c2
        by_cases c3 : 0 ≤ x4_1
        · rw [if_pos c3] at H
          have c3b0 : decide (0 ≤ x4_1) = true := decide_eq_true c3
          clear c3
          by_cases c4 : x4_1 < (l0.length : Int)
          · rw [if_pos c4] at H
            have c4b0 : decide (x4_1 < (l0.length : Int)) = true := decide_eq_true c4
            clear c4
            by_cases c5 : x4_1 > 0
            · rw [if_pos c5] at H
              have c5b0 : decide (0 < x4_1) = true := decide_eq_true c5
              clear c5
              obtain ⟨ji6, hji6⟩ : ∃ j_ : Int, (wrap64 (x4_1 - 1)) = j_ := ⟨_, rfl⟩
              replace H : (if 0 ≤ (ji6) then (if (ji6) < (l0.length : Int) then (if x3_1.length < 17592186044416 then (spec_FromBytes.l0 k1 l0 (x3_1 ++ [Go.bits .or .i64 (wrap64 (rd l0 x4_1)) (wrap64 ((wrap64 (rd l0 (ji6))) * 256))]) (wrap64 (x4_1 - 2))) else (none)) else (none)) else (none)) = some r := by first | (rw [hji6] at H; exact H) | (simp only [hji6] at H ⊢; exact H)
              have hji6w : (IntKind.i64.wrap (x4_1 - 1)) = ji6 := (i64_w _).trans hji6
              by_cases c7 : 0 ≤ (ji6)
              · rw [if_pos c7] at H
                have c7b0 : decide (0 ≤ (ji6)) = true := decide_eq_true c7
                clear c7
                by_cases c8 : (ji6) < (l0.length : Int)
                · rw [if_pos c8] at H
                  have c8b0 : decide ((ji6) < (l0.length : Int)) = true := decide_eq_true c8
                  clear c8
                  by_cases c9 : x3_1.length < 17592186044416
                  · rw [if_pos c9] at H
                    have LMc9 := Aside0.mk c9
                    clear c9
                    obtain ⟨y141, hy141⟩ : ∃ y_ : List Int, y_ = (x3_1 ++ [Go.bits .or .i64 (wrap64 (rd l0 x4_1)) (wrap64 ((wrap64 (rd l0 (ji6))) * 256))]) := ⟨_, rfl⟩
                    replace H : (spec_FromBytes.l0 k1 l0 y141 (wrap64 (x4_1 - 2))) = some r := by first | (rw [hy141]; with_reducible exact H) | (have H2_ := (Option.bind_some _ _).symm.trans H; rw [hy141]; with_reducible exact H2_) | (have H2_ := (Option.bind_some _ _).symm.trans H; with_reducible exact H2_) | with_reducible exact H | (rw [hy141]; exact H) | exact H
                    have Ny141 := Aside0.mk hy141
                    clear hy141
                    have H' := Aside0.mk H
                    clear H
                    have p139 : 0 ≤ (x4_1 : Int) := of_decide_eq_true (by first | (with_reducible assumption) | assumption)
                    have q139 : x4_1 < (l0.length : Int) := of_decide_eq_true (by first | (with_reducible assumption) | assumption)
                    obtain ⟨ad139, e139, hx139_0⟩ := Kd.at_int HR0.out x4_1 p139 q139
                    cases e139
                    replace hx139_0 := (HB.out.cell (World.block_lt_of_cell? w _ hx139_0)).trans hx139_0
                    replace p139 := eq_true p139
                    replace q139 := eq_true q139
                    have p140 : 0 ≤ ((ji6) : Int) := of_decide_eq_true (by first | (with_reducible assumption) | assumption)
                    have q140 : (ji6) < (l0.length : Int) := of_decide_eq_true (by first | (with_reducible assumption) | assumption)
                    obtain ⟨ad140, e140, hx140_0⟩ := Kd.at_int HR0.out (ji6) p140 q140
                    obtain rfl : ad139 = ad140 := (by injection e140)
                    replace hx140_0 := (HB.out.cell (World.block_lt_of_cell? w _ hx140_0)).trans hx140_0
                    replace p140 := eq_true p140
                    replace q140 := eq_true q140
                    go_wp2_with (first | ((with_reducible refine gate_builtin (b := .append) (xs := #[.tmp 29, .tmp 31]) rfl ?_); at_builtin; refine Kd.R_append (Kd.int .i64) (w0 := w) w.heap.size rfl (.tmp 29) (.tmp 31) 29 3 (.int .i64 0) 8 rfl Try.underlying29 info3 rfl (by decide) (by omega) u3 x3_1 (Go.bits .or .i64 (wrap64 (rd l0 x4_1)) (wrap64 ((wrap64 (rd l0 (ji6))) * 256))) [.int .i64 (Go.bits .or .i64 (wrap64 (rd l0 x4_1)) (wrap64 ((wrap64 (rd l0 (ji6))) * 256)))] (fun k_ => (w.heap.size ≤ k_)) (fun _ => False) rfl rfl ?aP (fun _ hk => hk.elim) ?aF ?aO ?aB ?aS ?aL ?_; (case aP => exact rfl); (case aB => exact (by repeat (first | (with_reducible first | exact HB.out | apply below_alloc | apply pw_below_drewN | apply below_drew1) | exact HB.out))); (case aF => exact (fun k_ hk => (Nat.le_trans (below_size (by repeat (first | (with_reducible first | exact HB.out | apply below_alloc | apply pw_below_drewN | apply below_drew1) | exact HB.out))) hk))); (case aO => exact (by (with_reducible repeat (first | apply Kd.R_alloc | apply Kd.R_drewN | apply Kd.R_drew)); exact HO_3.out)); (case aS => exact (below_size (by repeat (first | (with_reducible first | exact HB.out | apply below_alloc | apply pw_below_drewN | apply below_drew1) | exact HB.out)))); (case aL => have := LMc9.out; omega); intro v142 w10 ho hb hg hat; rw [← Ny141.out] at ho; have n0_ := Aside0.mk (hb); have n1_ := Aside0.mk (ho); clear HB; clear HO_3; have HB := n0_; have HO143 := n1_; clear n0_ n1_; clear ho hb hg hat))
                    go_roundg k1
                    case measure => have := HK1.out; omega
                    case rel => exact ⟨(y141), (wrap64 (x4_1 - 2)), (by first | rfl | (simp; done) | (simp [*]; done)), H', ⟨by have := HK1.out; omega⟩, ⟨by (with_reducible repeat (first | apply Kd.R_alloc | apply Kd.R_drewN | apply Kd.R_drew)); exact HO143.out⟩, ⟨by repeat (first | (with_reducible first | exact HB.out | apply below_alloc | apply pw_below_drewN | apply below_drew1) | exact HB.out)⟩⟩
                  · rw [if_neg c9] at H
                    exact absurd H (by simp)
                · rw [if_neg c8] at H
                  exact absurd H (by simp)
              · rw [if_neg c7] at H
                exact absurd H (by simp)
            · rw [if_neg c5] at H
              have c5b0 : decide (0 < x4_1) = false := decide_eq_false c5
              clear c5
              by_cases c11 : x3_1.length < 17592186044416
              · rw [if_pos c11] at H
                have LMc11 := Aside0.mk c11
                clear c11
                obtain ⟨y144, hy144⟩ : ∃ y_ : List Int, y_ = (x3_1 ++ [wrap64 (rd l0 x4_1)]) := ⟨_, rfl⟩
                replace H : (spec_FromBytes.l0 k1 l0 y144 (wrap64 (x4_1 - 2))) = some r := by first | (rw [hy144]; with_reducible exact H) | (have H2_ := (Option.bind_some _ _).symm.trans H; rw [hy144]; with_reducible exact H2_) | (have H2_ := (Option.bind_some _ _).symm.trans H; with_reducible exact H2_) | with_reducible exact H | (rw [hy144]; exact H) | exact H
                have Ny144 := Aside0.mk hy144
                clear hy144
                have H' := Aside0.mk H
                clear H
                have p139 : 0 ≤ (x4_1 : Int) := of_decide_eq_true (by first | (with_reducible assumption) | assumption)
                have q139 : x4_1 < (l0.length : Int) := of_decide_eq_true (by first | (with_reducible assumption) | assumption)
                obtain ⟨ad139, e139, hx139_0⟩ := Kd.at_int HR0.out x4_1 p139 q139
                cases e139
                replace hx139_0 := (HB.out.cell (World.block_lt_of_cell? w _ hx139_0)).trans hx139_0
                replace p139 := eq_true p139
                replace q139 := eq_true q139
                go_wp2_with (first | ((with_reducible refine gate_builtin (b := .append) (xs := #[.tmp 29, .tmp 31]) rfl ?_); at_builtin; refine Kd.R_append (Kd.int .i64) (w0 := w) w.heap.size rfl (.tmp 29) (.tmp 31) 29 3 (.int .i64 0) 8 rfl Try.underlying29 info3 rfl (by decide) (by omega) u3 x3_1 (wrap64 (rd l0 x4_1)) [.int .i64 (wrap64 (rd l0 x4_1))] (fun k_ => (w.heap.size ≤ k_)) (fun _ => False) rfl rfl ?aP (fun _ hk => hk.elim) ?aF ?aO ?aB ?aS ?aL ?_; (case aP => exact rfl); (case aB => exact (by repeat (first | (with_reducible first | exact HB.out | apply below_alloc | apply pw_below_drewN | apply below_drew1) | exact HB.out))); (case aF => exact (fun k_ hk => (Nat.le_trans (below_size (by repeat (first | (with_reducible first | exact HB.out | apply below_alloc | apply pw_below_drewN | apply below_drew1) | exact HB.out))) hk))); (case aO => exact (by (with_reducible repeat (first | apply Kd.R_alloc | apply Kd.R_drewN | apply Kd.R_drew)); exact HO_3.out)); (case aS => exact (below_size (by repeat (first | (with_reducible first | exact HB.out | apply below_alloc | apply pw_below_drewN | apply below_drew1) | exact HB.out)))); (case aL => have := LMc11.out; omega); intro v145 w12 ho hb hg hat; rw [← Ny144.out] at ho; have n0_ := Aside0.mk (hb); have n1_ := Aside0.mk (ho); clear HB; clear HO_3; have HB := n0_; have HO146 := n1_; clear n0_ n1_; clear ho hb hg hat))
                go_roundg k1
                case measure => have := HK1.out; omega
                case rel => exact ⟨(y144), (wrap64 (x4_1 - 2)), (by first | rfl | (simp; done) | (simp [*]; done)), H', ⟨by have := HK1.out; omega⟩, ⟨by (with_reducible repeat (first | apply Kd.R_alloc | apply Kd.R_drewN | apply Kd.R_drew)); exact HO146.out⟩, ⟨by repeat (first | (with_reducible first | exact HB.out | apply below_alloc | apply pw_below_drewN | apply below_drew1) | exact HB.out)⟩⟩
              · rw [if_neg c11] at H
                exact absurd H (by simp)
          · rw [if_neg c4] at H
            exact absurd H (by simp)
        · rw [if_neg c3] at H
          exact absurd H (by simp)
      · rw [if_neg c2] at H
        have c2b0 : decide (0 ≤ x4_1) = false := decide_eq_false c2
        clear c2
        replace H := Option.bind_eq_some_iff.mp H
        obtain ⟨t147, A130, H⟩ := H
        replace H : (some t147) = some r := H
        have A13 := Aside0.mk A130
        clear A130
        obtain rfl := Option.some.inj H
        obtain ⟨Ao14, co14, eo14⟩ := Kd.R_slice HO_3.out
        subst eo14
        go_wp2_with (first | ((with_reducible refine gate_callee (f := 14) rfl ?_); refine goesL_ (some 34) rfl rfl Try.func14 (by kernel_rfl) rfl #[.slice Ao14 x3_1.length co14] rfl (by (try simp only [List.map_toArray, List.map_cons, List.map_nil]); first | done | rfl | (simp only [List.length_drop, List.length_take]; rfl)) ?_; (with_reducible refine (spec_trim.calls k1 (fun k_ => some k_ = (.slice Ao14 x3_1.length co14 : Value).ownBlock) _ _ x3_1 t147 _ ?side1 A13.out).mono ?_); (case side1 => exact Kd.R_V (Kd.R_tight rfl (HO_3.out))); rintro e w15 ⟨v148, rfl, ho0, hb⟩; refine ⟨_, rfl, ?_⟩; have n0_ := Aside0.mk (Kd.R_below (by (with_reducible repeat (first | apply Kd.R_alloc | apply Kd.R_drewN | apply Kd.R_drew)); exact HO_3.out) hb); have n1_ := Aside0.mk (Kd.V_lower (Kd.V_mono (ok' := fun k_ => (w.heap.size ≤ k_)) ho0 (fun k_ hk_ => Or.elim hk_ (fun hs_ => ((HO_3.out).1 k_ hs_.symm)) (fun hn_ => (Nat.le_trans (below_size (by repeat (first | (with_reducible first | exact HB.out | apply below_alloc | apply pw_below_drewN | apply below_drew1) | exact HB.out))) hn_)))) (below_size (by repeat (first | (with_reducible first | exact HB.out | apply below_alloc | apply pw_below_drewN | apply below_drew1) | exact HB.out)))); have n2_ := Aside0.mk (below_step (by repeat (first | (with_reducible first | exact HB.out | apply below_alloc | apply pw_below_drewN | apply below_drew1) | exact HB.out)) hb); clear HO_3; clear HB; have HO_3 := n0_; have HO149 := n1_; have HB := n2_; clear n0_ n1_ n2_; (try clear hb); (try clear hb2); (try clear hk); (try clear hi); (try clear ho0)))
        go_ret
        exact ⟨_, by first | rfl | (simp [errW_none, errW_some] <;> rfl) | (simp [*, errW_none, errW_some] <;> rfl), by (with_reducible repeat (first | apply Kd.V_alloc | apply Kd.V_drewN | apply Kd.V_drew)); exact HO149.out, by repeat (first | (with_reducible first | exact HB.out | apply below_alloc | apply pw_below_drewN | apply below_drew1) | exact HB.out)⟩


/-! ### spec_OfBits: function 28 -/
/-- A block of whole numbers reads as a row of them. -/
theorem row_of_block {W : World} {g t : Nat} {k : IntKind} {xs : List Int} (h : W.heap[g]? = some (.cells (xs.map (Value.int k)).toArray t (0, 0))) (hm : xs.length ≤ 9223372036854775807) :
    (Kd.int k).C W (some ⟨g, 0, none⟩) xs.length xs := by
  refine ⟨rfl, hm, fun _ => ⟨_, rfl, fun j p hj => ⟨[.int k p], rfl, rfl, fun i u hu => ?_⟩⟩⟩
  match i, hu with
  | 0, hu =>
    obtain rfl : Value.int k p = u := by simpa using hu
    have e : (Addr.add ⟨g, 0, none⟩ (j * (Kd.int k).sz + 0)) = ⟨g, j, none⟩ := by
      simp [Kd.int, Kd.scalar, Addr.add]
      rintro rfl
      rfl
    rw [e, blk_cell h]
    simp [hj]
theorem row_V {W : World} {g t base : Nat} {k : IntKind} {xs : List Int} (h : W.heap[g]? = some (.cells (xs.map (Value.int k)).toArray t (0, 0))) (hm : xs.length ≤ 9223372036854775807) :
    Kd.V (Kd.int k) t W base (fun q => q = g) (.slice (some ⟨g, 0, none⟩) xs.length xs.length) xs :=
  Kd.V_mk (Nat.le_refl _) (fun W' hW => row_of_block ((hW g rfl (blk_lt h)).trans h) hm)
theorem i64_or_bit (d e : Nat) (he : e < 16) (hd : d < 2 ^ e) : Go.bits .or .i64 (d : Int) (wrap64 (2 ^ e)) = ((d + 2 ^ e : Nat) : Int) := by
  have h2 : (2 : Nat) ^ e ≤ 2 ^ 15 := Nat.pow_le_pow_right (by decide) (by omega)
  have h3 : wrap64 (2 ^ e) = ((2 ^ e : Nat) : Int) := by
    have : ((2 : Int) ^ e) = ((2 ^ e : Nat) : Int) := by simp
    rw [this]
    unfold wrap64
    omega
  rw [h3, (bits_nat .i64 16 (by decide) (fun n h0 h1 => by rw [IntKind.wrap_i64]; omega) d (2 ^ e) (by omega) (by omega)).2, Dig.or_add hd]
theorem cells_step (b : Nat → Bool) (k : Nat) (hk : k < 128) :
    (((Dig.digs 9 (Dig.ofb b k)).map (Value.int .i64)).toArray).setIfInBounds (k / 16) (.int .i64 (Go.bits .or .i64 ((Dig.ofb b k / 65536 ^ (k / 16) % 65536 : Nat) : Int) (wrap64 (2 ^ (k % 16))))) =
      ((Dig.digs 9 (Dig.ofb b k + 2 ^ k)).map (Value.int .i64)).toArray := by
  have hm := Dig.ofb_lt b k
  have hd : Dig.ofb b k / 65536 ^ (k / 16) % 65536 < 2 ^ (k % 16) := by
    refine Nat.lt_of_le_of_lt (Nat.mod_le _ _) ?_
    apply Nat.div_lt_of_lt_mul
    rw [Dig.p16, ← Nat.pow_add, show 16 * (k / 16) + k % 16 = k by omega]
    exact hm
  rw [i64_or_bit _ _ (by omega) hd, List.setIfInBounds_toArray, ← Dig.digs_set 9 _ _ hm (by omega), List.map_set]
theorem digs9_zero : Dig.digs 9 0 = [0, 0, 0, 0, 0, 0, 0, 0, 0] := by decide
set_option maxHeartbeats 2000000 in
set_option maxRecDepth 100000 in
/-- OfBits of 128 bits, by whatever function of one number that tells the bits b and leaves memory alone. -/
theorem spec_OfBits.calls (w : World) (fid : Nat) (caps : Array Value) (b : Nat → Bool)
    (hcf : ∀ (args : Array Value) (w : World), (callFunc fid args).run Try.prog w = .ok (.enter fid args) w)
    (hcl : Hid (∀ (i : Nat) (W : World), i < 128 → Below w.heap.size w W → Calls Try.prog fid (#[.int .i64 i] ++ caps) W (fun e W' => e = .returned (.bool (b i)) ∧ Below W.heap.size W W')))
    (k : Nat) (r : List Int) (hr : spec_trim.f k (Dig.digs 9 (Dig.ofb b 128)) = some r) :
    Calls Try.prog 28 #[.int .i64 128, .func (.func fid) #[] caps] w fun e w' => ∃ v0_ : Value, e = .returned (v0_) ∧ Kd.V (Kd.int .i64) 3 w' w.heap.size (fun k_ => (w.heap.size ≤ k_)) v0_ r ∧ Below w.heap.size w w' := by
  have hmk : ∀ w, (Instr.makeSlice 29 (.int .i64 9) (.int .i64 9)).run Try.prog w = .ok (.slice (some ⟨w.heap.size, 0, none⟩) 9 9) (w.alloc (.cells #[.int .i64 0,.int .i64 0,.int .i64 0,.int .i64 0,.int .i64 0,.int .i64 0,.int .i64 0,.int .i64 0,.int .i64 0] 3)) := fun _ => by kernel_rfl
  have HR := Lib.hid hr
  clear hr
  go_enter Try.func28, Try.ntmps28
  go_wp2_with fail
  go_loopw [12] (fun v wr => ∃ k : Nat, k ≤ 128 ∧ v = .int .i64 k ∧ wr.heap[w.heap.size]? = some (.cells ((Dig.digs 9 (Dig.ofb b k)).map (Value.int .i64)).toArray 3 (0,0)) ∧ Below w.heap.size w wr) (fun i _ => 128 - (intOf i).toNat)
  case atStart => exact ⟨0, by omega, rfl, by rw [Dig.ofb, digs9_zero]; exact (MapKept.heap_alloc w _).1, (Below.refl _ _).alloc (Nat.le_refl _) _⟩
  case round =>
    obtain ⟨k, hk, rfl, hblk, hb⟩ := hrel
    have hlt := blk_lt hblk
    by_cases hlt : k < 128
    · go_wp2_with fail
      refine (hcl.out k _ hlt hb).mono ?_
      rintro e w1 ⟨rfl, hb1⟩
      have hblk1 := (hb1.block _ (blk_lt hblk)).trans hblk
      cases hbk : b k
      · go_wp2
        go_roundw
        case rel => exact ⟨k + 1, by omega, by go_num, by rw [Dig.ofb, hbk]; exact hblk1, hb.trans (hb1.mono (by have := blk_lt hblk; omega))⟩
        case measure => simp [intOf]; omega
      · have hcell : w1.cell? ⟨w.heap.size, k / 16, none⟩ = some (.int .i64 ((Dig.ofb b k / 65536 ^ (k / 16) % 65536 : Nat) : Int)) := by
          rw [blk_cell hblk1]
          simp [Dig.digs_get 9 (Dig.ofb b k) (k / 16) (by omega)]
        have hfr : w1.frozen? ⟨w.heap.size, k / 16, none⟩ = false := blk_frozen hblk1 _
        obtain ⟨dd, hdd⟩ : ∃ dd : Nat, dd = Dig.ofb b k / 65536 ^ (k / 16) % 65536 := ⟨_, rfl⟩
        rw [← hdd] at hcell
        have HDD := Lib.hid hdd
        have HB := Lib.hid hblk1
        clear hdd hblk1 hblk
        go_wp2
        go_region
        go_wp2
        go_roundw
        case rel =>
          refine ⟨k + 1, by omega, by go_num, ?_, (hb.trans (hb1.mono (by have := hb.size; omega))).trans (((Below.refl w.heap.size w1).setCell (p := ⟨w.heap.size, k / 16, none⟩) (Nat.le_refl _) _).drew)⟩
          have h2 := blk_set HB.out (k / 16) (.int .i64 (Go.bits .or .i64 (dd : Int) (wrap64 (2 ^ (k % 16)))))
          rw [HDD.out, cells_step b k hlt] at h2
          rw [HDD.out]
          show _ = some (Obj.cells ((Dig.digs 9 (Dig.ofb b k + if b k = true then 2 ^ k else 0)).map (Value.int .i64)).toArray _ _)
          rw [hbk]
          exact h2
        case measure => simp [intOf]; omega
    · obtain rfl : k = 128 := by omega
      have hV := row_V (base := wr.heap.size) hblk (by rw [Dig.digs_len]; decide)
      rw [Dig.digs_len] at hV
      have hV' : Kd.V (Kd.int .i64) 3 wr wr.heap.size (fun q => q = w.heap.size) (.slice (some ⟨w.heap.size, 0, none⟩) (Dig.digs 9 (Dig.ofb b 128)).length 9) (Dig.digs 9 (Dig.ofb b 128)) := by rw [Dig.digs_len]; exact hV
      have hT := spec_trim.calls _ _ _ 9 _ _ wr hV' HR.out
      rw [Dig.digs_len] at hT
      have HT := Lib.hid hT
      clear hT hV hV' hblk
      go_wp2_with fail
      refine (HT.out).mono ?_
      rintro e w1 ⟨v0, rfl, hv, hb1⟩
      go_wp2
      go_ret
      exact ⟨_, rfl, Kd.V_mono hv (fun q hq => by rcases hq with rfl | hq; exact Nat.le_refl _; have := hb.size; omega), hb.trans (hb1.mono hb.size)⟩

/-! ### spec_Whole: function 15 -/
/-- Noughts at the end are struck. -/
theorem trim_digs (j : Nat) : ∀ (m k : Nat), m < 65536 ^ j → j < 4611686018427387904 → j < k → spec_trim.f k (Dig.digs j m) = some (Dig.dg m) := by
  unfold spec_trim.f
  induction j with
  | zero =>
    intro m k hm _ hk
    obtain ⟨k, rfl⟩ : ∃ q, k = q + 1 := ⟨k - 1, by omega⟩
    obtain rfl : m = 0 := by simpa using hm
    simp [spec_trim.l0, Dig.digs_zero, Dig.dg_zero]
  | succ j ih =>
    intro m k hm hj hk
    obtain ⟨k, rfl⟩ : ∃ q, k = q + 1 := ⟨k - 1, by omega⟩
    have hl : ((Dig.digs (j + 1) m).length : Int) = (j : Int) + 1 := by rw [Dig.digs_len]; omega
    have hw : wrap64 ((j : Int) + 1 - 1) = (j : Int) := by unfold wrap64; omega
    simp only [spec_trim.l0, hl, hw]
    rw [if_pos (by omega), if_pos (by omega), if_pos (by omega)]
    have hrd : rd (Dig.digs (j + 1) m) (j : Int) = ((m / 65536 ^ j % 65536 : Nat) : Int) := by
      unfold rd
      rw [Int.toNat_natCast, Dig.digs_getD, if_pos (by omega)]
    rw [hrd]
    have hq : m / 65536 ^ j < 65536 := Nat.div_lt_of_lt_mul (by rw [← Nat.pow_succ]; exact hm)
    by_cases h0 : m < 65536 ^ j
    · rw [if_pos (by rw [Nat.div_eq_of_lt h0]; rfl), if_pos (by omega), Int.toNat_natCast, Dig.digs_take _ _ _ (by omega)]
      exact ih m k h0 (by omega) (by omega)
    · have hp : 0 < 65536 ^ j := Nat.pow_pos (by decide)
      have h1 : 1 ≤ m / 65536 ^ j := (Nat.le_div_iff_mul_le hp).2 (by omega)
      rw [if_neg (by omega)]
      unfold Dig.dg
      have : Dig.nd m = j + 1 := by
        have a := Dig.nd_le hm
        have b : ¬ Dig.nd m ≤ j := fun hle => h0 (Nat.lt_of_lt_of_le (Dig.lt_nd m) (Nat.pow_le_pow_right (by decide) hle))
        omega
      rw [this]
theorem u64_bit (n i : Nat) (hn : n < 18446744073709551616) : (Go.bits .and .u64 ((n : Int) / 2 ^ i) 1 == 1) = n.testBit i := by
  have h1 : (n : Int) / 2 ^ i = ((n / 2 ^ i : Nat) : Int) := by simp
  have h2 : n / 2 ^ i < 18446744073709551616 := Nat.lt_of_le_of_lt (Nat.div_le_self _ _) hn
  have h3 := u64_and_nat (n / 2 ^ i) 1 h2 (by decide)
  rw [h1, show (1 : Int) = ((1 : Nat) : Int) from rfl, h3, Nat.and_one_is_mod, Nat.testBit_eq_decide_div_mod_eq]
  rw [Bool.eq_iff_iff]
  simp
  omega
set_option maxHeartbeats 400000 in
theorem whole1_lo (lo i : Nat) (p q : Addr) (w : World) (h1 : i < 64) (hlo : lo < 18446744073709551616) (hp : w.cell? p = some (.int .u64 lo)) :
    Calls Try.prog 29 #[.int .i64 i, .pointer (some p), .pointer (some q)] w fun e w' => e = .returned (.bool (lo.testBit i)) ∧ w' = w := by
  have HB := Lib.hid (u64_bit lo i hlo)
  clear hlo
  go_enter Try.func29, Try.ntmps29
  go_wp2
  go_ret
  refine ⟨?_, rfl⟩
  rw [← HB.out]
  rfl
set_option maxHeartbeats 400000 in
theorem whole1_hi (hi i : Nat) (p q : Addr) (w : World) (h1 : 64 ≤ i) (h2 : i < 128) (hhi : hi < 18446744073709551616) (hp : w.cell? q = some (.int .u64 hi)) :
    Calls Try.prog 29 #[.int .i64 i, .pointer (some p), .pointer (some q)] w fun e w' => e = .returned (.bool (hi.testBit (i - 64))) ∧ w' = w := by
  obtain ⟨d, rfl⟩ : ∃ d, i = d + 64 := ⟨i - 64, by omega⟩
  have HB := Lib.hid (u64_bit hi d hhi)
  have he : (((d + 64 : Nat) : Int) - 64) = (d : Int) := by omega
  clear hhi
  go_enter Try.func29, Try.ntmps29
  go_wp2
  go_ret
  refine ⟨?_, rfl⟩
  rw [Nat.add_sub_cancel, ← HB.out]
  try simp
theorem whole_bit (lo hi i : Nat) (hlo : lo < 18446744073709551616) : (lo + hi * 18446744073709551616).testBit i = if i < 64 then lo.testBit i else hi.testBit (i - 64) := by
  have e : lo + hi * 18446744073709551616 = 2 ^ 64 * hi + lo := by omega
  rw [e, Nat.testBit_two_pow_mul_add _ hlo]
def spec_Whole.f (a0 a1 : Int) : Option (List Int) :=
  if 0 ≤ a0 ∧ a0 < 18446744073709551616 ∧ 0 ≤ a1 ∧ a1 < 18446744073709551616 then some (Dig.dg (a0.toNat + a1.toNat * 18446744073709551616)) else none
set_option maxHeartbeats 2000000 in
set_option maxRecDepth 100000 in
theorem spec_Whole.calls (a0 a1 : Int) (r : List Int) (w : World) (h : spec_Whole.f a0 a1 = some r) :
    Calls Try.prog 15 #[.int .u64 a0, .int .u64 a1] w fun e w' => ∃ v0_ : Value, e = .returned (v0_) ∧ Kd.V (Kd.int .i64) 3 w' w.heap.size (fun k_ => (w.heap.size ≤ k_)) v0_ r ∧ Below w.heap.size w w' := by
  unfold spec_Whole.f at h
  split at h
  case isFalse => cases h
  rename_i hb
  obtain ⟨h0, h1, h2, h3⟩ := hb
  obtain ⟨lo, rfl⟩ := Int.eq_ofNat_of_zero_le h0
  obtain ⟨hi, rfl⟩ := Int.eq_ofNat_of_zero_le h2
  rw [Int.toNat_natCast, Int.toNat_natCast] at h
  have hlo : lo < 18446744073709551616 := by omega
  have hhi : hi < 18446744073709551616 := by omega
  clear h0 h1 h2 h3
  obtain rfl := Option.some.inj h
  have hmf : ∀ (fn : Fn) (first cap : Array Value) (w : World), (Instr.makeFunc fn first cap).run Try.prog w = .ok (.func fn first cap) w := fun _ _ _ _ => rfl
  have hm : lo + hi * 18446744073709551616 < 2 ^ 128 := by omega
  have hof : Dig.ofb (lo + hi * 18446744073709551616).testBit 128 = lo + hi * 18446744073709551616 := Dig.ofb_is hm (fun _ _ => rfl)
  have hr : spec_trim.f 10 (Dig.digs 9 (Dig.ofb (lo + hi * 18446744073709551616).testBit 128)) = some (Dig.dg (lo + hi * 18446744073709551616)) := by
    rw [hof]
    exact trim_digs 9 _ 10 (by omega) (by decide) (by decide)
  have hcl : Hid (∀ (i : Nat) (W : World), i < 128 → Below (w.heap.size + 2) ((w.alloc (.cells #[.int .u64 lo] 22)).alloc (.cells #[.int .u64 hi] 22)) W → Calls Try.prog 29 (#[.int .i64 i] ++ #[.pointer (some ⟨w.heap.size, 0, none⟩), .pointer (some ⟨w.heap.size + 1, 0, none⟩)]) W
      (fun e W' => e = .returned (.bool ((lo + hi * 18446744073709551616).testBit i)) ∧ Below W.heap.size W W')) := by
    intro i W hi128 hW
    have c0 : W.cell? ⟨w.heap.size, 0, none⟩ = some (.int .u64 lo) := by
      rw [hW.cell (p := ⟨w.heap.size, 0, none⟩) (by simp), World.cell?_alloc_past _ _ _ (by simp), World.cell?_alloc_at _ _ _ _ rfl]; rfl
    have c1 : W.cell? ⟨w.heap.size + 1, 0, none⟩ = some (.int .u64 hi) := by
      rw [hW.cell (p := ⟨w.heap.size + 1, 0, none⟩) (by simp), World.cell?_alloc_at _ _ _ _ (by simp)]; rfl
    rw [whole_bit lo hi i hlo]
    split
    · exact (whole1_lo lo i _ _ W (by assumption) hlo c0).mono fun e w' ⟨he, hw⟩ => ⟨he, by rw [hw]; exact Below.refl _ _⟩
    · exact (whole1_hi hi i _ _ W (by omega) hi128 hhi c1).mono fun e w' ⟨he, hw⟩ => ⟨he, by rw [hw]; exact Below.refl _ _⟩
  have HC := Lib.hid (spec_OfBits.calls ((w.alloc (.cells #[.int .u64 lo] 22)).alloc (.cells #[.int .u64 hi] 22)) 29 #[.pointer (some ⟨w.heap.size, 0, none⟩), .pointer (some ⟨w.heap.size + 1, 0, none⟩)] _
    (fun _ _ => rfl) (by simpa using hcl) 10 _ hr)
  clear hr hof hm hcl hlo hhi h
  go_enter Try.func15, Try.ntmps15
  go_wp2_with fail
  refine HC.out.mono ?_
  rintro e w1 ⟨v0, rfl, hv, hb⟩
  have HV := Lib.hid hv
  have HB := Lib.hid hb
  clear hv hb HC
  go_wp2
  go_ret
  refine ⟨_, rfl, Kd.V_mono HV.out (fun q hq => by simp at hq; omega), ?_⟩
  exact (((Below.refl w.heap.size w).alloc (Nat.le_refl _) _).alloc (by simp) _).trans (HB.out.mono (by simp; omega))

/-! ### laws_wideWhole: function 7 -/
def laws_wideWhole.f (a0_0 : Int) (a0_1 : Int) : Option (List Int) := (spec_Whole.f a0_0 a0_1).bind fun t151 => (some t151)
set_option maxHeartbeats 8000000 in
set_option maxRecDepth 100000 in
theorem laws_wideWhole.calls (a0_0 : Int) (a0_1 : Int) (r : List Int) (w : World) (h : laws_wideWhole.f a0_0 a0_1 = some r) :
    Calls Try.prog 7 #[.agg #[.int .u64 a0_0, .int .u64 a0_1]] w fun e w' => ∃ v0_ : Value, e = .returned (v0_) ∧ Kd.V (Kd.int .i64) 3 w' w.heap.size (fun k_ => (w.heap.size ≤ k_)) v0_ r ∧ Below w.heap.size w w' := by
  have hu24 := Try.underlying24
  have HB := Aside0.mk (Below.refl w.heap.size w)
  have H : ((spec_Whole.f a0_0 a0_1).bind fun t151 => (some t151)) = some r := h
  clear h
  replace H := Option.bind_eq_some_iff.mp H
  obtain ⟨t151, A20, H⟩ := H
  replace H : (some t151) = some r := H
  have A2 := Aside0.mk A20
  clear A20
  obtain rfl := Option.some.inj H
  go_enter Try.func7, Try.ntmps7
  go_wp2_with (first | ((with_reducible refine gate_dst (N := 1) rfl ?_); refine box_event ?hg (N := 1) ?hd (cs := #[.int .u64 a0_0, .int .u64 a0_1]) (t := 24) ?hr ?_; (case hd => rfl); (case hg => rfl); (case hr => first | (go_simp; done) | (go_simp; rfl)); intro gb150 hg w3 hbox hb; have n0_ := Aside0.mk (below_step (by repeat (first | (with_reducible first | exact HB.out | apply below_alloc | apply pw_below_drewN | apply below_drew1) | exact HB.out)) hb); have n1_ := Aside0.mk (hbox); have n2_ := Aside0.mk ((by rw [hg]; exact (below_size (by repeat (first | (with_reducible first | exact HB.out | apply below_alloc | apply pw_below_drewN | apply below_drew1) | exact HB.out))) : w.heap.size ≤ gb150)); have n3_ := Aside0.mk ((by rw [hg]; exact (below_size (by repeat (first | (with_reducible first | exact HB.out | apply below_alloc | apply pw_below_drewN | apply below_drew1) | exact HB.out))) : w.heap.size ≤ gb150)); clear HB; have HB := n0_; have BK150 := n1_; have GW150 := n2_; have GE150 := n3_; clear n0_ n1_ n2_ n3_; clear hb hbox hg; have hcz4_0 : w3.cell? ⟨gb150, 0, none⟩ = some (.int .u64 a0_0) := (blk_cell BK150.out 0).trans rfl; have hcz4_1 : w3.cell? ⟨gb150, 1, none⟩ = some (.int .u64 a0_1) := (blk_cell BK150.out 1).trans rfl; have hfz4_0 := blk_frozen BK150.out 0; have hfz4_1 := blk_frozen BK150.out 1) | ((with_reducible refine gate_callee (f := 15) rfl ?_); refine goesL_ (some 7) rfl rfl Try.func15 (by kernel_rfl) rfl #[.int .u64 a0_0, .int .u64 a0_1] rfl (by (try simp only [List.map_toArray, List.map_cons, List.map_nil]); first | done | rfl | (simp only [List.length_drop, List.length_take]; rfl)) ?_; (with_reducible refine (spec_Whole.calls a0_0 a0_1 t151 _ A2.out).mono ?_); rintro e w5 ⟨v152, rfl, ho0, hb⟩; refine ⟨_, rfl, ?_⟩; have n0_ := Aside0.mk (Kd.V_lower (Kd.V_mono (ok' := fun k_ => (w.heap.size ≤ k_) ∧ k_ ≠ gb150) ho0 (fun k_ hk_ => ⟨(Nat.le_trans (below_size (by repeat (first | (with_reducible first | exact HB.out | apply below_alloc | apply pw_below_drewN | apply below_drew1 | refine below_set ?_ GE150.out) | exact HB.out))) hk_), (Kd.freshB (g := gb150) (o := .cells #[.int .u64 a0_0, .int .u64 a0_1] 24 (0, 0)) (by (with_reducible repeat (first | refine blk_drewN ?_ _ | refine blk_drew ?_ | refine blk_alloc ?_ _)); exact BK150.out) k_ hk_)⟩)) (below_size (by repeat (first | (with_reducible first | exact HB.out | apply below_alloc | apply pw_below_drewN | apply below_drew1 | refine below_set ?_ GE150.out) | exact HB.out)))); have n1_ := Aside0.mk (blk_below (g := gb150) (o := .cells #[.int .u64 a0_0, .int .u64 a0_1] 24 (0, 0)) (by (with_reducible repeat (first | refine blk_drewN ?_ _ | refine blk_drew ?_ | refine blk_alloc ?_ _)); exact BK150.out) hb); have n2_ := Aside0.mk (below_step (by repeat (first | (with_reducible first | exact HB.out | apply below_alloc | apply pw_below_drewN | apply below_drew1 | refine below_set ?_ GE150.out) | exact HB.out)) hb); clear BK150; clear HB; have HO153 := n0_; have BK150 := n1_; have HB := n2_; clear n0_ n1_ n2_; (try clear hb); (try clear hb2); (try clear hk); (try clear hi); (try clear ho0)))
  go_ret
  exact ⟨_, by first | rfl | (simp [errW_none, errW_some] <;> rfl) | (simp [*, errW_none, errW_some] <;> rfl), by (with_reducible repeat (first | apply Kd.V_alloc | apply Kd.V_drewN | apply Kd.V_drew)); exact Kd.V_mono HO153.out (fun _ hk => hk.1), by repeat (first | (with_reducible first | exact HB.out | apply below_alloc | apply pw_below_drewN | apply below_drew1 | refine below_set ?_ GE150.out) | exact HB.out)⟩


-- NOT PRINTED: function 16 (impl_Wide)

/-! ### impl_WideFromBig: function 8 -/
def impl_WideFromBig.f (l0 : List Int) (a1 : Bool) : Option (Int × Int × Bool) := Go.Proofs.Ytjmgiodkfgdgnaa.PAll.wfbF l0 a1
theorem impl_WideFromBig.calls (A0 : Option Addr) (c0 : Nat) (l0 : List Int) (a1 : Bool) (r1 r2 : Int) (r3 : Bool) (w : World) (hr0 : Kd.C (Kd.int .u8) w A0 l0.length l0) (hc0 : l0.length ≤ c0) (h : impl_WideFromBig.f l0 a1 = some (r1, r2, r3)) :
    Calls Try.prog 8 #[.slice A0 l0.length c0, .bool a1] w fun e w' => e = .returned (.tuple #[.agg #[.int .u64 r1, .int .u64 r2], .bool r3]) ∧ Below w.heap.size w w' :=
  Go.Proofs.Ytjmgiodkfgdgnaa.PAll.wfbig_calls A0 c0 l0 a1 r1 r2 r3 w hr0 hc0 h

end Go.Proofs.Ytjmgiodkfgdgnaa.SAll
