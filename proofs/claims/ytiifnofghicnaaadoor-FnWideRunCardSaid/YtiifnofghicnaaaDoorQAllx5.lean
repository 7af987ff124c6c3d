/- Printed by the kit's print.py, called for several laws at once: functions as plain Lean, and the walks' contracts. -/
import Derived.Test.YtiifnofghicnaaaDoorQAllx0
namespace Go.Proofs.YtiifnofghicnaaaDoor.PAll
open Go.RowKit Go.Proofs.YtiifnofghicnaaaDoorW.PrintWords Go.Proofs.YtiifnofghicnaaaDoorW.PrintLast Go.Proofs.YtiifnofghicnaaaDoorW.PrintMore
attribute [local go_sem] max2_int min2_int max_two min_two max_three min_three max_four min_four   -- for this text's walks alone
set_option linter.unusedVariables false
set_option linter.unusedSimpArgs false
/-! ### spec_trim: function 44 -/
def spec_trim.l0 : Nat → List Int → Option (List Int)
  | 0, _ => none
  | k + 1, x0 => if (x0.length : Int) > 0 then (if 0 ≤ (wrap64 ((x0.length : Int) - 1)) then (if (wrap64 ((x0.length : Int) - 1)) < (x0.length : Int) then (if (rd x0 (wrap64 ((x0.length : Int) - 1))) = 0 then (if (wrap64 ((x0.length : Int) - 1)) ≤ (x0.length : Int) then (spec_trim.l0 k (x0.take ((wrap64 ((x0.length : Int) - 1)) : Int).toNat)) else (none)) else (some x0)) else (none)) else (none)) else (some x0)
def spec_trim.f (k : Nat) (l0 : List Int) : Option (List Int) := spec_trim.l0 k l0
theorem spec_trim.mono_l : ∀ k, (∀ y0, LeO (spec_trim.l0 k y0) (spec_trim.l0 (k + 1) y0))
  | 0 => fun _ r h => by simp [spec_trim.l0] at h
  | k + 1 => by
    have ih0 := spec_trim.mono_l k
    · intro y0
      unfold spec_trim.l0
      repeat' first
      | (with_reducible exact ih0 _)
      | (with_reducible exact LeO.refl _)
      | (with_reducible exact LeO.none _)
      | (with_reducible refine LeO.ite ?_ ?_)
      | (with_reducible refine LeO.bind ?_ (fun _ => ?_))
      | exact ih0 _
      | exact LeO.none _
      | refine LeO.ite ?_ ?_
      | refine LeO.bind ?_ (fun _ => ?_)
theorem spec_trim.mono : ∀ a0 k, LeO (spec_trim.f k a0) (spec_trim.f (k + 1) a0) := by
  intro a0 k
  have ih0 := spec_trim.mono_l k
  unfold spec_trim.f
  repeat' first
      | (with_reducible exact ih0 _)
      | (with_reducible exact LeO.refl _)
      | (with_reducible exact LeO.none _)
      | (with_reducible refine LeO.ite ?_ ?_)
      | (with_reducible refine LeO.bind ?_ (fun _ => ?_))
      | exact ih0 _
      | exact LeO.none _
      | refine LeO.ite ?_ ?_
      | refine LeO.bind ?_ (fun _ => ?_)
set_option maxHeartbeats 8000000 in
set_option maxRecDepth 100000 in
theorem spec_trim.calls (k : Nat) (P0_ : Nat → Prop) (A0 : Option Addr) (c0 : Nat) (l0 : List Int) (r : List Int) (w : World) (hs0 : Kd.V (Kd.int .i64) 3 w w.heap.size (fun k_ => P0_ k_) (.slice A0 l0.length c0) l0) (h : spec_trim.f k l0 = some r) :
    Calls Tryd.prog 44 #[.slice A0 l0.length c0] w fun e w' => ∃ v0_ : Value, e = .returned (v0_) ∧ Kd.V (Kd.int .i64) 3 w' w.heap.size (fun k_ => (P0_ k_ ∨ w.heap.size ≤ k_)) v0_ r ∧ Below w.heap.size w w' := by
  have HO0 := Aside0.mk (show Kd.V (Kd.int .i64) 3 w w.heap.size (fun k_ => (P0_ k_ ∨ w.heap.size ≤ k_)) (.slice A0 l0.length c0) l0 from Kd.V_mono hs0 (fun k_ hk => .inl hk))
  have HB := Aside0.mk (Below.refl w.heap.size w)
  have H : (spec_trim.l0 k l0) = some r := h
  clear h
  have H' := Aside0.mk H
  clear H
  go_enter Tryd.func44, Tryd.ntmps44
  go_wp2
  go_loopg [0] k (fun kq v0 w' => ∃ (x0_1 : List Int), Aside0 (spec_trim.l0 kq x0_1 = some r) ∧ Aside0 (kq ≤ k) ∧ Aside0 (Kd.V (Kd.int .i64) 3 w' w.heap.size (fun k_ => (P0_ k_ ∨ w.heap.size ≤ k_)) v0 x0_1) ∧ Aside0 (Below w.heap.size w w'))
  case atStart => exact ⟨(l0), H', ⟨Nat.le_refl _⟩, ⟨by (with_reducible repeat (first | apply Kd.V_alloc | apply Kd.V_drewN | apply Kd.V_drew)); exact HO0.out⟩, ⟨by repeat (first | (with_reducible first | exact HB.out | apply below_alloc | apply pw_below_drewN | apply below_drew1) | exact HB.out)⟩⟩
  case round =>
    clear H'
    obtain ⟨x0_1, HA, HK1, HO_0, HB⟩ := hrel
    cases gk with
    | zero => exact absurd HA.out (by simp [spec_trim.l0])
    | succ k1 =>
      have H := HA.out
      clear HA
      simp only [spec_trim.l0] at H
      by_cases c2 : (x0_1.length : Int) > 0
      · rw [if_pos c2] at H
        have c2b0 : decide (0 < (x0_1.length : Int)) = true := decide_eq_true c2
        have c2b1 : decide (0 < x0_1.length) = true := decide_eq_true (by omega)
        clear c2
        obtain ⟨ji3, hji3⟩ : ∃ j_ : Int, (wrap64 ((x0_1.length : Int) - 1)) = j_ := ⟨_, rfl⟩
        replace H : (if 0 ≤ (ji3) then (if (ji3) < (x0_1.length : Int) then (if (rd x0_1 (ji3)) = 0 then (if (ji3) ≤ (x0_1.length : Int) then (spec_trim.l0 k1 (x0_1.take ((ji3) : Int).toNat)) else (none)) else (some x0_1)) else (none)) else (none)) = some r := by first | (rw [hji3] at H; exact H) | (simp only [hji3] at H ⊢; exact H)
        have hji3w : (IntKind.i64.wrap ((x0_1.length : Int) - 1)) = ji3 := (i64_w _).trans hji3
        by_cases c4 : 0 ≤ (ji3)
        · rw [if_pos c4] at H
          have c4b0 : decide (0 ≤ (ji3)) = true := decide_eq_true c4
          clear c4
          by_cases c5 : (ji3) < (x0_1.length : Int)
          · rw [if_pos c5] at H
            have c5b0 : decide ((ji3) < (x0_1.length : Int)) = true := decide_eq_true c5
            clear c5
            by_cases c6 : (rd x0_1 (ji3)) = 0
            · rw [if_pos c6] at H
              have c6b0 : ((rd x0_1 (ji3)) == 0) = true := beq_iff_eq.mpr c6
              have c6b1 : ((rd x0_1 (ji3)) != 0) = false := bne_eq_false_iff_eq.mpr c6
              clear c6
              have c7b0 := eq_true (of_decide_eq_true (by first | (with_reducible assumption) | assumption) : 0 ≤ (ji3))
              by_cases c8 : (ji3) ≤ (x0_1.length : Int)
              · rw [if_pos c8] at H
                have c8b0 := eq_true c8
                have c8b1 : decide ((ji3) ≤ (x0_1.length : Int)) = true := decide_eq_true c8
                clear c8
                obtain ⟨y176, hy176⟩ : ∃ y_ : List Int, y_ = (x0_1.take ((ji3) : Int).toNat) := ⟨_, rfl⟩
                replace H : (spec_trim.l0 k1 y176) = some r := by first | (rw [hy176]; with_reducible exact H) | (have H2_ := (Option.bind_some _ _).symm.trans H; rw [hy176]; with_reducible exact H2_) | (have H2_ := (Option.bind_some _ _).symm.trans H; with_reducible exact H2_) | with_reducible exact H | (rw [hy176]; exact H) | exact H
                have Ny176 := Aside0.mk hy176
                clear hy176
                have H' := Aside0.mk H
                clear H
                obtain ⟨Ao9, co9, eo9⟩ := Kd.V_slice HO_0.out
                subst eo9
                have p175 : 0 ≤ ((ji3) : Int) := of_decide_eq_true (by first | (with_reducible assumption) | assumption)
                have q175 : (ji3) < (x0_1.length : Int) := of_decide_eq_true (by first | (with_reducible assumption) | assumption)
                obtain ⟨ad175, e175, hx175_0⟩ := Kd.at_int (Kd.V_reads' HO_0.out).2.2 (ji3) p175 q175
                cases e175
                replace p175 := eq_true p175
                replace q175 := eq_true q175
                have q10 : ((ji3) : Int) ≤ ((x0_1.length : Int) : Int) := of_decide_eq_true (by first | (with_reducible assumption) | assumption)
                obtain ⟨i010, hi010, _, hsz10, _⟩ := info_parts info3
                have hroom10 : x0_1.length ≤ co9 := (Kd.V_reads' HO_0.out).2.1
                have hC10 : Kd.F (Kd.int .i64) _ _ (some ad175) x0_1.length x0_1 := (Kd.V_at (base := w.heap.size) HO_0.out).2.2
                have hcut10 := cut_to (P := Tryd.prog) 30 3 .i64 Tryd.underlying30 hi010 (some ad175) x0_1.length co9 (ji3) (of_decide_eq_true (by first | (with_reducible assumption) | assumption)) q10 hroom10
                have hr10 := Kd.F_take (m := ((ji3) : Int).toNat) hC10 (by omega)
                have hy10 : y176.length = ((ji3) : Int).toNat := (by rw [Ny176.out, List.length_take]; omega)
                rw [← Ny176.out] at hr10
                rw [← hy10] at hcut10
                have HO180 := Aside0.mk (show Kd.V (Kd.int .i64) 3 _ w.heap.size _ (.slice (some ad175) y176.length co9) y176 from Kd.V_mk (by omega) hr10)
                have HC180 := Aside0.mk (show y176.length ≤ co9 from by omega)
                clear hr10 hC10 hroom10 hi010 hsz10
                have KY10 := Aside0.mk hy10
                clear hy10
                replace q10 := eq_true q10
                go_wp2
                go_roundg k1
                case measure => have := HK1.out; omega
                case rel => exact ⟨(y176), H', ⟨by have := HK1.out; omega⟩, ⟨by (with_reducible repeat (first | apply Kd.V_alloc | apply Kd.V_drewN | apply Kd.V_drew)); exact HO180.out⟩, ⟨by repeat (first | (with_reducible first | exact HB.out | apply below_alloc | apply pw_below_drewN | apply below_drew1) | exact HB.out)⟩⟩
              · rw [if_neg c8] at H
                exact absurd H (by simp)
            · rw [if_neg c6] at H
              have c6b0 : ((rd x0_1 (ji3)) == 0) = false := beq_eq_false_iff_ne.mpr c6
              have c6b1 : ((rd x0_1 (ji3)) != 0) = true := bne_iff_ne.mpr c6
              obtain rfl := Option.some.inj H
              obtain ⟨Ao11, co11, eo11⟩ := Kd.V_slice HO_0.out
              subst eo11
              have p175 : 0 ≤ ((ji3) : Int) := of_decide_eq_true (by first | (with_reducible assumption) | assumption)
              have q175 : (ji3) < (x0_1.length : Int) := of_decide_eq_true (by first | (with_reducible assumption) | assumption)
              obtain ⟨ad175, e175, hx175_0⟩ := Kd.at_int (Kd.V_reads' HO_0.out).2.2 (ji3) p175 q175
              cases e175
              replace p175 := eq_true p175
              replace q175 := eq_true q175
              go_wp2
              go_ret
              exact ⟨_, by first | rfl | (simp [errW_none, errW_some] <;> rfl) | (simp only [← hji3]; first | rfl | (simp [errW_none, errW_some] <;> rfl)) | (simp [*, errW_none, errW_some] <;> rfl), by (with_reducible repeat (first | apply Kd.V_alloc | apply Kd.V_drewN | apply Kd.V_drew)); exact HO_0.out, by repeat (first | (with_reducible first | exact HB.out | apply below_alloc | apply pw_below_drewN | apply below_drew1) | exact HB.out)⟩
          · rw [if_neg c5] at H
            exact absurd H (by simp)
        · rw [if_neg c4] at H
          exact absurd H (by simp)
      · rw [if_neg c2] at H
        have c2b0 : decide (0 < (x0_1.length : Int)) = false := decide_eq_false c2
        have c2b1 : decide (0 < x0_1.length) = false := decide_eq_false (by omega)
        clear c2
        obtain rfl := Option.some.inj H
        obtain ⟨Ao12, co12, eo12⟩ := Kd.V_slice HO_0.out
        subst eo12
        go_wp2
        go_ret
        exact ⟨_, by first | rfl | (simp [errW_none, errW_some] <;> rfl) | (simp [*, errW_none, errW_some] <;> rfl), by (with_reducible repeat (first | apply Kd.V_alloc | apply Kd.V_drewN | apply Kd.V_drew)); exact HO_0.out, by repeat (first | (with_reducible first | exact HB.out | apply below_alloc | apply pw_below_drewN | apply below_drew1) | exact HB.out)⟩
/-! ### spec_Plus: function 61 -/
mutual
def spec_Plus.l0 : Nat → List Int → List Int → List Int → Int → Int → Option (List Int)
  | 0, _, _, _, _, _ => none
  | k + 1, x0, x1, x5, x6, x7 => if x7 < (x0.length : Int) then (spec_Plus.j1 k x0 x1 x5 x6 x7 true) else (if x7 < (x1.length : Int) then (spec_Plus.j1 k x0 x1 x5 x6 x7 true) else (spec_Plus.j1 k x0 x1 x5 x6 x7 (decide (x6 > 0))))
def spec_Plus.j1 : Nat → List Int → List Int → List Int → Int → Int → Bool → Option (List Int)
  | 0, _, _, _, _, _, _ => none
  | k + 1, x0, x1, x5, x6, x7, x21 => if x21 = true then (if x7 < (x0.length : Int) then (if 0 ≤ x7 then (if x7 < (x1.length : Int) then (if x5.length < 17592186044416 then (spec_Plus.l0 k x0 x1 (x5 ++ [Go.bits .and .i64 (wrap64 ((wrap64 (x6 + (rd x0 x7))) + (rd x1 x7))) 65535]) ((wrap64 ((wrap64 (x6 + (rd x0 x7))) + (rd x1 x7))) / 65536) (wrap64 (x7 + 1))) else (none)) else (if x5.length < 17592186044416 then (spec_Plus.l0 k x0 x1 (x5 ++ [Go.bits .and .i64 (wrap64 (x6 + (rd x0 x7))) 65535]) ((wrap64 (x6 + (rd x0 x7))) / 65536) (wrap64 (x7 + 1))) else (none))) else (none)) else (if x7 < (x1.length : Int) then (if 0 ≤ x7 then (if x5.length < 17592186044416 then (spec_Plus.l0 k x0 x1 (x5 ++ [Go.bits .and .i64 (wrap64 (x6 + (rd x1 x7))) 65535]) ((wrap64 (x6 + (rd x1 x7))) / 65536) (wrap64 (x7 + 1))) else (none)) else (none)) else (if x5.length < 17592186044416 then (spec_Plus.l0 k x0 x1 (x5 ++ [Go.bits .and .i64 x6 65535]) (x6 / 65536) (wrap64 (x7 + 1))) else (none)))) else ((spec_trim.f k x5).bind fun t181 => (some t181))
end
def spec_Plus.f (k : Nat) (l0 : List Int) (l1 : List Int) : Option (List Int) := spec_Plus.l0 k l0 l1 ([] : List Int) 0 0
theorem spec_Plus.mono_l : ∀ k, (∀ y0 y1 y2 y3 y4, LeO (spec_Plus.l0 k y0 y1 y2 y3 y4) (spec_Plus.l0 (k + 1) y0 y1 y2 y3 y4)) ∧ (∀ y0 y1 y2 y3 y4 y5, LeO (spec_Plus.j1 k y0 y1 y2 y3 y4 y5) (spec_Plus.j1 (k + 1) y0 y1 y2 y3 y4 y5))
  | 0 => ⟨fun _ _ _ _ _ r h => by simp [spec_Plus.l0] at h, fun _ _ _ _ _ _ r h => by simp [spec_Plus.j1] at h⟩
  | k + 1 => by
    obtain ⟨ih0, ih1⟩ := spec_Plus.mono_l k
    refine ⟨?_, ?_⟩
    · intro y0 y1 y2 y3 y4
      unfold spec_Plus.l0
      repeat' first
      | (with_reducible exact ih0 _ _ _ _ _)
      | (with_reducible exact ih1 _ _ _ _ _ _)
      | (with_reducible exact spec_trim.mono _ _)
      | (with_reducible exact LeO.refl _)
      | (with_reducible exact LeO.none _)
      | (with_reducible refine LeO.ite ?_ ?_)
      | (with_reducible refine LeO.bind ?_ (fun _ => ?_))
      | exact ih0 _ _ _ _ _
      | exact ih1 _ _ _ _ _ _
      | exact spec_trim.mono _ _
      | exact LeO.none _
      | refine LeO.ite ?_ ?_
      | refine LeO.bind ?_ (fun _ => ?_)
    · intro y0 y1 y2 y3 y4 y5
      unfold spec_Plus.j1
      repeat' first
      | (with_reducible exact ih0 _ _ _ _ _)
      | (with_reducible exact ih1 _ _ _ _ _ _)
      | (with_reducible exact spec_trim.mono _ _)
      | (with_reducible exact LeO.refl _)
      | (with_reducible exact LeO.none _)
      | (with_reducible refine LeO.ite ?_ ?_)
      | (with_reducible refine LeO.bind ?_ (fun _ => ?_))
      | exact ih0 _ _ _ _ _
      | exact ih1 _ _ _ _ _ _
      | exact spec_trim.mono _ _
      | exact LeO.none _
      | refine LeO.ite ?_ ?_
      | refine LeO.bind ?_ (fun _ => ?_)
theorem spec_Plus.mono : ∀ a0 a1 k, LeO (spec_Plus.f k a0 a1) (spec_Plus.f (k + 1) a0 a1) := by
  intro a0 a1 k
  obtain ⟨ih0, ih1⟩ := spec_Plus.mono_l k
  unfold spec_Plus.f
  repeat' first
      | (with_reducible exact ih0 _ _ _ _ _)
      | (with_reducible exact ih1 _ _ _ _ _ _)
      | (with_reducible exact spec_trim.mono _ _)
      | (with_reducible exact LeO.refl _)
      | (with_reducible exact LeO.none _)
      | (with_reducible refine LeO.ite ?_ ?_)
      | (with_reducible refine LeO.bind ?_ (fun _ => ?_))
      | exact ih0 _ _ _ _ _
      | exact ih1 _ _ _ _ _ _
      | exact spec_trim.mono _ _
      | exact LeO.none _
      | refine LeO.ite ?_ ?_
      | refine LeO.bind ?_ (fun _ => ?_)
set_option maxHeartbeats 8000000 in
set_option maxRecDepth 100000 in
theorem spec_Plus.calls (k : Nat) (A0 : Option Addr) (c0 : Nat) (l0 : List Int) (A1 : Option Addr) (c1 : Nat) (l1 : List Int) (r : List Int) (w : World) (hr0 : Kd.C (Kd.int .i64) w A0 l0.length l0) (hc0 : l0.length ≤ c0) (hr1 : Kd.C (Kd.int .i64) w A1 l1.length l1) (hc1 : l1.length ≤ c1) (h : spec_Plus.f k l0 l1 = some r) :
    Calls Tryd.prog 61 #[.slice A0 l0.length c0, .slice A1 l1.length c1] w fun e w' => ∃ v0_ : Value, e = .returned (v0_) ∧ Kd.V (Kd.int .i64) 3 w' w.heap.size (fun k_ => (w.heap.size ≤ k_)) v0_ r ∧ Below w.heap.size w w' := by
  have HR0 := Aside0.mk hr0
  have HC0 := Aside0.mk hc0
  clear hr0 hc0
  have HR1 := Aside0.mk hr1
  have HC1 := Aside0.mk hc1
  clear hr1 hc1
  have HB := Aside0.mk (Below.refl w.heap.size w)
  have H : (spec_Plus.l0 k l0 l1 ([] : List Int) 0 0) = some r := h
  clear h
  have H' := Aside0.mk H
  clear H
  go_enter Tryd.func61, Tryd.ntmps61
  go_wp2
  go_loopg [5, 6, 7] k (fun kq v5 v6 v7 w' => ∃ (x5_1 : List Int) (x6_1 : Int) (x7_1 : Int), v6 = .int .i64 x6_1 ∧ v7 = .int .i64 x7_1 ∧ Aside0 (spec_Plus.l0 kq l0 l1 x5_1 x6_1 x7_1 = some r) ∧ Aside0 (kq ≤ k) ∧ Aside0 (Kd.R (Kd.int .i64) 3 w' w.heap.size (fun k_ => (w.heap.size ≤ k_)) v5 x5_1) ∧ Aside0 (Below w.heap.size w w'))
  case atStart => exact ⟨(([] : List Int)), (0), (0), (by first | rfl | (simp; done) | (simp [*]; done)), (by first | rfl | (simp; done) | (simp [*]; done)), H', ⟨Nat.le_refl _⟩, ⟨by first | exact Kd.R_nil _ _ _ _ _ | exact Kd.N_nil _ _ _ _ _ | exact Kd.V_nil _ _ _ _ _ | exact Kd.Q_nil _ _ _ _ _ | exact Kd.S_nil _ _ _ _ _⟩, ⟨by repeat (first | (with_reducible first | exact HB.out | apply below_alloc | apply pw_below_drewN | apply below_drew1) | exact HB.out)⟩⟩
  case round =>
    clear H'
    try clear c1
    try clear p2
    obtain ⟨x5_1, x6_1, x7_1, rfl, rfl, HA, HK1, HO_5, HB⟩ := hrel
    cases gk with
    | zero => exact absurd HA.out (by simp [spec_Plus.l0])
    | succ k1 =>
      have H := HA.out
      clear HA
      simp only [spec_Plus.l0] at H
      have HC3 := Aside0.mk H
      clear H
      go_upto_region 4 with (fail)
      go_cut [21] (fun v21 wc => ∃ (kq : Nat) (x21_2 : Bool), v21 = .bool x21_2 ∧ Aside0 (spec_Plus.j1 kq l0 l1 x5_1 x6_1 x7_1 x21_2 = some r) ∧ Aside0 (kq ≤ k1) ∧ Aside0 (Kd.R (Kd.int .i64) 3 wc w.heap.size (fun k_ => (w.heap.size ≤ k_)) u5 x5_1) ∧ Aside0 (Below w.heap.size w wc))
      case first =>
        have H := HC3.out
        clear HC3
        by_cases c4 : x7_1 < (l0.length : Int)
        · rw [if_pos c4] at H
          have c4b0 : decide (x7_1 < (l0.length : Int)) = true := decide_eq_true c4
          clear c4
          (first | rw [c4b0] | (simp only [i64_w, i32_w]; rw [c4b0]) | skip)
          have H' := Aside0.mk H
          clear H
          go_wp2
          go_meet
          case rel => exact ⟨_, (true), (by first | rfl | (simp; done) | (simp [*]; done)), H', ⟨by have := HK1.out; first | omega | exact Nat.le_refl _⟩, ⟨by (with_reducible repeat (first | apply Kd.R_alloc | apply Kd.R_drewN | apply Kd.R_drew)); exact HO_5.out⟩, ⟨by repeat (first | (with_reducible first | exact HB.out | apply below_alloc | apply pw_below_drewN | apply below_drew1) | exact HB.out)⟩⟩
        · rw [if_neg c4] at H
          have c4b0 : decide (x7_1 < (l0.length : Int)) = false := decide_eq_false c4
          clear c4
          (first | rw [c4b0] | (simp only [i64_w, i32_w]; rw [c4b0]) | skip)
          by_cases c5 : x7_1 < (l1.length : Int)
          · rw [if_pos c5] at H
            have c5b0 : decide (x7_1 < (l1.length : Int)) = true := decide_eq_true c5
            clear c5
            have H' := Aside0.mk H
            clear H
            go_wp2
            go_meet
            case rel => exact ⟨_, (true), (by first | rfl | (simp; done) | (simp [*]; done)), H', ⟨by have := HK1.out; first | omega | exact Nat.le_refl _⟩, ⟨by (with_reducible repeat (first | apply Kd.R_alloc | apply Kd.R_drewN | apply Kd.R_drew)); exact HO_5.out⟩, ⟨by repeat (first | (with_reducible first | exact HB.out | apply below_alloc | apply pw_below_drewN | apply below_drew1) | exact HB.out)⟩⟩
          · rw [if_neg c5] at H
            have c5b0 : decide (x7_1 < (l1.length : Int)) = false := decide_eq_false c5
            clear c5
            have H' := Aside0.mk H
            clear H
            go_wp2
            go_meet
            case rel => exact ⟨_, (decide (x6_1 > 0)), (by first | rfl | (simp; done) | (simp [*]; done)), H', ⟨by have := HK1.out; first | omega | exact Nat.le_refl _⟩, ⟨by (with_reducible repeat (first | apply Kd.R_alloc | apply Kd.R_drewN | apply Kd.R_drew)); exact HO_5.out⟩, ⟨by repeat (first | (with_reducible first | exact HB.out | apply below_alloc | apply pw_below_drewN | apply below_drew1) | exact HB.out)⟩⟩
      case rest =>
        clear HC3
        try clear c1
        try clear p2
        try clear c4
        try clear c4b0
        try clear c5
        try clear c5b0
        try clear p2
        obtain ⟨kq, x21_2, rfl, HA, HJ2, HO_5, HB⟩ := hcut
        cases kq with
        | zero => exact absurd HA.out (by simp [spec_Plus.j1])
        | succ kj2 =>
          have H := HA.out
          clear HA
          simp only [spec_Plus.j1] at H
          by_cases c6 : x21_2 = true
          · subst c6
            have H1 : (if x7_1 < (l0.length : Int) then (if 0 ≤ x7_1 then (if x7_1 < (l1.length : Int) then (if x5_1.length < 17592186044416 then (spec_Plus.l0 kj2 l0 l1 (x5_1 ++ [Go.bits .and .i64 (wrap64 ((wrap64 (x6_1 + (rd l0 x7_1))) + (rd l1 x7_1))) 65535]) ((wrap64 ((wrap64 (x6_1 + (rd l0 x7_1))) + (rd l1 x7_1))) / 65536) (wrap64 (x7_1 + 1))) else (none)) else (if x5_1.length < 17592186044416 then (spec_Plus.l0 kj2 l0 l1 (x5_1 ++ [Go.bits .and .i64 (wrap64 (x6_1 + (rd l0 x7_1))) 65535]) ((wrap64 (x6_1 + (rd l0 x7_1))) / 65536) (wrap64 (x7_1 + 1))) else (none))) else (none)) else (if x7_1 < (l1.length : Int) then (if 0 ≤ x7_1 then (if x5_1.length < 17592186044416 then (spec_Plus.l0 kj2 l0 l1 (x5_1 ++ [Go.bits .and .i64 (wrap64 (x6_1 + (rd l1 x7_1))) 65535]) ((wrap64 (x6_1 + (rd l1 x7_1))) / 65536) (wrap64 (x7_1 + 1))) else (none)) else (none)) else (if x5_1.length < 17592186044416 then (spec_Plus.l0 kj2 l0 l1 (x5_1 ++ [Go.bits .and .i64 x6_1 65535]) (x6_1 / 65536) (wrap64 (x7_1 + 1))) else (none)))) = some r := by rw [if_pos rfl] at H; exact H
            clear H
            have H := H1
            clear H1
            by_cases c7 : x7_1 < (l0.length : Int)
            · rw [if_pos c7] at H
              have c7b0 : decide (x7_1 < (l0.length : Int)) = true := decide_eq_true c7
              clear c7
              by_cases c8 : 0 ≤ x7_1
              · rw [if_pos c8] at H
                have c8b0 : decide (0 ≤ x7_1) = true := decide_eq_true c8
                clear c8
                by_cases c9 : x7_1 < (l1.length : Int)
                · rw [if_pos c9] at H
                  have c9b0 : decide (x7_1 < (l1.length : Int)) = true := decide_eq_true c9
                  clear c9
                  by_cases c10 : x5_1.length < 17592186044416
                  · rw [if_pos c10] at H
                    have LMc10 := Aside0.mk c10
                    clear c10
                    obtain ⟨y186, hy186⟩ : ∃ y_ : List Int, y_ = (x5_1 ++ [Go.bits .and .i64 (wrap64 ((wrap64 (x6_1 + (rd l0 x7_1))) + (rd l1 x7_1))) 65535]) := ⟨_, rfl⟩
                    replace H : (spec_Plus.l0 kj2 l0 l1 y186 ((wrap64 ((wrap64 (x6_1 + (rd l0 x7_1))) + (rd l1 x7_1))) / 65536) (wrap64 (x7_1 + 1))) = some r := by first | (rw [hy186]; with_reducible exact H) | (have H2_ := (Option.bind_some _ _).symm.trans H; rw [hy186]; with_reducible exact H2_) | (have H2_ := (Option.bind_some _ _).symm.trans H; with_reducible exact H2_) | with_reducible exact H | (rw [hy186]; exact H) | exact H
                    have Ny186 := Aside0.mk hy186
                    clear hy186
                    have H' := Aside0.mk H
                    clear H
                    have p184 : 0 ≤ (x7_1 : Int) := of_decide_eq_true (by first | (with_reducible assumption) | assumption)
                    have q184 : x7_1 < (l0.length : Int) := of_decide_eq_true (by first | (with_reducible assumption) | assumption)
                    obtain ⟨ad184, e184, hx184_0⟩ := Kd.at_int HR0.out x7_1 p184 q184
                    cases e184
                    replace hx184_0 := (HB.out.cell (World.block_lt_of_cell? w _ hx184_0)).trans hx184_0
                    replace p184 := eq_true p184
                    replace q184 := eq_true q184
                    have p185 : 0 ≤ (x7_1 : Int) := of_decide_eq_true (by first | (with_reducible assumption) | assumption)
                    have q185 : x7_1 < (l1.length : Int) := of_decide_eq_true (by first | (with_reducible assumption) | assumption)
                    obtain ⟨ad185, e185, hx185_0⟩ := Kd.at_int HR1.out x7_1 p185 q185
                    cases e185
                    replace hx185_0 := (HB.out.cell (World.block_lt_of_cell? w _ hx185_0)).trans hx185_0
                    replace p185 := eq_true p185
                    replace q185 := eq_true q185
                    go_wp2_with (first | ((with_reducible refine gate_builtin (b := .append) (xs := #[.tmp 44, .tmp 47]) rfl ?_); (try (refine gate_guard (by rfl) ?_; dsimp only)); at_builtin; refine Kd.R_append (Kd.int .i64) (w0 := w) w.heap.size rfl (.tmp 44) (.tmp 47) 30 3 (.int .i64 0) 8 rfl Tryd.underlying30 info3 rfl (by decide) (by omega) u5 x5_1 (Go.bits .and .i64 (wrap64 ((wrap64 (x6_1 + (rd l0 x7_1))) + (rd l1 x7_1))) 65535) [.int .i64 (Go.bits .and .i64 (wrap64 ((wrap64 (x6_1 + (rd l0 x7_1))) + (rd l1 x7_1))) 65535)] (fun k_ => (w.heap.size ≤ k_)) (fun _ => False) rfl rfl ?aP (fun _ hk => hk.elim) ?aF ?aO ?aB ?aS ?aL ?_; (case aP => exact rfl); (case aB => exact (by repeat (first | (with_reducible first | exact HB.out | apply below_alloc | apply pw_below_drewN | apply below_drew1) | exact HB.out))); (case aF => exact (fun k_ hk => (Nat.le_trans (below_size (by repeat (first | (with_reducible first | exact HB.out | apply below_alloc | apply pw_below_drewN | apply below_drew1) | exact HB.out))) hk))); (case aO => exact (by (with_reducible repeat (first | apply Kd.R_alloc | apply Kd.R_drewN | apply Kd.R_drew)); exact HO_5.out)); (case aS => exact (below_size (by repeat (first | (with_reducible first | exact HB.out | apply below_alloc | apply pw_below_drewN | apply below_drew1) | exact HB.out)))); (case aL => have := LMc10.out; omega); intro v187 w11 ho hb hg hat; rw [← Ny186.out] at ho; have n0_ := Aside0.mk (hb); have n1_ := Aside0.mk (ho); clear HB; clear HO_5; have HB := n0_; have HO188 := n1_; clear n0_ n1_; clear ho hb hg hat))
                    go_roundg kj2
                    case measure => have := HK1.out; have := HJ2.out; omega
                    case rel => exact ⟨(y186), ((wrap64 ((wrap64 (x6_1 + (rd l0 x7_1))) + (rd l1 x7_1))) / 65536), (wrap64 (x7_1 + 1)), (by first | rfl | (simp; done) | (simp [*]; done)), (by first | rfl | (simp; done) | (simp [*]; done)), H', ⟨by have := HK1.out; have := HJ2.out; omega⟩, ⟨by (with_reducible repeat (first | apply Kd.R_alloc | apply Kd.R_drewN | apply Kd.R_drew)); exact HO188.out⟩, ⟨by repeat (first | (with_reducible first | exact HB.out | apply below_alloc | apply pw_below_drewN | apply below_drew1) | exact HB.out)⟩⟩
                  · rw [if_neg c10] at H
                    exact absurd H (by simp)
                · rw [if_neg c9] at H
                  have c9b0 : decide (x7_1 < (l1.length : Int)) = false := decide_eq_false c9
                  clear c9
                  by_cases c12 : x5_1.length < 17592186044416
                  · rw [if_pos c12] at H
                    have LMc12 := Aside0.mk c12
                    clear c12
                    obtain ⟨y189, hy189⟩ : ∃ y_ : List Int, y_ = (x5_1 ++ [Go.bits .and .i64 (wrap64 (x6_1 + (rd l0 x7_1))) 65535]) := ⟨_, rfl⟩
                    replace H : (spec_Plus.l0 kj2 l0 l1 y189 ((wrap64 (x6_1 + (rd l0 x7_1))) / 65536) (wrap64 (x7_1 + 1))) = some r := by first | (rw [hy189]; with_reducible exact H) | (have H2_ := (Option.bind_some _ _).symm.trans H; rw [hy189]; with_reducible exact H2_) | (have H2_ := (Option.bind_some _ _).symm.trans H; with_reducible exact H2_) | with_reducible exact H | (rw [hy189]; exact H) | exact H
                    have Ny189 := Aside0.mk hy189
                    clear hy189
                    have H' := Aside0.mk H
                    clear H
                    have p184 : 0 ≤ (x7_1 : Int) := of_decide_eq_true (by first | (with_reducible assumption) | assumption)
                    have q184 : x7_1 < (l0.length : Int) := of_decide_eq_true (by first | (with_reducible assumption) | assumption)
                    obtain ⟨ad184, e184, hx184_0⟩ := Kd.at_int HR0.out x7_1 p184 q184
                    cases e184
                    replace hx184_0 := (HB.out.cell (World.block_lt_of_cell? w _ hx184_0)).trans hx184_0
                    replace p184 := eq_true p184
                    replace q184 := eq_true q184
                    go_wp2_with (first | ((with_reducible refine gate_builtin (b := .append) (xs := #[.tmp 44, .tmp 47]) rfl ?_); (try (refine gate_guard (by rfl) ?_; dsimp only)); at_builtin; refine Kd.R_append (Kd.int .i64) (w0 := w) w.heap.size rfl (.tmp 44) (.tmp 47) 30 3 (.int .i64 0) 8 rfl Tryd.underlying30 info3 rfl (by decide) (by omega) u5 x5_1 (Go.bits .and .i64 (wrap64 (x6_1 + (rd l0 x7_1))) 65535) [.int .i64 (Go.bits .and .i64 (wrap64 (x6_1 + (rd l0 x7_1))) 65535)] (fun k_ => (w.heap.size ≤ k_)) (fun _ => False) rfl rfl ?aP (fun _ hk => hk.elim) ?aF ?aO ?aB ?aS ?aL ?_; (case aP => exact rfl); (case aB => exact (by repeat (first | (with_reducible first | exact HB.out | apply below_alloc | apply pw_below_drewN | apply below_drew1) | exact HB.out))); (case aF => exact (fun k_ hk => (Nat.le_trans (below_size (by repeat (first | (with_reducible first | exact HB.out | apply below_alloc | apply pw_below_drewN | apply below_drew1) | exact HB.out))) hk))); (case aO => exact (by (with_reducible repeat (first | apply Kd.R_alloc | apply Kd.R_drewN | apply Kd.R_drew)); exact HO_5.out)); (case aS => exact (below_size (by repeat (first | (with_reducible first | exact HB.out | apply below_alloc | apply pw_below_drewN | apply below_drew1) | exact HB.out)))); (case aL => have := LMc12.out; omega); intro v190 w13 ho hb hg hat; rw [← Ny189.out] at ho; have n0_ := Aside0.mk (hb); have n1_ := Aside0.mk (ho); clear HB; clear HO_5; have HB := n0_; have HO191 := n1_; clear n0_ n1_; clear ho hb hg hat))
                    go_roundg kj2
                    case measure => have := HK1.out; have := HJ2.out; omega
                    case rel => exact ⟨(y189), ((wrap64 (x6_1 + (rd l0 x7_1))) / 65536), (wrap64 (x7_1 + 1)), (by first | rfl | (simp; done) | (simp [*]; done)), (by first | rfl | (simp; done) | (simp [*]; done)), H', ⟨by have := HK1.out; have := HJ2.out; omega⟩, ⟨by (with_reducible repeat (first | apply Kd.R_alloc | apply Kd.R_drewN | apply Kd.R_drew)); exact HO191.out⟩, ⟨by repeat (first | (with_reducible first | exact HB.out | apply below_alloc | apply pw_below_drewN | apply below_drew1) | exact HB.out)⟩⟩
                  · rw [if_neg c12] at H
                    exact absurd H (by simp)
              · rw [if_neg c8] at H
                exact absurd H (by simp)
            · rw [if_neg c7] at H
              have c7b0 : decide (x7_1 < (l0.length : Int)) = false := decide_eq_false c7
              clear c7
              by_cases c14 : x7_1 < (l1.length : Int)
              · rw [if_pos c14] at H
                have c14b0 : decide (x7_1 < (l1.length : Int)) = true := decide_eq_true c14
                clear c14
                by_cases c15 : 0 ≤ x7_1
                · rw [if_pos c15] at H
                  have c15b0 : decide (0 ≤ x7_1) = true := decide_eq_true c15
                  clear c15
                  by_cases c16 : x5_1.length < 17592186044416
                  · rw [if_pos c16] at H
                    have LMc16 := Aside0.mk c16
                    clear c16
                    obtain ⟨y193, hy193⟩ : ∃ y_ : List Int, y_ = (x5_1 ++ [Go.bits .and .i64 (wrap64 (x6_1 + (rd l1 x7_1))) 65535]) := ⟨_, rfl⟩
                    replace H : (spec_Plus.l0 kj2 l0 l1 y193 ((wrap64 (x6_1 + (rd l1 x7_1))) / 65536) (wrap64 (x7_1 + 1))) = some r := by first | (rw [hy193]; with_reducible exact H) | (have H2_ := (Option.bind_some _ _).symm.trans H; rw [hy193]; with_reducible exact H2_) | (have H2_ := (Option.bind_some _ _).symm.trans H; with_reducible exact H2_) | with_reducible exact H | (rw [hy193]; exact H) | exact H
                    have Ny193 := Aside0.mk hy193
                    clear hy193
                    have H' := Aside0.mk H
                    clear H
                    have p192 : 0 ≤ (x7_1 : Int) := of_decide_eq_true (by first | (with_reducible assumption) | assumption)
                    have q192 : x7_1 < (l1.length : Int) := of_decide_eq_true (by first | (with_reducible assumption) | assumption)
                    obtain ⟨ad192, e192, hx192_0⟩ := Kd.at_int HR1.out x7_1 p192 q192
                    cases e192
                    replace hx192_0 := (HB.out.cell (World.block_lt_of_cell? w _ hx192_0)).trans hx192_0
                    replace p192 := eq_true p192
                    replace q192 := eq_true q192
                    go_wp2_with (first | ((with_reducible refine gate_builtin (b := .append) (xs := #[.tmp 44, .tmp 47]) rfl ?_); (try (refine gate_guard (by rfl) ?_; dsimp only)); at_builtin; refine Kd.R_append (Kd.int .i64) (w0 := w) w.heap.size rfl (.tmp 44) (.tmp 47) 30 3 (.int .i64 0) 8 rfl Tryd.underlying30 info3 rfl (by decide) (by omega) u5 x5_1 (Go.bits .and .i64 (wrap64 (x6_1 + (rd l1 x7_1))) 65535) [.int .i64 (Go.bits .and .i64 (wrap64 (x6_1 + (rd l1 x7_1))) 65535)] (fun k_ => (w.heap.size ≤ k_)) (fun _ => False) rfl rfl ?aP (fun _ hk => hk.elim) ?aF ?aO ?aB ?aS ?aL ?_; (case aP => exact rfl); (case aB => exact (by repeat (first | (with_reducible first | exact HB.out | apply below_alloc | apply pw_below_drewN | apply below_drew1) | exact HB.out))); (case aF => exact (fun k_ hk => (Nat.le_trans (below_size (by repeat (first | (with_reducible first | exact HB.out | apply below_alloc | apply pw_below_drewN | apply below_drew1) | exact HB.out))) hk))); (case aO => exact (by (with_reducible repeat (first | apply Kd.R_alloc | apply Kd.R_drewN | apply Kd.R_drew)); exact HO_5.out)); (case aS => exact (below_size (by repeat (first | (with_reducible first | exact HB.out | apply below_alloc | apply pw_below_drewN | apply below_drew1) | exact HB.out)))); (case aL => have := LMc16.out; omega); intro v194 w17 ho hb hg hat; rw [← Ny193.out] at ho; have n0_ := Aside0.mk (hb); have n1_ := Aside0.mk (ho); clear HB; clear HO_5; have HB := n0_; have HO195 := n1_; clear n0_ n1_; clear ho hb hg hat))
                    go_roundg kj2
                    case measure => have := HK1.out; have := HJ2.out; omega
                    case rel => exact ⟨(y193), ((wrap64 (x6_1 + (rd l1 x7_1))) / 65536), (wrap64 (x7_1 + 1)), (by first | rfl | (simp; done) | (simp [*]; done)), (by first | rfl | (simp; done) | (simp [*]; done)), H', ⟨by have := HK1.out; have := HJ2.out; omega⟩, ⟨by (with_reducible repeat (first | apply Kd.R_alloc | apply Kd.R_drewN | apply Kd.R_drew)); exact HO195.out⟩, ⟨by repeat (first | (with_reducible first | exact HB.out | apply below_alloc | apply pw_below_drewN | apply below_drew1) | exact HB.out)⟩⟩
                  · rw [if_neg c16] at H
                    exact absurd H (by simp)
                · rw [if_neg c15] at H
                  exact absurd H (by simp)
              · rw [if_neg c14] at H
                have c14b0 : decide (x7_1 < (l1.length : Int)) = false := decide_eq_false c14
                clear c14
                by_cases c18 : x5_1.length < 17592186044416
                · rw [if_pos c18] at H
                  have LMc18 := Aside0.mk c18
                  clear c18
                  obtain ⟨y196, hy196⟩ : ∃ y_ : List Int, y_ = (x5_1 ++ [Go.bits .and .i64 x6_1 65535]) := ⟨_, rfl⟩
                  replace H : (spec_Plus.l0 kj2 l0 l1 y196 (x6_1 / 65536) (wrap64 (x7_1 + 1))) = some r := by first | (rw [hy196]; with_reducible exact H) | (have H2_ := (Option.bind_some _ _).symm.trans H; rw [hy196]; with_reducible exact H2_) | (have H2_ := (Option.bind_some _ _).symm.trans H; with_reducible exact H2_) | with_reducible exact H | (rw [hy196]; exact H) | exact H
                  have Ny196 := Aside0.mk hy196
                  clear hy196
                  have H' := Aside0.mk H
                  clear H
                  go_wp2_with (first | ((with_reducible refine gate_builtin (b := .append) (xs := #[.tmp 44, .tmp 47]) rfl ?_); (try (refine gate_guard (by rfl) ?_; dsimp only)); at_builtin; refine Kd.R_append (Kd.int .i64) (w0 := w) w.heap.size rfl (.tmp 44) (.tmp 47) 30 3 (.int .i64 0) 8 rfl Tryd.underlying30 info3 rfl (by decide) (by omega) u5 x5_1 (Go.bits .and .i64 x6_1 65535) [.int .i64 (Go.bits .and .i64 x6_1 65535)] (fun k_ => (w.heap.size ≤ k_)) (fun _ => False) rfl rfl ?aP (fun _ hk => hk.elim) ?aF ?aO ?aB ?aS ?aL ?_; (case aP => exact rfl); (case aB => exact (by repeat (first | (with_reducible first | exact HB.out | apply below_alloc | apply pw_below_drewN | apply below_drew1) | exact HB.out))); (case aF => exact (fun k_ hk => (Nat.le_trans (below_size (by repeat (first | (with_reducible first | exact HB.out | apply below_alloc | apply pw_below_drewN | apply below_drew1) | exact HB.out))) hk))); (case aO => exact (by (with_reducible repeat (first | apply Kd.R_alloc | apply Kd.R_drewN | apply Kd.R_drew)); exact HO_5.out)); (case aS => exact (below_size (by repeat (first | (with_reducible first | exact HB.out | apply below_alloc | apply pw_below_drewN | apply below_drew1) | exact HB.out)))); (case aL => have := LMc18.out; omega); intro v197 w19 ho hb hg hat; rw [← Ny196.out] at ho; have n0_ := Aside0.mk (hb); have n1_ := Aside0.mk (ho); clear HB; clear HO_5; have HB := n0_; have HO198 := n1_; clear n0_ n1_; clear ho hb hg hat))
                  go_roundg kj2
                  case measure => have := HK1.out; have := HJ2.out; omega
                  case rel => exact ⟨(y196), (x6_1 / 65536), (wrap64 (x7_1 + 1)), (by first | rfl | (simp; done) | (simp [*]; done)), (by first | rfl | (simp; done) | (simp [*]; done)), H', ⟨by have := HK1.out; have := HJ2.out; omega⟩, ⟨by (with_reducible repeat (first | apply Kd.R_alloc | apply Kd.R_drewN | apply Kd.R_drew)); exact HO198.out⟩, ⟨by repeat (first | (with_reducible first | exact HB.out | apply below_alloc | apply pw_below_drewN | apply below_drew1) | exact HB.out)⟩⟩
                · rw [if_neg c18] at H
                  exact absurd H (by simp)
          · replace c6 := Bool.eq_false_iff.mpr c6
            subst c6
            have H1 : ((spec_trim.f kj2 x5_1).bind fun t181 => (some t181)) = some r := by rw [if_neg (show ¬ (false = true) by decide)] at H; exact H
            clear H
            have H := H1
            clear H1
            replace H := Option.bind_eq_some_iff.mp H
            obtain ⟨t181, A200, H⟩ := H
            replace H : (some t181) = some r := H
            have A20 := Aside0.mk A200
            clear A200
            obtain rfl := Option.some.inj H
            obtain ⟨Ao21, co21, eo21⟩ := Kd.R_slice HO_5.out
            subst eo21
            go_wp2_with (first | ((with_reducible refine gate_callee (f := 44) rfl ?_); refine goesL_ (some 52) rfl rfl Tryd.func44 (by kernel_rfl) rfl #[.slice Ao21 x5_1.length co21] rfl (by (try simp only [List.map_toArray, List.map_cons, List.map_nil]); first | done | rfl | (simp only [List.length_drop, List.length_take]; rfl)) ?_; (with_reducible refine (spec_trim.calls kj2 (fun k_ => some k_ = (.slice Ao21 x5_1.length co21 : Value).ownBlock) _ _ x5_1 t181 _ ?side1 A20.out).mono ?_); (case side1 => exact Kd.R_V (Kd.R_tight rfl (HO_5.out))); rintro e w22 ⟨v182, rfl, ho0, hb⟩; refine ⟨_, rfl, ?_⟩; have n0_ := Aside0.mk (Kd.R_below (by (with_reducible repeat (first | apply Kd.R_alloc | apply Kd.R_drewN | apply Kd.R_drew)); exact HO_5.out) hb); have n1_ := Aside0.mk (Kd.V_lower (Kd.V_mono (ok' := fun k_ => (w.heap.size ≤ k_)) ho0 (fun k_ hk_ => Or.elim hk_ (fun hs_ => ((HO_5.out).1 k_ hs_.symm)) (fun hn_ => (Nat.le_trans (below_size (by repeat (first | (with_reducible first | exact HB.out | apply below_alloc | apply pw_below_drewN | apply below_drew1) | exact HB.out))) hn_)))) (below_size (by repeat (first | (with_reducible first | exact HB.out | apply below_alloc | apply pw_below_drewN | apply below_drew1) | exact HB.out)))); have n2_ := Aside0.mk (below_step (by repeat (first | (with_reducible first | exact HB.out | apply below_alloc | apply pw_below_drewN | apply below_drew1) | exact HB.out)) hb); clear HO_5; clear HB; have HO_5 := n0_; have HO183 := n1_; have HB := n2_; clear n0_ n1_ n2_; (try clear hb); (try clear hb2); (try clear hk); (try clear hi); (try clear ho0)))
            go_ret
            exact ⟨_, by first | rfl | (simp [errW_none, errW_some] <;> rfl) | (simp [*, errW_none, errW_some] <;> rfl), by (with_reducible repeat (first | apply Kd.V_alloc | apply Kd.V_drewN | apply Kd.V_drew)); exact HO183.out, by repeat (first | (with_reducible first | exact HB.out | apply below_alloc | apply pw_below_drewN | apply below_drew1) | exact HB.out)⟩
/-! ### spec_Product: function 75 -/
mutual
def spec_Product.l0 : Nat → List Int → List Int → List Int → Int → Int → Option (List Int)
  | 0, _, _, _, _, _ => none
  | k + 1, x1, x5, x17, x18, x19 => if x19 < x18 then (if 0 ≤ x19 then (if x19 < (x17.length : Int) then (spec_Product.l1 k x1 x5 x19 (rd x17 x19) 0 x17 x18 x19 x1 (x1.length : Int) 0) else (none)) else (none)) else ((spec_trim.f k x5).bind fun t202 => (some t202))
def spec_Product.l1 : Nat → List Int → List Int → Int → Int → Int → List Int → Int → Int → List Int → Int → Int → Option (List Int)
  | 0, _, _, _, _, _, _, _, _, _, _, _ => none
  | k + 1, x1, x5, x6, x7, x8, x17, x18, x19, x24, x25, x26 => if x26 < x25 then (if 0 ≤ x26 then (if x26 < (x24.length : Int) then (if 0 ≤ (wrap64 (x6 + x26)) then (if (wrap64 (x6 + x26)) < (x5.length : Int) then (spec_Product.l1 k x1 (x5.set ((wrap64 (x6 + x26)) : Int).toNat (Go.bits .and .i64 (wrap64 (x8 + (wrap64 ((rd x5 (wrap64 (x6 + x26))) + (wrap64 (x7 * (rd x24 x26))))))) 65535)) x6 x7 ((wrap64 (x8 + (wrap64 ((rd x5 (wrap64 (x6 + x26))) + (wrap64 (x7 * (rd x24 x26))))))) / 65536) x17 x18 x19 x24 x25 (wrap64 (x26 + 1))) else (none)) else (none)) else (none)) else (none)) else (if 0 ≤ (wrap64 (x6 + (x1.length : Int))) then (if (wrap64 (x6 + (x1.length : Int))) < (x5.length : Int) then (spec_Product.l0 k x1 (x5.set ((wrap64 (x6 + (x1.length : Int))) : Int).toNat (wrap64 ((rd x5 (wrap64 (x6 + (x1.length : Int)))) + x8))) x17 x18 (wrap64 (x19 + 1))) else (none)) else (none))
end
def spec_Product.f (k : Nat) (l0 : List Int) (l1 : List Int) : Option (List Int) := if 0 ≤ (wrap64 ((l0.length : Int) + (l1.length : Int))) then (if (wrap64 ((l0.length : Int) + (l1.length : Int)) : Int).toNat ≤ 35184372088832 then (spec_Product.l0 k l1 (List.replicate (wrap64 ((l0.length : Int) + (l1.length : Int)) : Int).toNat 0) l0 (l0.length : Int) 0) else (none)) else (none)
theorem spec_Product.mono_l : ∀ k, (∀ y0 y1 y2 y3 y4, LeO (spec_Product.l0 k y0 y1 y2 y3 y4) (spec_Product.l0 (k + 1) y0 y1 y2 y3 y4)) ∧ (∀ y0 y1 y2 y3 y4 y5 y6 y7 y8 y9 y10, LeO (spec_Product.l1 k y0 y1 y2 y3 y4 y5 y6 y7 y8 y9 y10) (spec_Product.l1 (k + 1) y0 y1 y2 y3 y4 y5 y6 y7 y8 y9 y10))
  | 0 => ⟨fun _ _ _ _ _ r h => by simp [spec_Product.l0] at h, fun _ _ _ _ _ _ _ _ _ _ _ r h => by simp [spec_Product.l1] at h⟩
  | k + 1 => by
    obtain ⟨ih0, ih1⟩ := spec_Product.mono_l k
    refine ⟨?_, ?_⟩
    · intro y0 y1 y2 y3 y4
      unfold spec_Product.l0
      repeat' first
      | (with_reducible exact ih0 _ _ _ _ _)
      | (with_reducible exact ih1 _ _ _ _ _ _ _ _ _ _ _)
      | (with_reducible exact spec_trim.mono _ _)
      | (with_reducible exact LeO.refl _)
      | (with_reducible exact LeO.none _)
      | (with_reducible refine LeO.ite ?_ ?_)
      | (with_reducible refine LeO.bind ?_ (fun _ => ?_))
      | exact ih0 _ _ _ _ _
      | exact ih1 _ _ _ _ _ _ _ _ _ _ _
      | exact spec_trim.mono _ _
      | exact LeO.none _
      | refine LeO.ite ?_ ?_
      | refine LeO.bind ?_ (fun _ => ?_)
    · intro y0 y1 y2 y3 y4 y5 y6 y7 y8 y9 y10
      unfold spec_Product.l1
      repeat' first
      | (with_reducible exact ih0 _ _ _ _ _)
      | (with_reducible exact ih1 _ _ _ _ _ _ _ _ _ _ _)
      | (with_reducible exact spec_trim.mono _ _)
      | (with_reducible exact LeO.refl _)
      | (with_reducible exact LeO.none _)
      | (with_reducible refine LeO.ite ?_ ?_)
      | (with_reducible refine LeO.bind ?_ (fun _ => ?_))
      | exact ih0 _ _ _ _ _
      | exact ih1 _ _ _ _ _ _ _ _ _ _ _
      | exact spec_trim.mono _ _
      | exact LeO.none _
      | refine LeO.ite ?_ ?_
      | refine LeO.bind ?_ (fun _ => ?_)
theorem spec_Product.mono : ∀ a0 a1 k, LeO (spec_Product.f k a0 a1) (spec_Product.f (k + 1) a0 a1) := by
  intro a0 a1 k
  obtain ⟨ih0, ih1⟩ := spec_Product.mono_l k
  unfold spec_Product.f
  repeat' first
      | (with_reducible exact ih0 _ _ _ _ _)
      | (with_reducible exact ih1 _ _ _ _ _ _ _ _ _ _ _)
      | (with_reducible exact spec_trim.mono _ _)
      | (with_reducible exact LeO.refl _)
      | (with_reducible exact LeO.none _)
      | (with_reducible refine LeO.ite ?_ ?_)
      | (with_reducible refine LeO.bind ?_ (fun _ => ?_))
      | exact ih0 _ _ _ _ _
      | exact ih1 _ _ _ _ _ _ _ _ _ _ _
      | exact spec_trim.mono _ _
      | exact LeO.none _
      | refine LeO.ite ?_ ?_
      | refine LeO.bind ?_ (fun _ => ?_)
set_option maxHeartbeats 8000000 in
set_option maxRecDepth 100000 in
theorem spec_Product.calls (k : Nat) (A0 : Option Addr) (c0 : Nat) (l0 : List Int) (A1 : Option Addr) (c1 : Nat) (l1 : List Int) (r : List Int) (w : World) (hr0 : Kd.C (Kd.int .i64) w A0 l0.length l0) (hc0 : l0.length ≤ c0) (hr1 : Kd.C (Kd.int .i64) w A1 l1.length l1) (hc1 : l1.length ≤ c1) (h : spec_Product.f k l0 l1 = some r) :
    Calls Tryd.prog 75 #[.slice A0 l0.length c0, .slice A1 l1.length c1] w fun e w' => ∃ v0_ : Value, e = .returned (v0_) ∧ Kd.V (Kd.int .i64) 3 w' w.heap.size (fun k_ => (w.heap.size ≤ k_)) v0_ r ∧ Below w.heap.size w w' := by
  have HR0 := Aside0.mk hr0
  have HC0 := Aside0.mk hc0
  clear hr0 hc0
  have HR1 := Aside0.mk hr1
  have HC1 := Aside0.mk hc1
  clear hr1 hc1
  have HB := Aside0.mk (Below.refl w.heap.size w)
  have H : (if 0 ≤ (wrap64 ((l0.length : Int) + (l1.length : Int))) then (if (wrap64 ((l0.length : Int) + (l1.length : Int)) : Int).toNat ≤ 35184372088832 then (spec_Product.l0 k l1 (List.replicate (wrap64 ((l0.length : Int) + (l1.length : Int)) : Int).toNat 0) l0 (l0.length : Int) 0) else (none)) else (none)) = some r := h
  clear h
  obtain ⟨ji3, hji3⟩ : ∃ j_ : Int, (wrap64 ((l0.length : Int) + (l1.length : Int))) = j_ := ⟨_, rfl⟩
  replace H : (if 0 ≤ (ji3) then (if (ji3 : Int).toNat ≤ 35184372088832 then (spec_Product.l0 k l1 (List.replicate (ji3 : Int).toNat 0) l0 (l0.length : Int) 0) else (none)) else (none)) = some r := by first | (rw [hji3] at H; exact H) | (simp only [hji3] at H ⊢; exact H)
  have hji3w : (IntKind.i64.wrap ((l0.length : Int) + (l1.length : Int))) = ji3 := (i64_w _).trans hji3
  by_cases c4 : 0 ≤ (ji3)
  · rw [if_pos c4] at H
    have c4b0 := eq_true c4
    have c4b1 : decide (0 ≤ (ji3)) = true := decide_eq_true c4
    clear c4
    by_cases c5 : (ji3 : Int).toNat ≤ 35184372088832
    · rw [if_pos c5] at H
      have c5b0 := eq_true c5
      have c5b1 : decide ((ji3 : Int).toNat ≤ 35184372088832) = true := decide_eq_true c5
      clear c5
      obtain ⟨y199, hy199⟩ : ∃ y_ : List Int, y_ = (List.replicate (ji3 : Int).toNat 0) := ⟨_, rfl⟩
      replace H : (spec_Product.l0 k l1 y199 l0 (l0.length : Int) 0) = some r := by first | (rw [hy199]; with_reducible exact H) | (have H2_ := (Option.bind_some _ _).symm.trans H; rw [hy199]; with_reducible exact H2_) | (have H2_ := (Option.bind_some _ _).symm.trans H; with_reducible exact H2_) | with_reducible exact H | (rw [hy199]; exact H) | exact H
      have Ny199 := Aside0.mk hy199
      clear hy199
      have H' := Aside0.mk H
      clear H
      go_enter Tryd.func75, Tryd.ntmps75
      go_wp2_with (first | ((with_reducible refine gate_dst (N := 16) rfl ?_); refine Kd.R_make (Kd.int .i64) _ 3 rfl (N := 16) rfl 30 _ _ rfl ji3 rfl rfl Tryd.underlying30 (.int .i64 0) 8 info3 rfl (by decide) (by omega) 0 (ok := fun _ => True) (okp := fun _ => True) rfl (fun _ hk => hk) trivial (of_decide_eq_true (by first | (with_reducible assumption) | assumption)) (Nat.le_trans (Nat.mul_le_mul_right _ (of_decide_eq_true (by first | (with_reducible assumption) | assumption) : ji3.toNat ≤ 35184372088832)) (by omega)) (Below.refl _ _) (Nat.le_refl _) ?_; intro v200 w6 ho7 hb hg_ hnew_; clear hg_ hnew_; (first | rw [← Ny199.out] at ho7 | (simp only [Int.reduceToNat] at ho7; rw [← Ny199.out] at ho7)); have n0_ := Aside0.mk (Kd.R_lower (Kd.R_newM (M := fun k_ => (w.heap.size ≤ k_)) ho7 (below_size (by repeat (first | (with_reducible first | exact HB.out | apply below_alloc | apply pw_below_drewN | apply below_drew1) | exact HB.out))) (fun k_ h_ => h_)) (below_size (by repeat (first | (with_reducible first | exact HB.out | apply below_alloc | apply pw_below_drewN | apply below_drew1) | exact HB.out)))); have n1_ := Aside0.mk (below_step (by repeat (first | (with_reducible first | exact HB.out | apply below_alloc | apply pw_below_drewN | apply below_drew1) | exact HB.out)) hb); clear HB; have HO201 := n0_; have HB := n1_; clear n0_ n1_; clear hb ho7))
      go_loopg [19] k (fun kq v19 w' => ∃ (x5_1 : List Int) (x19_1 : Int), v19 = .int .i64 x19_1 ∧ Aside0 (spec_Product.l0 kq l1 x5_1 l0 (l0.length : Int) x19_1 = some r) ∧ Aside0 (kq ≤ k) ∧ Aside0 (Kd.R (Kd.int .i64) 3 w' w.heap.size (fun k_ => (w.heap.size ≤ k_)) v200 x5_1) ∧ Aside0 (Below w.heap.size w w'))
      case atStart => exact ⟨(y199), (0), (by first | rfl | (simp; done) | (simp [*]; done)), H', ⟨Nat.le_refl _⟩, ⟨by (with_reducible repeat (first | apply Kd.R_alloc | apply Kd.R_drewN | apply Kd.R_drew)); exact Kd.R_mono HO201.out (fun _ hk => hk.1)⟩, ⟨by repeat (first | (with_reducible first | exact HB.out | apply below_alloc | apply pw_below_drewN | apply below_drew1) | exact HB.out)⟩⟩
      case round =>
        clear H'
        try clear c1
        try clear p2
        try clear c4
        try clear c4b0
        try clear c4b1
        try clear c5
        try clear c5b0
        try clear c5b1
        try clear p6
        try clear c7
        obtain ⟨x5_1, x19_1, rfl, HA, HK1, HO_5, HB⟩ := hrel
        cases gk with
        | zero => exact absurd HA.out (by simp [spec_Product.l0])
        | succ k1 =>
          have H := HA.out
          clear HA
          simp only [spec_Product.l0] at H
          by_cases c8 : x19_1 < (l0.length : Int)
          · rw [if_pos c8] at H
            have c8b0 : decide (x19_1 < (l0.length : Int)) = true := decide_eq_true c8
            clear c8
            by_cases c9 : 0 ≤ x19_1
            · rw [if_pos c9] at H
              have c9b0 : decide (0 ≤ x19_1) = true := decide_eq_true c9
              clear c9
              by_cases c10 : x19_1 < (l0.length : Int)
              · rw [if_pos c10] at H
                have c10b0 : decide (x19_1 < (l0.length : Int)) = true := decide_eq_true c10
                clear c10
                have H' := Aside0.mk H
                clear H
                have p205 : 0 ≤ (x19_1 : Int) := of_decide_eq_true (by first | (with_reducible assumption) | assumption)
                have q205 : x19_1 < (l0.length : Int) := of_decide_eq_true (by first | (with_reducible assumption) | assumption)
                obtain ⟨ad205, e205, hx205_0⟩ := Kd.at_int HR0.out x19_1 p205 q205
                cases e205
                replace hx205_0 := (HB.out.cell (World.block_lt_of_cell? w _ hx205_0)).trans hx205_0
                replace p205 := eq_true p205
                replace q205 := eq_true q205
                go_wp2
                go_loopg [8, 26] k1 (fun kq v8 v26 w' => ∃ (x5_2 : List Int) (x8_2 : Int) (x26_2 : Int), v8 = .int .i64 x8_2 ∧ v26 = .int .i64 x26_2 ∧ Aside0 (spec_Product.l1 kq l1 x5_2 x19_1 (rd l0 x19_1) x8_2 l0 (l0.length : Int) x19_1 l1 (l1.length : Int) x26_2 = some r) ∧ Aside0 (kq ≤ k1) ∧ Aside0 (Kd.R (Kd.int .i64) 3 w' w.heap.size (fun k_ => (w.heap.size ≤ k_)) v200 x5_2) ∧ Aside0 (Below w.heap.size w w'))
                case atStart => exact ⟨(x5_1), (0), (0), (by first | rfl | (simp; done) | (simp [*]; done)), (by first | rfl | (simp; done) | (simp [*]; done)), H', ⟨Nat.le_refl _⟩, ⟨by (with_reducible repeat (first | apply Kd.R_alloc | apply Kd.R_drewN | apply Kd.R_drew)); exact HO_5.out⟩, ⟨by repeat (first | (with_reducible first | exact HB.out | apply below_alloc | apply pw_below_drewN | apply below_drew1) | exact HB.out)⟩⟩
                case round =>
                  clear H'
                  try clear c1
                  try clear p2
                  try clear q2
                  try clear hx2
                  try clear c4
                  try clear c4b0
                  try clear c4b1
                  try clear c5
                  try clear c5b0
                  try clear c5b1
                  try clear p6
                  try clear c7
                  try clear c8
                  try clear c8b0
                  try clear c9
                  try clear c9b0
                  try clear c10
                  try clear c10b0
                  try clear hx205_0
                  try clear p2
                  try clear p205
                  try clear p6
                  try clear q205
                  obtain ⟨x5_2, x8_2, x26_2, rfl, rfl, HA, HK2, HO_5, HB⟩ := hrel
                  cases gk with
                  | zero => exact absurd HA.out (by simp [spec_Product.l1])
                  | succ k2 =>
                    have H := HA.out
                    clear HA
                    simp only [spec_Product.l1] at H
                    by_cases c11 : x26_2 < (l1.length : Int)
                    · rw [if_pos c11] at H
                      have c11b0 : decide (x26_2 < (l1.length : Int)) = true := decide_eq_true c11
                      clear c11
                      by_cases c12 : 0 ≤ x26_2
                      · rw [if_pos c12] at H
                        have c12b0 : decide (0 ≤ x26_2) = true := decide_eq_true c12
                        clear c12
                        by_cases c13 : x26_2 < (l1.length : Int)
                        · rw [if_pos c13] at H
                          have c13b0 : decide (x26_2 < (l1.length : Int)) = true := decide_eq_true c13
                          clear c13
                          obtain ⟨ji14, hji14⟩ : ∃ j_ : Int, (wrap64 (x19_1 + x26_2)) = j_ := ⟨_, rfl⟩
                          replace H : (if 0 ≤ (ji14) then (if (ji14) < (x5_2.length : Int) then (spec_Product.l1 k2 l1 (x5_2.set ((ji14) : Int).toNat (Go.bits .and .i64 (wrap64 (x8_2 + (wrap64 ((rd x5_2 (ji14)) + (wrap64 ((rd l0 x19_1) * (rd l1 x26_2))))))) 65535)) x19_1 (rd l0 x19_1) ((wrap64 (x8_2 + (wrap64 ((rd x5_2 (ji14)) + (wrap64 ((rd l0 x19_1) * (rd l1 x26_2))))))) / 65536) l0 (l0.length : Int) x19_1 l1 (l1.length : Int) (wrap64 (x26_2 + 1))) else (none)) else (none)) = some r := by first | (rw [hji14] at H; exact H) | (simp only [hji14] at H ⊢; exact H)
                          have hji14w : (IntKind.i64.wrap (x19_1 + x26_2)) = ji14 := (i64_w _).trans hji14
                          by_cases c15 : 0 ≤ (ji14)
                          · rw [if_pos c15] at H
                            have c15b0 : decide (0 ≤ (ji14)) = true := decide_eq_true c15
                            clear c15
                            by_cases c16 : (ji14) < (x5_2.length : Int)
                            · rw [if_pos c16] at H
                              have c16b0 : decide ((ji14) < (x5_2.length : Int)) = true := decide_eq_true c16
                              clear c16
                              obtain ⟨y208, hy208⟩ : ∃ y_ : List Int, y_ = (x5_2.set ((ji14) : Int).toNat (Go.bits .and .i64 (wrap64 (x8_2 + (wrap64 ((rd x5_2 (ji14)) + (wrap64 ((rd l0 x19_1) * (rd l1 x26_2))))))) 65535)) := ⟨_, rfl⟩
                              replace H : (spec_Product.l1 k2 l1 y208 x19_1 (rd l0 x19_1) ((wrap64 (x8_2 + (wrap64 ((rd x5_2 (ji14)) + (wrap64 ((rd l0 x19_1) * (rd l1 x26_2))))))) / 65536) l0 (l0.length : Int) x19_1 l1 (l1.length : Int) (wrap64 (x26_2 + 1))) = some r := by first | (rw [hy208]; with_reducible exact H) | (have H2_ := (Option.bind_some _ _).symm.trans H; rw [hy208]; with_reducible exact H2_) | (have H2_ := (Option.bind_some _ _).symm.trans H; with_reducible exact H2_) | with_reducible exact H | (rw [hy208]; exact H) | exact H
                              have Ny208 := Aside0.mk hy208
                              clear hy208
                              have H' := Aside0.mk H
                              clear H
                              have p206 : 0 ≤ (x26_2 : Int) := of_decide_eq_true (by first | (with_reducible assumption) | assumption)
                              have q206 : x26_2 < (l1.length : Int) := of_decide_eq_true (by first | (with_reducible assumption) | assumption)
                              obtain ⟨ad206, e206, hx206_0⟩ := Kd.at_int HR1.out x26_2 p206 q206
                              cases e206
                              replace hx206_0 := (HB.out.cell (World.block_lt_of_cell? w _ hx206_0)).trans hx206_0
                              replace p206 := eq_true p206
                              replace q206 := eq_true q206
                              obtain ⟨Ao18, co18, eo18⟩ := Kd.R_slice HO_5.out
                              subst eo18
                              have p207 : 0 ≤ ((ji14) : Int) := of_decide_eq_true (by first | (with_reducible assumption) | assumption)
                              have q207 : (ji14) < (x5_2.length : Int) := of_decide_eq_true (by first | (with_reducible assumption) | assumption)
                              obtain ⟨ad207, e207, hx207_0⟩ := Kd.at_int (Kd.R_reads' HO_5.out).2.2 (ji14) p207 q207
                              cases e207
                              replace p207 := eq_true p207
                              replace q207 := eq_true q207
                              have p17 : 0 ≤ ((ji14) : Int) := of_decide_eq_true (by first | (with_reducible assumption) | assumption)
                              have q17 : ((ji14) : Int) < ((x5_2.length : Int) : Int) := of_decide_eq_true (by first | (with_reducible assumption) | assumption)
                              obtain ⟨go17, co17, eo17, gb17, gl17, cl17, HG17⟩ := Kd.R_form HO_5.out (by omega)
                              (first | cases eo17 | (injection eo17 with ea_ en_ ec_; (first | subst ea_ | (injection ea_ with ea_; subst ea_)); subst ec_; clear en_))
                              have GB17 := Aside0.mk gb17
                              have GG17 := Aside0.mk HG17
                              clear gb17 gl17 HG17
                              (first | simp only [add_plain] at hx207_0 | skip)
                              obtain ⟨hx17_0, hf17_0⟩ := Kd.R_celln 0 HO_5.out ((ji14) : Int) p17 q17
                              replace p17 := eq_true p17
                              replace q17 := eq_true q17
                              have HP19 := Kd.R_putg HO_5.out ((ji14) : Int) (Go.bits .and .i64 (wrap64 (x8_2 + (wrap64 ((rd x5_2 (ji14)) + (wrap64 ((rd l0 x19_1) * (rd l1 x26_2))))))) 65535)
                              go_wp2_with (first | ((with_reducible refine gate_store (t := 3) (p := 49) rfl ?_); refine store_event (t := 3) (p := 49) (v := ?vo_w20) (w1 := (wr.setCell ⟨go17, ((ji14) : Int).toNat, none⟩ (.int .i64 (Go.bits .and .i64 (wrap64 (x8_2 + (wrap64 ((rd x5_2 (ji14)) + (wrap64 ((rd l0 x19_1) * (rd l1 x26_2))))))) 65535)))) ?hg ?ho ?hn ?hr ?_; (case ho => rfl); (case hg => rfl); (case hn => rfl); (case hr => first | (go_simp; done) | (go_simp; rfl)); intro w20 hw; have hg : wr.grownBy w20 (some go17) := (by rw [hw]; exact HP19.2); have hp_ : Kd.R (Kd.int .i64) 3 w20 w.heap.size (fun k_ => (w.heap.size ≤ k_)) (.slice (some ⟨go17, 0, none⟩) x5_2.length co18) y208 := (by rw [hw, Ny208.out]; exact HP19.1); clear HP19; have n0_ := Aside0.mk (hp_); have n1_ := Aside0.mk ((by rw [hw]; exact below_set (HB.out) GB17.out : Below w.heap.size w w20)); clear HO_5; clear HB; have HO_5 := n0_; have HB := n1_; clear n0_ n1_; clear hg hw hp_))
                              go_roundg k2
                              case measure => have := HK1.out; have := HK2.out; omega
                              case rel => exact ⟨(y208), ((wrap64 (x8_2 + (wrap64 ((rd x5_2 (ji14)) + (wrap64 ((rd l0 x19_1) * (rd l1 x26_2))))))) / 65536), (wrap64 (x26_2 + 1)), (by first | rfl | (simp; done) | (simp only [← hji14] <;> (first | rfl | simp)) | (simp [*]; done)), (by first | rfl | (simp; done) | (simp [*]; done)), H', ⟨by have := HK1.out; have := HK2.out; omega⟩, ⟨by (with_reducible repeat (first | apply Kd.R_alloc | apply Kd.R_drewN | apply Kd.R_drew)); exact HO_5.out⟩, ⟨by repeat (first | (with_reducible first | exact HB.out | apply below_alloc | apply pw_below_drewN | apply below_drew1) | exact HB.out)⟩⟩
                            · rw [if_neg c16] at H
                              exact absurd H (by simp)
                          · rw [if_neg c15] at H
                            exact absurd H (by simp)
                        · rw [if_neg c13] at H
                          exact absurd H (by simp)
                      · rw [if_neg c12] at H
                        exact absurd H (by simp)
                    · rw [if_neg c11] at H
                      have c11b0 : decide (x26_2 < (l1.length : Int)) = false := decide_eq_false c11
                      clear c11
                      obtain ⟨ji21, hji21⟩ : ∃ j_ : Int, (wrap64 (x19_1 + (l1.length : Int))) = j_ := ⟨_, rfl⟩
                      replace H : (if 0 ≤ (ji21) then (if (ji21) < (x5_2.length : Int) then (spec_Product.l0 k2 l1 (x5_2.set ((ji21) : Int).toNat (wrap64 ((rd x5_2 (ji21)) + x8_2))) l0 (l0.length : Int) (wrap64 (x19_1 + 1))) else (none)) else (none)) = some r := by first | (rw [hji21] at H; exact H) | (simp only [hji21] at H ⊢; exact H)
                      have hji21w : (IntKind.i64.wrap (x19_1 + (l1.length : Int))) = ji21 := (i64_w _).trans hji21
                      by_cases c22 : 0 ≤ (ji21)
                      · rw [if_pos c22] at H
                        have c22b0 : decide (0 ≤ (ji21)) = true := decide_eq_true c22
                        clear c22
                        by_cases c23 : (ji21) < (x5_2.length : Int)
                        · rw [if_pos c23] at H
                          have c23b0 : decide ((ji21) < (x5_2.length : Int)) = true := decide_eq_true c23
                          clear c23
                          obtain ⟨y210, hy210⟩ : ∃ y_ : List Int, y_ = (x5_2.set ((ji21) : Int).toNat (wrap64 ((rd x5_2 (ji21)) + x8_2))) := ⟨_, rfl⟩
                          replace H : (spec_Product.l0 k2 l1 y210 l0 (l0.length : Int) (wrap64 (x19_1 + 1))) = some r := by first | (rw [hy210]; with_reducible exact H) | (have H2_ := (Option.bind_some _ _).symm.trans H; rw [hy210]; with_reducible exact H2_) | (have H2_ := (Option.bind_some _ _).symm.trans H; with_reducible exact H2_) | with_reducible exact H | (rw [hy210]; exact H) | exact H
                          have Ny210 := Aside0.mk hy210
                          clear hy210
                          have H' := Aside0.mk H
                          clear H
                          obtain ⟨Ao25, co25, eo25⟩ := Kd.R_slice HO_5.out
                          subst eo25
                          have p209 : 0 ≤ ((ji21) : Int) := of_decide_eq_true (by first | (with_reducible assumption) | assumption)
                          have q209 : (ji21) < (x5_2.length : Int) := of_decide_eq_true (by first | (with_reducible assumption) | assumption)
                          obtain ⟨ad209, e209, hx209_0⟩ := Kd.at_int (Kd.R_reads' HO_5.out).2.2 (ji21) p209 q209
                          cases e209
                          replace p209 := eq_true p209
                          replace q209 := eq_true q209
                          have p24 : 0 ≤ ((ji21) : Int) := of_decide_eq_true (by first | (with_reducible assumption) | assumption)
                          have q24 : ((ji21) : Int) < ((x5_2.length : Int) : Int) := of_decide_eq_true (by first | (with_reducible assumption) | assumption)
                          obtain ⟨go24, co24, eo24, gb24, gl24, cl24, HG24⟩ := Kd.R_form HO_5.out (by omega)
                          (first | cases eo24 | (injection eo24 with ea_ en_ ec_; (first | subst ea_ | (injection ea_ with ea_; subst ea_)); subst ec_; clear en_))
                          have GB24 := Aside0.mk gb24
                          have GG24 := Aside0.mk HG24
                          clear gb24 gl24 HG24
                          (first | simp only [add_plain] at hx209_0 | skip)
                          obtain ⟨hx24_0, hf24_0⟩ := Kd.R_celln 0 HO_5.out ((ji21) : Int) p24 q24
                          replace p24 := eq_true p24
                          replace q24 := eq_true q24
                          have HP26 := Kd.R_putg HO_5.out ((ji21) : Int) (wrap64 ((rd x5_2 (ji21)) + x8_2))
                          go_wp2_with (first | ((with_reducible refine gate_store (t := 3) (p := 62) rfl ?_); refine store_event (t := 3) (p := 62) (v := ?vo_w27) (w1 := (wr.setCell ⟨go24, ((ji21) : Int).toNat, none⟩ (.int .i64 (wrap64 ((rd x5_2 (ji21)) + x8_2))))) ?hg ?ho ?hn ?hr ?_; (case ho => rfl); (case hg => rfl); (case hn => rfl); (case hr => first | (go_simp; done) | (go_simp; rfl)); intro w27 hw; have hg : wr.grownBy w27 (some go24) := (by rw [hw]; exact HP26.2); have hp_ : Kd.R (Kd.int .i64) 3 w27 w.heap.size (fun k_ => (w.heap.size ≤ k_)) (.slice (some ⟨go24, 0, none⟩) x5_2.length co25) y210 := (by rw [hw, Ny210.out]; exact HP26.1); clear HP26; have n0_ := Aside0.mk (hp_); have n1_ := Aside0.mk ((by rw [hw]; exact below_set (HB.out) GB24.out : Below w.heap.size w w27)); clear HO_5; clear HB; have HO_5 := n0_; have HB := n1_; clear n0_ n1_; clear hg hw hp_))
                          go_roundg k2
                          case measure => have := HK1.out; have := HK2.out; omega
                          case rel => exact ⟨(y210), (wrap64 (x19_1 + 1)), (by first | rfl | (simp; done) | (simp [*]; done)), H', ⟨by have := HK1.out; have := HK2.out; omega⟩, ⟨by (with_reducible repeat (first | apply Kd.R_alloc | apply Kd.R_drewN | apply Kd.R_drew)); exact HO_5.out⟩, ⟨by repeat (first | (with_reducible first | exact HB.out | apply below_alloc | apply pw_below_drewN | apply below_drew1) | exact HB.out)⟩⟩
                        · rw [if_neg c23] at H
                          exact absurd H (by simp)
                      · rw [if_neg c22] at H
                        exact absurd H (by simp)
              · rw [if_neg c10] at H
                exact absurd H (by simp)
            · rw [if_neg c9] at H
              exact absurd H (by simp)
          · rw [if_neg c8] at H
            have c8b0 : decide (x19_1 < (l0.length : Int)) = false := decide_eq_false c8
            clear c8
            replace H := Option.bind_eq_some_iff.mp H
            obtain ⟨t202, A280, H⟩ := H
            replace H : (some t202) = some r := H
            have A28 := Aside0.mk A280
            clear A280
            obtain rfl := Option.some.inj H
            obtain ⟨Ao29, co29, eo29⟩ := Kd.R_slice HO_5.out
            subst eo29
            go_wp2_with (first | ((with_reducible refine gate_callee (f := 44) rfl ?_); refine goesL_ (some 65) rfl rfl Tryd.func44 (by kernel_rfl) rfl #[.slice Ao29 x5_1.length co29] rfl (by (try simp only [List.map_toArray, List.map_cons, List.map_nil]); first | done | rfl | (simp only [List.length_drop, List.length_take]; rfl)) ?_; (with_reducible refine (spec_trim.calls k1 (fun k_ => some k_ = (.slice Ao29 x5_1.length co29 : Value).ownBlock) _ _ x5_1 t202 _ ?side1 A28.out).mono ?_); (case side1 => exact Kd.R_V (Kd.R_tight rfl (HO_5.out))); rintro e w30 ⟨v203, rfl, ho0, hb⟩; refine ⟨_, rfl, ?_⟩; have n0_ := Aside0.mk (Kd.R_below (by (with_reducible repeat (first | apply Kd.R_alloc | apply Kd.R_drewN | apply Kd.R_drew)); exact HO_5.out) hb); have n1_ := Aside0.mk (Kd.V_lower (Kd.V_mono (ok' := fun k_ => (w.heap.size ≤ k_)) ho0 (fun k_ hk_ => Or.elim hk_ (fun hs_ => ((HO_5.out).1 k_ hs_.symm)) (fun hn_ => (Nat.le_trans (below_size (by repeat (first | (with_reducible first | exact HB.out | apply below_alloc | apply pw_below_drewN | apply below_drew1) | exact HB.out))) hn_)))) (below_size (by repeat (first | (with_reducible first | exact HB.out | apply below_alloc | apply pw_below_drewN | apply below_drew1) | exact HB.out)))); have n2_ := Aside0.mk (below_step (by repeat (first | (with_reducible first | exact HB.out | apply below_alloc | apply pw_below_drewN | apply below_drew1) | exact HB.out)) hb); clear HO_5; clear HB; have HO_5 := n0_; have HO204 := n1_; have HB := n2_; clear n0_ n1_ n2_; (try clear hb); (try clear hb2); (try clear hk); (try clear hi); (try clear ho0)))
            go_ret
            exact ⟨_, by first | rfl | (simp [errW_none, errW_some] <;> rfl) | (simp only [← hji3]; first | rfl | (simp [errW_none, errW_some] <;> rfl)) | (simp [*, errW_none, errW_some] <;> rfl), by (with_reducible repeat (first | apply Kd.V_alloc | apply Kd.V_drewN | apply Kd.V_drew)); exact HO204.out, by repeat (first | (with_reducible first | exact HB.out | apply below_alloc | apply pw_below_drewN | apply below_drew1) | exact HB.out)⟩
    · rw [if_neg c5] at H
      exact absurd H (by simp)
  · rw [if_neg c4] at H
    exact absurd H (by simp)
/-! ### spec_Minus: function 16 -/
def spec_Minus.l0 : Nat → List Int → List Int → List Int → Int → Int → Int → Option (List Int)
  | 0, _, _, _, _, _, _ => none
  | k + 1, x0, x1, x5, x6, x10, x11 => if x11 < x10 then (if 0 ≤ x11 then (if x11 < (x0.length : Int) then (if x11 < (x1.length : Int) then (if (wrap64 ((wrap64 ((rd x0 x11) - x6)) - (rd x1 x11))) < 0 then (if x5.length < 17592186044416 then (spec_Minus.l0 k x0 x1 (x5 ++ [wrap64 ((wrap64 ((wrap64 ((rd x0 x11) - x6)) - (rd x1 x11))) + 65536)]) 1 x10 (wrap64 (x11 + 1))) else (none)) else (if x5.length < 17592186044416 then (spec_Minus.l0 k x0 x1 (x5 ++ [wrap64 ((wrap64 ((rd x0 x11) - x6)) - (rd x1 x11))]) 0 x10 (wrap64 (x11 + 1))) else (none))) else (if (wrap64 ((rd x0 x11) - x6)) < 0 then (if x5.length < 17592186044416 then (spec_Minus.l0 k x0 x1 (x5 ++ [wrap64 ((wrap64 ((rd x0 x11) - x6)) + 65536)]) 1 x10 (wrap64 (x11 + 1))) else (none)) else (if x5.length < 17592186044416 then (spec_Minus.l0 k x0 x1 (x5 ++ [wrap64 ((rd x0 x11) - x6)]) 0 x10 (wrap64 (x11 + 1))) else (none)))) else (none)) else (none)) else ((spec_trim.f k x5).bind fun t211 => (some t211))
def spec_Minus.f (k : Nat) (l0 : List Int) (l1 : List Int) : Option (List Int) := spec_Minus.l0 k l0 l1 ([] : List Int) 0 (l0.length : Int) 0
theorem spec_Minus.mono_l : ∀ k, (∀ y0 y1 y2 y3 y4 y5, LeO (spec_Minus.l0 k y0 y1 y2 y3 y4 y5) (spec_Minus.l0 (k + 1) y0 y1 y2 y3 y4 y5))
  | 0 => fun _ _ _ _ _ _ r h => by simp [spec_Minus.l0] at h
  | k + 1 => by
    have ih0 := spec_Minus.mono_l k
    · intro y0 y1 y2 y3 y4 y5
      unfold spec_Minus.l0
      repeat' first
      | (with_reducible exact ih0 _ _ _ _ _ _)
      | (with_reducible exact spec_trim.mono _ _)
      | (with_reducible exact LeO.refl _)
      | (with_reducible exact LeO.none _)
      | (with_reducible refine LeO.ite ?_ ?_)
      | (with_reducible refine LeO.bind ?_ (fun _ => ?_))
      | exact ih0 _ _ _ _ _ _
      | exact spec_trim.mono _ _
      | exact LeO.none _
      | refine LeO.ite ?_ ?_
      | refine LeO.bind ?_ (fun _ => ?_)
theorem spec_Minus.mono : ∀ a0 a1 k, LeO (spec_Minus.f k a0 a1) (spec_Minus.f (k + 1) a0 a1) := by
  intro a0 a1 k
  have ih0 := spec_Minus.mono_l k
  unfold spec_Minus.f
  repeat' first
      | (with_reducible exact ih0 _ _ _ _ _ _)
      | (with_reducible exact spec_trim.mono _ _)
      | (with_reducible exact LeO.refl _)
      | (with_reducible exact LeO.none _)
      | (with_reducible refine LeO.ite ?_ ?_)
      | (with_reducible refine LeO.bind ?_ (fun _ => ?_))
      | exact ih0 _ _ _ _ _ _
      | exact spec_trim.mono _ _
      | exact LeO.none _
      | refine LeO.ite ?_ ?_
      | refine LeO.bind ?_ (fun _ => ?_)
set_option maxHeartbeats 8000000 in
set_option maxRecDepth 100000 in
theorem spec_Minus.calls (k : Nat) (A0 : Option Addr) (c0 : Nat) (l0 : List Int) (A1 : Option Addr) (c1 : Nat) (l1 : List Int) (r : List Int) (w : World) (hr0 : Kd.C (Kd.int .i64) w A0 l0.length l0) (hc0 : l0.length ≤ c0) (hr1 : Kd.C (Kd.int .i64) w A1 l1.length l1) (hc1 : l1.length ≤ c1) (h : spec_Minus.f k l0 l1 = some r) :
    Calls Tryd.prog 16 #[.slice A0 l0.length c0, .slice A1 l1.length c1] w fun e w' => ∃ v0_ : Value, e = .returned (v0_) ∧ Kd.V (Kd.int .i64) 3 w' w.heap.size (fun k_ => (w.heap.size ≤ k_)) v0_ r ∧ Below w.heap.size w w' := by
  have HR0 := Aside0.mk hr0
  have HC0 := Aside0.mk hc0
  clear hr0 hc0
  have HR1 := Aside0.mk hr1
  have HC1 := Aside0.mk hc1
  clear hr1 hc1
  have HB := Aside0.mk (Below.refl w.heap.size w)
  have H : (spec_Minus.l0 k l0 l1 ([] : List Int) 0 (l0.length : Int) 0) = some r := h
  clear h
  have H' := Aside0.mk H
  clear H
  go_enter Tryd.func16, Tryd.ntmps16
  go_wp2
  go_loopg [5, 6, 11] k (fun kq v5 v6 v11 w' => ∃ (x5_1 : List Int) (x6_1 : Int) (x11_1 : Int), v6 = .int .i64 x6_1 ∧ v11 = .int .i64 x11_1 ∧ Aside0 (spec_Minus.l0 kq l0 l1 x5_1 x6_1 (l0.length : Int) x11_1 = some r) ∧ Aside0 (kq ≤ k) ∧ Aside0 (Kd.R (Kd.int .i64) 3 w' w.heap.size (fun k_ => (w.heap.size ≤ k_)) v5 x5_1) ∧ Aside0 (Below w.heap.size w w'))
  case atStart => exact ⟨(([] : List Int)), (0), (0), (by first | rfl | (simp; done) | (simp [*]; done)), (by first | rfl | (simp; done) | (simp [*]; done)), H', ⟨Nat.le_refl _⟩, ⟨by first | exact Kd.R_nil _ _ _ _ _ | exact Kd.N_nil _ _ _ _ _ | exact Kd.V_nil _ _ _ _ _ | exact Kd.Q_nil _ _ _ _ _ | exact Kd.S_nil _ _ _ _ _⟩, ⟨by repeat (first | (with_reducible first | exact HB.out | apply below_alloc | apply pw_below_drewN | apply below_drew1) | exact HB.out)⟩⟩
  case round =>
    clear H'
    try clear c1
    try clear p2
    obtain ⟨x5_1, x6_1, x11_1, rfl, rfl, HA, HK1, HO_5, HB⟩ := hrel
    cases gk with
    | zero => exact absurd HA.out (by simp [spec_Minus.l0])
    | succ k1 =>
      have H := HA.out
      clear HA
      simp only [spec_Minus.l0] at H
      by_cases c3 : x11_1 < (l0.length : Int)
      · rw [if_pos c3] at H
        have c3b0 : decide (x11_1 < (l0.length : Int)) = true := decide_eq_true c3
        clear c3
        by_cases c4 : 0 ≤ x11_1
        · rw [if_pos c4] at H
          have c4b0 : decide (0 ≤ x11_1) = true := decide_eq_true c4
          clear c4
          by_cases c5 : x11_1 < (l0.length : Int)
          · rw [if_pos c5] at H
            have c5b0 : decide (x11_1 < (l0.length : Int)) = true := decide_eq_true c5
            clear c5
            by_cases c6 : x11_1 < (l1.length : Int)
            · rw [if_pos c6] at H
              have c6b0 : decide (x11_1 < (l1.length : Int)) = true := decide_eq_true c6
              clear c6
              by_cases c7 : (wrap64 ((wrap64 ((rd l0 x11_1) - x6_1)) - (rd l1 x11_1))) < 0
              · rw [if_pos c7] at H
                have c7b0 : decide ((wrap64 ((wrap64 ((rd l0 x11_1) - x6_1)) - (rd l1 x11_1))) < 0) = true := decide_eq_true c7
                clear c7
                by_cases c8 : x5_1.length < 17592186044416
                · rw [if_pos c8] at H
                  have LMc8 := Aside0.mk c8
                  clear c8
                  obtain ⟨y216, hy216⟩ : ∃ y_ : List Int, y_ = (x5_1 ++ [wrap64 ((wrap64 ((wrap64 ((rd l0 x11_1) - x6_1)) - (rd l1 x11_1))) + 65536)]) := ⟨_, rfl⟩
                  replace H : (spec_Minus.l0 k1 l0 l1 y216 1 (l0.length : Int) (wrap64 (x11_1 + 1))) = some r := by first | (rw [hy216]; with_reducible exact H) | (have H2_ := (Option.bind_some _ _).symm.trans H; rw [hy216]; with_reducible exact H2_) | (have H2_ := (Option.bind_some _ _).symm.trans H; with_reducible exact H2_) | with_reducible exact H | (rw [hy216]; exact H) | exact H
                  have Ny216 := Aside0.mk hy216
                  clear hy216
                  have H' := Aside0.mk H
                  clear H
                  have p214 : 0 ≤ (x11_1 : Int) := of_decide_eq_true (by first | (with_reducible assumption) | assumption)
                  have q214 : x11_1 < (l0.length : Int) := of_decide_eq_true (by first | (with_reducible assumption) | assumption)
                  obtain ⟨ad214, e214, hx214_0⟩ := Kd.at_int HR0.out x11_1 p214 q214
                  cases e214
                  replace hx214_0 := (HB.out.cell (World.block_lt_of_cell? w _ hx214_0)).trans hx214_0
                  replace p214 := eq_true p214
                  replace q214 := eq_true q214
                  have p215 : 0 ≤ (x11_1 : Int) := of_decide_eq_true (by first | (with_reducible assumption) | assumption)
                  have q215 : x11_1 < (l1.length : Int) := of_decide_eq_true (by first | (with_reducible assumption) | assumption)
                  obtain ⟨ad215, e215, hx215_0⟩ := Kd.at_int HR1.out x11_1 p215 q215
                  cases e215
                  replace hx215_0 := (HB.out.cell (World.block_lt_of_cell? w _ hx215_0)).trans hx215_0
                  replace p215 := eq_true p215
                  replace q215 := eq_true q215
                  go_wp2_with (first | ((with_reducible refine gate_builtin (b := .append) (xs := #[.tmp 34, .tmp 36]) rfl ?_); at_builtin; refine Kd.R_append (Kd.int .i64) (w0 := w) w.heap.size rfl (.tmp 34) (.tmp 36) 30 3 (.int .i64 0) 8 rfl Tryd.underlying30 info3 rfl (by decide) (by omega) u5 x5_1 (wrap64 ((wrap64 ((wrap64 ((rd l0 x11_1) - x6_1)) - (rd l1 x11_1))) + 65536)) [.int .i64 (wrap64 ((wrap64 ((wrap64 ((rd l0 x11_1) - x6_1)) - (rd l1 x11_1))) + 65536))] (fun k_ => (w.heap.size ≤ k_)) (fun _ => False) rfl rfl ?aP (fun _ hk => hk.elim) ?aF ?aO ?aB ?aS ?aL ?_; (case aP => exact rfl); (case aB => exact (by repeat (first | (with_reducible first | exact HB.out | apply below_alloc | apply pw_below_drewN | apply below_drew1) | exact HB.out))); (case aF => exact (fun k_ hk => (Nat.le_trans (below_size (by repeat (first | (with_reducible first | exact HB.out | apply below_alloc | apply pw_below_drewN | apply below_drew1) | exact HB.out))) hk))); (case aO => exact (by (with_reducible repeat (first | apply Kd.R_alloc | apply Kd.R_drewN | apply Kd.R_drew)); exact HO_5.out)); (case aS => exact (below_size (by repeat (first | (with_reducible first | exact HB.out | apply below_alloc | apply pw_below_drewN | apply below_drew1) | exact HB.out)))); (case aL => have := LMc8.out; omega); intro v217 w9 ho hb hg hat; rw [← Ny216.out] at ho; have n0_ := Aside0.mk (hb); have n1_ := Aside0.mk (ho); clear HB; clear HO_5; have HB := n0_; have HO218 := n1_; clear n0_ n1_; clear ho hb hg hat))
                  go_roundg k1
                  case measure => have := HK1.out; omega
                  case rel => exact ⟨(y216), (1), (wrap64 (x11_1 + 1)), (by first | rfl | (simp; done) | (simp [*]; done)), (by first | rfl | (simp; done) | (simp [*]; done)), H', ⟨by have := HK1.out; omega⟩, ⟨by (with_reducible repeat (first | apply Kd.R_alloc | apply Kd.R_drewN | apply Kd.R_drew)); exact HO218.out⟩, ⟨by repeat (first | (with_reducible first | exact HB.out | apply below_alloc | apply pw_below_drewN | apply below_drew1) | exact HB.out)⟩⟩
                · rw [if_neg c8] at H
                  exact absurd H (by simp)
              · rw [if_neg c7] at H
                have c7b0 : decide ((wrap64 ((wrap64 ((rd l0 x11_1) - x6_1)) - (rd l1 x11_1))) < 0) = false := decide_eq_false c7
                clear c7
                by_cases c10 : x5_1.length < 17592186044416
                · rw [if_pos c10] at H
                  have LMc10 := Aside0.mk c10
                  clear c10
                  obtain ⟨y219, hy219⟩ : ∃ y_ : List Int, y_ = (x5_1 ++ [wrap64 ((wrap64 ((rd l0 x11_1) - x6_1)) - (rd l1 x11_1))]) := ⟨_, rfl⟩
                  replace H : (spec_Minus.l0 k1 l0 l1 y219 0 (l0.length : Int) (wrap64 (x11_1 + 1))) = some r := by first | (rw [hy219]; with_reducible exact H) | (have H2_ := (Option.bind_some _ _).symm.trans H; rw [hy219]; with_reducible exact H2_) | (have H2_ := (Option.bind_some _ _).symm.trans H; with_reducible exact H2_) | with_reducible exact H | (rw [hy219]; exact H) | exact H
                  have Ny219 := Aside0.mk hy219
                  clear hy219
                  have H' := Aside0.mk H
                  clear H
                  have p214 : 0 ≤ (x11_1 : Int) := of_decide_eq_true (by first | (with_reducible assumption) | assumption)
                  have q214 : x11_1 < (l0.length : Int) := of_decide_eq_true (by first | (with_reducible assumption) | assumption)
                  obtain ⟨ad214, e214, hx214_0⟩ := Kd.at_int HR0.out x11_1 p214 q214
                  cases e214
                  replace hx214_0 := (HB.out.cell (World.block_lt_of_cell? w _ hx214_0)).trans hx214_0
                  replace p214 := eq_true p214
                  replace q214 := eq_true q214
                  have p215 : 0 ≤ (x11_1 : Int) := of_decide_eq_true (by first | (with_reducible assumption) | assumption)
                  have q215 : x11_1 < (l1.length : Int) := of_decide_eq_true (by first | (with_reducible assumption) | assumption)
                  obtain ⟨ad215, e215, hx215_0⟩ := Kd.at_int HR1.out x11_1 p215 q215
                  cases e215
                  replace hx215_0 := (HB.out.cell (World.block_lt_of_cell? w _ hx215_0)).trans hx215_0
                  replace p215 := eq_true p215
                  replace q215 := eq_true q215
                  go_wp2_with (first | ((with_reducible refine gate_builtin (b := .append) (xs := #[.tmp 34, .tmp 36]) rfl ?_); at_builtin; refine Kd.R_append (Kd.int .i64) (w0 := w) w.heap.size rfl (.tmp 34) (.tmp 36) 30 3 (.int .i64 0) 8 rfl Tryd.underlying30 info3 rfl (by decide) (by omega) u5 x5_1 (wrap64 ((wrap64 ((rd l0 x11_1) - x6_1)) - (rd l1 x11_1))) [.int .i64 (wrap64 ((wrap64 ((rd l0 x11_1) - x6_1)) - (rd l1 x11_1)))] (fun k_ => (w.heap.size ≤ k_)) (fun _ => False) rfl rfl ?aP (fun _ hk => hk.elim) ?aF ?aO ?aB ?aS ?aL ?_; (case aP => exact rfl); (case aB => exact (by repeat (first | (with_reducible first | exact HB.out | apply below_alloc | apply pw_below_drewN | apply below_drew1) | exact HB.out))); (case aF => exact (fun k_ hk => (Nat.le_trans (below_size (by repeat (first | (with_reducible first | exact HB.out | apply below_alloc | apply pw_below_drewN | apply below_drew1) | exact HB.out))) hk))); (case aO => exact (by (with_reducible repeat (first | apply Kd.R_alloc | apply Kd.R_drewN | apply Kd.R_drew)); exact HO_5.out)); (case aS => exact (below_size (by repeat (first | (with_reducible first | exact HB.out | apply below_alloc | apply pw_below_drewN | apply below_drew1) | exact HB.out)))); (case aL => have := LMc10.out; omega); intro v220 w11 ho hb hg hat; rw [← Ny219.out] at ho; have n0_ := Aside0.mk (hb); have n1_ := Aside0.mk (ho); clear HB; clear HO_5; have HB := n0_; have HO221 := n1_; clear n0_ n1_; clear ho hb hg hat))
                  go_roundg k1
                  case measure => have := HK1.out; omega
                  case rel => exact ⟨(y219), (0), (wrap64 (x11_1 + 1)), (by first | rfl | (simp; done) | (simp [*]; done)), (by first | rfl | (simp; done) | (simp [*]; done)), H', ⟨by have := HK1.out; omega⟩, ⟨by (with_reducible repeat (first | apply Kd.R_alloc | apply Kd.R_drewN | apply Kd.R_drew)); exact HO221.out⟩, ⟨by repeat (first | (with_reducible first | exact HB.out | apply below_alloc | apply pw_below_drewN | apply below_drew1) | exact HB.out)⟩⟩
                · rw [if_neg c10] at H
                  exact absurd H (by simp)
            · rw [if_neg c6] at H
              have c6b0 : decide (x11_1 < (l1.length : Int)) = false := decide_eq_false c6
              clear c6
              by_cases c12 : (wrap64 ((rd l0 x11_1) - x6_1)) < 0
              · rw [if_pos c12] at H
                have c12b0 : decide ((wrap64 ((rd l0 x11_1) - x6_1)) < 0) = true := decide_eq_true c12
                clear c12
                by_cases c13 : x5_1.length < 17592186044416
                · rw [if_pos c13] at H
                  have LMc13 := Aside0.mk c13
                  clear c13
                  obtain ⟨y222, hy222⟩ : ∃ y_ : List Int, y_ = (x5_1 ++ [wrap64 ((wrap64 ((rd l0 x11_1) - x6_1)) + 65536)]) := ⟨_, rfl⟩
                  replace H : (spec_Minus.l0 k1 l0 l1 y222 1 (l0.length : Int) (wrap64 (x11_1 + 1))) = some r := by first | (rw [hy222]; with_reducible exact H) | (have H2_ := (Option.bind_some _ _).symm.trans H; rw [hy222]; with_reducible exact H2_) | (have H2_ := (Option.bind_some _ _).symm.trans H; with_reducible exact H2_) | with_reducible exact H | (rw [hy222]; exact H) | exact H
                  have Ny222 := Aside0.mk hy222
                  clear hy222
                  have H' := Aside0.mk H
                  clear H
                  have p214 : 0 ≤ (x11_1 : Int) := of_decide_eq_true (by first | (with_reducible assumption) | assumption)
                  have q214 : x11_1 < (l0.length : Int) := of_decide_eq_true (by first | (with_reducible assumption) | assumption)
                  obtain ⟨ad214, e214, hx214_0⟩ := Kd.at_int HR0.out x11_1 p214 q214
                  cases e214
                  replace hx214_0 := (HB.out.cell (World.block_lt_of_cell? w _ hx214_0)).trans hx214_0
                  replace p214 := eq_true p214
                  replace q214 := eq_true q214
                  go_wp2_with (first | ((with_reducible refine gate_builtin (b := .append) (xs := #[.tmp 34, .tmp 36]) rfl ?_); at_builtin; refine Kd.R_append (Kd.int .i64) (w0 := w) w.heap.size rfl (.tmp 34) (.tmp 36) 30 3 (.int .i64 0) 8 rfl Tryd.underlying30 info3 rfl (by decide) (by omega) u5 x5_1 (wrap64 ((wrap64 ((rd l0 x11_1) - x6_1)) + 65536)) [.int .i64 (wrap64 ((wrap64 ((rd l0 x11_1) - x6_1)) + 65536))] (fun k_ => (w.heap.size ≤ k_)) (fun _ => False) rfl rfl ?aP (fun _ hk => hk.elim) ?aF ?aO ?aB ?aS ?aL ?_; (case aP => exact rfl); (case aB => exact (by repeat (first | (with_reducible first | exact HB.out | apply below_alloc | apply pw_below_drewN | apply below_drew1) | exact HB.out))); (case aF => exact (fun k_ hk => (Nat.le_trans (below_size (by repeat (first | (with_reducible first | exact HB.out | apply below_alloc | apply pw_below_drewN | apply below_drew1) | exact HB.out))) hk))); (case aO => exact (by (with_reducible repeat (first | apply Kd.R_alloc | apply Kd.R_drewN | apply Kd.R_drew)); exact HO_5.out)); (case aS => exact (below_size (by repeat (first | (with_reducible first | exact HB.out | apply below_alloc | apply pw_below_drewN | apply below_drew1) | exact HB.out)))); (case aL => have := LMc13.out; omega); intro v223 w14 ho hb hg hat; rw [← Ny222.out] at ho; have n0_ := Aside0.mk (hb); have n1_ := Aside0.mk (ho); clear HB; clear HO_5; have HB := n0_; have HO224 := n1_; clear n0_ n1_; clear ho hb hg hat))
                  go_roundg k1
                  case measure => have := HK1.out; omega
                  case rel => exact ⟨(y222), (1), (wrap64 (x11_1 + 1)), (by first | rfl | (simp; done) | (simp [*]; done)), (by first | rfl | (simp; done) | (simp [*]; done)), H', ⟨by have := HK1.out; omega⟩, ⟨by (with_reducible repeat (first | apply Kd.R_alloc | apply Kd.R_drewN | apply Kd.R_drew)); exact HO224.out⟩, ⟨by repeat (first | (with_reducible first | exact HB.out | apply below_alloc | apply pw_below_drewN | apply below_drew1) | exact HB.out)⟩⟩
                · rw [if_neg c13] at H
                  exact absurd H (by simp)
              · rw [if_neg c12] at H
                have c12b0 : decide ((wrap64 ((rd l0 x11_1) - x6_1)) < 0) = false := decide_eq_false c12
                clear c12
                by_cases c15 : x5_1.length < 17592186044416
                · rw [if_pos c15] at H
                  have LMc15 := Aside0.mk c15
                  clear c15
                  obtain ⟨y225, hy225⟩ : ∃ y_ : List Int, y_ = (x5_1 ++ [wrap64 ((rd l0 x11_1) - x6_1)]) := ⟨_, rfl⟩
                  replace H : (spec_Minus.l0 k1 l0 l1 y225 0 (l0.length : Int) (wrap64 (x11_1 + 1))) = some r := by first | (rw [hy225]; with_reducible exact H) | (have H2_ := (Option.bind_some _ _).symm.trans H; rw [hy225]; with_reducible exact H2_) | (have H2_ := (Option.bind_some _ _).symm.trans H; with_reducible exact H2_) | with_reducible exact H | (rw [hy225]; exact H) | exact H
                  have Ny225 := Aside0.mk hy225
                  clear hy225
                  have H' := Aside0.mk H
                  clear H
                  have p214 : 0 ≤ (x11_1 : Int) := of_decide_eq_true (by first | (with_reducible assumption) | assumption)
                  have q214 : x11_1 < (l0.length : Int) := of_decide_eq_true (by first | (with_reducible assumption) | assumption)
                  obtain ⟨ad214, e214, hx214_0⟩ := Kd.at_int HR0.out x11_1 p214 q214
                  cases e214
                  replace hx214_0 := (HB.out.cell (World.block_lt_of_cell? w _ hx214_0)).trans hx214_0
                  replace p214 := eq_true p214
                  replace q214 := eq_true q214
                  go_wp2_with (first | ((with_reducible refine gate_builtin (b := .append) (xs := #[.tmp 34, .tmp 36]) rfl ?_); at_builtin; refine Kd.R_append (Kd.int .i64) (w0 := w) w.heap.size rfl (.tmp 34) (.tmp 36) 30 3 (.int .i64 0) 8 rfl Tryd.underlying30 info3 rfl (by decide) (by omega) u5 x5_1 (wrap64 ((rd l0 x11_1) - x6_1)) [.int .i64 (wrap64 ((rd l0 x11_1) - x6_1))] (fun k_ => (w.heap.size ≤ k_)) (fun _ => False) rfl rfl ?aP (fun _ hk => hk.elim) ?aF ?aO ?aB ?aS ?aL ?_; (case aP => exact rfl); (case aB => exact (by repeat (first | (with_reducible first | exact HB.out | apply below_alloc | apply pw_below_drewN | apply below_drew1) | exact HB.out))); (case aF => exact (fun k_ hk => (Nat.le_trans (below_size (by repeat (first | (with_reducible first | exact HB.out | apply below_alloc | apply pw_below_drewN | apply below_drew1) | exact HB.out))) hk))); (case aO => exact (by (with_reducible repeat (first | apply Kd.R_alloc | apply Kd.R_drewN | apply Kd.R_drew)); exact HO_5.out)); (case aS => exact (below_size (by repeat (first | (with_reducible first | exact HB.out | apply below_alloc | apply pw_below_drewN | apply below_drew1) | exact HB.out)))); (case aL => have := LMc15.out; omega); intro v226 w16 ho hb hg hat; rw [← Ny225.out] at ho; have n0_ := Aside0.mk (hb); have n1_ := Aside0.mk (ho); clear HB; clear HO_5; have HB := n0_; have HO227 := n1_; clear n0_ n1_; clear ho hb hg hat))
                  go_roundg k1
                  case measure => have := HK1.out; omega
                  case rel => exact ⟨(y225), (0), (wrap64 (x11_1 + 1)), (by first | rfl | (simp; done) | (simp [*]; done)), (by first | rfl | (simp; done) | (simp [*]; done)), H', ⟨by have := HK1.out; omega⟩, ⟨by (with_reducible repeat (first | apply Kd.R_alloc | apply Kd.R_drewN | apply Kd.R_drew)); exact HO227.out⟩, ⟨by repeat (first | (with_reducible first | exact HB.out | apply below_alloc | apply pw_below_drewN | apply below_drew1) | exact HB.out)⟩⟩
                · rw [if_neg c15] at H
                  exact absurd H (by simp)
          · rw [if_neg c5] at H
            exact absurd H (by simp)
        · rw [if_neg c4] at H
          exact absurd H (by simp)
      · rw [if_neg c3] at H
        have c3b0 : decide (x11_1 < (l0.length : Int)) = false := decide_eq_false c3
        clear c3
        replace H := Option.bind_eq_some_iff.mp H
        obtain ⟨t211, A170, H⟩ := H
        replace H : (some t211) = some r := H
        have A17 := Aside0.mk A170
        clear A170
        obtain rfl := Option.some.inj H
        obtain ⟨Ao18, co18, eo18⟩ := Kd.R_slice HO_5.out
        subst eo18
        go_wp2_with (first | ((with_reducible refine gate_callee (f := 44) rfl ?_); refine goesL_ (some 40) rfl rfl Tryd.func44 (by kernel_rfl) rfl #[.slice Ao18 x5_1.length co18] rfl (by (try simp only [List.map_toArray, List.map_cons, List.map_nil]); first | done | rfl | (simp only [List.length_drop, List.length_take]; rfl)) ?_; (with_reducible refine (spec_trim.calls k1 (fun k_ => some k_ = (.slice Ao18 x5_1.length co18 : Value).ownBlock) _ _ x5_1 t211 _ ?side1 A17.out).mono ?_); (case side1 => exact Kd.R_V (Kd.R_tight rfl (HO_5.out))); rintro e w19 ⟨v212, rfl, ho0, hb⟩; refine ⟨_, rfl, ?_⟩; have n0_ := Aside0.mk (Kd.R_below (by (with_reducible repeat (first | apply Kd.R_alloc | apply Kd.R_drewN | apply Kd.R_drew)); exact HO_5.out) hb); have n1_ := Aside0.mk (Kd.V_lower (Kd.V_mono (ok' := fun k_ => (w.heap.size ≤ k_)) ho0 (fun k_ hk_ => Or.elim hk_ (fun hs_ => ((HO_5.out).1 k_ hs_.symm)) (fun hn_ => (Nat.le_trans (below_size (by repeat (first | (with_reducible first | exact HB.out | apply below_alloc | apply pw_below_drewN | apply below_drew1) | exact HB.out))) hn_)))) (below_size (by repeat (first | (with_reducible first | exact HB.out | apply below_alloc | apply pw_below_drewN | apply below_drew1) | exact HB.out)))); have n2_ := Aside0.mk (below_step (by repeat (first | (with_reducible first | exact HB.out | apply below_alloc | apply pw_below_drewN | apply below_drew1) | exact HB.out)) hb); clear HO_5; clear HB; have HO_5 := n0_; have HO213 := n1_; have HB := n2_; clear n0_ n1_ n2_; (try clear hb); (try clear hb2); (try clear hk); (try clear hi); (try clear ho0)))
        go_ret
        exact ⟨_, by first | rfl | (simp [errW_none, errW_some] <;> rfl) | (simp [*, errW_none, errW_some] <;> rfl), by (with_reducible repeat (first | apply Kd.V_alloc | apply Kd.V_drewN | apply Kd.V_drew)); exact HO213.out, by repeat (first | (with_reducible first | exact HB.out | apply below_alloc | apply pw_below_drewN | apply below_drew1) | exact HB.out)⟩
/-! ### spec_Big_Bit: function 20 -/
def spec_Big_Bit.f (l0 : List Int) (a1 : Int) : Option (Bool) := if a1 ≥ 0 then (if (wrap64 (Int.tdiv a1 16)) < (l0.length : Int) then (if 0 ≤ (wrap64 (Int.tdiv a1 16)) then (if 0 ≤ (Int.tmod a1 16) then (some ((Go.bits .and .i64 (shr .i64 (rd l0 (wrap64 (Int.tdiv a1 16))) (Int.tmod a1 16)) 1) == 1)) else (none)) else (none)) else (some false)) else (some false)
set_option maxHeartbeats 8000000 in
set_option maxRecDepth 100000 in
theorem spec_Big_Bit.calls (A0 : Option Addr) (c0 : Nat) (l0 : List Int) (a1 : Int) (r : Bool) (w : World) (hr0 : Kd.C (Kd.int .i64) w A0 l0.length l0) (hc0 : l0.length ≤ c0) (h : spec_Big_Bit.f l0 a1 = some r) :
    Calls Tryd.prog 20 #[.slice A0 l0.length c0, .int .i64 a1] w fun e w' => e = .returned (.bool r) ∧ Drawn0 w w' := by
  have HR0 := Aside0.mk hr0
  have HC0 := Aside0.mk hc0
  clear hr0 hc0
  have H : (if a1 ≥ 0 then (if (wrap64 (Int.tdiv a1 16)) < (l0.length : Int) then (if 0 ≤ (wrap64 (Int.tdiv a1 16)) then (if 0 ≤ (Int.tmod a1 16) then (some ((Go.bits .and .i64 (shr .i64 (rd l0 (wrap64 (Int.tdiv a1 16))) (Int.tmod a1 16)) 1) == 1)) else (none)) else (none)) else (some false)) else (some false)) = some r := h
  clear h
  by_cases c3 : a1 ≥ 0
  · rw [if_pos c3] at H
    have c3b0 : decide (0 ≤ a1) = true := decide_eq_true c3
    clear c3
    by_cases c4 : (wrap64 (Int.tdiv a1 16)) < (l0.length : Int)
    · rw [if_pos c4] at H
      have c4b0 : decide ((wrap64 (Int.tdiv a1 16)) < (l0.length : Int)) = true := decide_eq_true c4
      clear c4
      obtain ⟨ji5, hji5⟩ : ∃ j_ : Int, (wrap64 (Int.tdiv a1 16)) = j_ := ⟨_, rfl⟩
      replace H : (if 0 ≤ (ji5) then (if 0 ≤ (Int.tmod a1 16) then (some ((Go.bits .and .i64 (shr .i64 (rd l0 (ji5)) (Int.tmod a1 16)) 1) == 1)) else (none)) else (none)) = some r := by first | (rw [hji5] at H; exact H) | (simp only [hji5] at H ⊢; exact H)
      (try rw [hji5] at c4b0)
      have hji5w : (IntKind.i64.wrap (Int.tdiv a1 16)) = ji5 := (i64_w _).trans hji5
      by_cases c6 : 0 ≤ (ji5)
      · rw [if_pos c6] at H
        have c6b0 : decide (0 ≤ (ji5)) = true := decide_eq_true c6
        clear c6
        obtain ⟨ji7, hji7⟩ : ∃ j_ : Int, (Int.tmod a1 16) = j_ := ⟨_, rfl⟩
        replace H : (if 0 ≤ (ji7) then (some ((Go.bits .and .i64 (shr .i64 (rd l0 (ji5)) (ji7)) 1) == 1)) else (none)) = some r := by first | (rw [hji7] at H; exact H) | (simp only [hji7] at H ⊢; exact H)
        by_cases c8 : 0 ≤ (ji7)
        · rw [if_pos c8] at H
          have c8b0 := eq_true c8
          have c8b1 : decide (0 ≤ (ji7)) = true := decide_eq_true c8
          clear c8
          obtain ⟨ji9, hji9⟩ : ∃ j_ : Int, (shr .i64 (rd l0 (ji5)) (ji7)) = j_ := ⟨_, rfl⟩
          replace H : (some ((Go.bits .and .i64 (ji9) 1) == 1)) = some r := by first | (rw [hji9] at H; exact H) | (simp only [hji9] at H ⊢; exact H)
          have hji9_ : ((rd l0 (ji5)) / 2 ^ min (ji7).toNat 64) = ji9 := hji9
          have hji9z : (ji7) ≤ 64 → ((rd l0 (ji5)) / 2 ^ (ji7).toNat) = ji9 := shr_small hji9
          obtain rfl := Option.some.inj H
          have p228 : 0 ≤ ((ji5) : Int) := of_decide_eq_true (by first | (with_reducible assumption) | assumption)
          have q228 : (ji5) < (l0.length : Int) := of_decide_eq_true (by first | (with_reducible assumption) | assumption)
          obtain ⟨ad228, e228, hx228_0⟩ := Kd.at_int HR0.out (ji5) p228 q228
          cases e228
          replace p228 := eq_true p228
          replace q228 := eq_true q228
          go_enter Tryd.func20, Tryd.ntmps20
          go_wp2
          go_ret
          exact ⟨by first | rfl | (simp; done) | (simp only [← hji5, ← hji7, ← hji9] <;> (first | rfl | simp)) | (simp [*]; done), by repeat (first | exact Drawn0.refl _ | apply Drawn0.step)⟩
        · rw [if_neg c8] at H
          exact absurd H (by simp)
      · rw [if_neg c6] at H
        exact absurd H (by simp)
    · rw [if_neg c4] at H
      have c4b0 : decide ((wrap64 (Int.tdiv a1 16)) < (l0.length : Int)) = false := decide_eq_false c4
      clear c4
      obtain rfl := Option.some.inj H
      go_enter Tryd.func20, Tryd.ntmps20
      go_wp2
      go_ret
      exact ⟨by first | rfl | (simp; done) | (simp [*]; done), by repeat (first | exact Drawn0.refl _ | apply Drawn0.step)⟩
  · rw [if_neg c3] at H
    have c3b0 : decide (0 ≤ a1) = false := decide_eq_false c3
    clear c3
    obtain rfl := Option.some.inj H
    go_enter Tryd.func20, Tryd.ntmps20
    go_wp2
    go_ret
    exact ⟨by first | rfl | (simp; done) | (simp [*]; done), by repeat (first | exact Drawn0.refl _ | apply Drawn0.step)⟩
/-- THE ONE PURE STATEMENT of spec_Big_Bit: yours. -/
def spec_Big_Bit.Pure : Prop := ∀ (l0 : List Int) (a1 : Int), l0.length ≤ maxLen → l0.length * 8 ≤ 140737488351232 → (∀ x ∈ l0, (Lit.int .i64 x).wf = true) → (Lit.int .i64 a1).wf = true → spec_Big_Bit.f l0 a1 = some true
theorem spec_Big_Bit.walk (P : spec_Big_Bit.Pure) (a0 : Option Addr) (len0 cap0 : Nat) (z0 : List Int) (a1 : Int) (w : World) (w0 : (a0 = none ∧ len0 = 0 ∧ cap0 = 0 ∧ z0 = []) ∨ ∃ x, a0 = some x ∧ len0 ≤ cap0 ∧ cap0 ≤ maxLen ∧ z0.length = cap0 ∧ (∀ i, i < z0.length → w.cell? (x.add i) = some (.int .i64 (z0.getD i 0))) ∧ ∀ n ∈ z0, (Lit.int .i64 n).wf = true) (y0 : len0 * 8 ≤ 140737488351232) (w1 : (Lit.int .i64 a1).wf = true) :
    Calls Tryd.prog 20 #[.slice a0 len0 cap0, .int .i64 a1] w fun e w' => e = .returned (.bool true) ∧ Below w.heap.size w w' := by
  obtain ⟨l0, rfl, hr0, hm0, hw0, hc0⟩ := ReadsInt.ofRowC w0
  have h := P l0 a1 hm0 y0 hw0 w1
  refine (spec_Big_Bit.calls _ _ l0 a1 true w (Kd.C_of_reads (d := (0 : Int)) (h1 := fun _ => rfl) hr0) hc0 h).mono ?_
  rintro e w' ⟨rfl, hd⟩
  exact ⟨rfl, hd.below⟩
/-! ### spec_Big_Length: function 19 -/
def spec_Big_Length.l0 : Nat → List Int → Int → Option (Int)
  | 0, _, _ => none
  | k + 1, x0, x3 => if x3 > 0 then ((spec_Big_Bit.f x0 (wrap64 (x3 - 1))).bind fun t229 => (if t229 = true then (some x3) else (spec_Big_Length.l0 k x0 (wrap64 (x3 - 1))))) else (some x3)
def spec_Big_Length.f (k : Nat) (l0 : List Int) : Option (Int) := spec_Big_Length.l0 k l0 (wrap64 (16 * (l0.length : Int)))
theorem spec_Big_Length.mono_l : ∀ k, (∀ y0 y1, LeO (spec_Big_Length.l0 k y0 y1) (spec_Big_Length.l0 (k + 1) y0 y1))
  | 0 => fun _ _ r h => by simp [spec_Big_Length.l0] at h
  | k + 1 => by
    have ih0 := spec_Big_Length.mono_l k
    · intro y0 y1
      unfold spec_Big_Length.l0
      repeat' first
      | (with_reducible exact ih0 _ _)
      | (with_reducible exact LeO.refl _)
      | (with_reducible exact LeO.none _)
      | (with_reducible refine LeO.ite ?_ ?_)
      | (with_reducible refine LeO.bind ?_ (fun _ => ?_))
      | exact ih0 _ _
      | exact LeO.none _
      | refine LeO.ite ?_ ?_
      | refine LeO.bind ?_ (fun _ => ?_)
theorem spec_Big_Length.mono : ∀ a0 k, LeO (spec_Big_Length.f k a0) (spec_Big_Length.f (k + 1) a0) := by
  intro a0 k
  have ih0 := spec_Big_Length.mono_l k
  unfold spec_Big_Length.f
  repeat' first
      | (with_reducible exact ih0 _ _)
      | (with_reducible exact LeO.refl _)
      | (with_reducible exact LeO.none _)
      | (with_reducible refine LeO.ite ?_ ?_)
      | (with_reducible refine LeO.bind ?_ (fun _ => ?_))
      | exact ih0 _ _
      | exact LeO.none _
      | refine LeO.ite ?_ ?_
      | refine LeO.bind ?_ (fun _ => ?_)
set_option maxHeartbeats 8000000 in
set_option maxRecDepth 100000 in
theorem spec_Big_Length.calls (k : Nat) (A0 : Option Addr) (c0 : Nat) (l0 : List Int) (r : Int) (w : World) (hr0 : Kd.C (Kd.int .i64) w A0 l0.length l0) (hc0 : l0.length ≤ c0) (h : spec_Big_Length.f k l0 = some r) :
    Calls Tryd.prog 19 #[.slice A0 l0.length c0] w fun e w' => e = .returned (.int .i64 r) ∧ Drawn0 w w' := by
  have HR0 := Aside0.mk hr0
  have HC0 := Aside0.mk hc0
  clear hr0 hc0
  have H : (spec_Big_Length.l0 k l0 (wrap64 (16 * (l0.length : Int)))) = some r := h
  clear h
  have H' := Aside0.mk H
  clear H
  go_enter Tryd.func19, Tryd.ntmps19
  go_wp2
  go_loopg [3] k (fun kq v3 w' => ∃ (x3_1 : Int), v3 = .int .i64 x3_1 ∧ Aside0 (spec_Big_Length.l0 kq l0 x3_1 = some r) ∧ Aside0 (kq ≤ k) ∧ Drawn0 w w')
  case atStart => exact ⟨(wrap64 (16 * (l0.length : Int))), (by first | rfl | (simp; done) | (simp [*]; done)), H', ⟨Nat.le_refl _⟩, by repeat (first | exact Drawn0.refl _ | apply Drawn0.step)⟩
  case round =>
    clear H'
    try clear c1
    obtain ⟨x3_1, rfl, HA, HK1, ⟨m1, rfl⟩⟩ := hrel
    cases gk with
    | zero => exact absurd HA.out (by simp [spec_Big_Length.l0])
    | succ k1 =>
      have H := HA.out
      clear HA
      simp only [spec_Big_Length.l0] at H
      by_cases c2 : x3_1 > 0
      · rw [if_pos c2] at H
        have c2b0 : decide (0 < x3_1) = true := decide_eq_true c2
        clear c2
        replace H := Option.bind_eq_some_iff.mp H
        obtain ⟨t229, A30, H⟩ := H
        replace H : (if t229 = true then (some x3_1) else (spec_Big_Length.l0 k1 l0 (wrap64 (x3_1 - 1)))) = some r := H
        have A3 := Aside0.mk A30
        clear A30
        by_cases c4 : t229 = true
        · subst c4
          have H1 : (some x3_1) = some r := by rw [if_pos rfl] at H; exact H
          clear H
          have H := H1
          clear H1
          obtain rfl := Option.some.inj H
          go_wp2_with (first | (go_at_call 20; (with_reducible refine (spec_Big_Bit.calls _ _ l0 (wrap64 (x3_1 - 1)) true _ ?side1 ?side2 A3.out).mono ?_); (case side1 => repeat (first | exact HR0.out | (with_reducible refine Kd.C_alloc ?_ _) | (with_reducible refine Kd.C_drewN ?_ _) | (with_reducible refine Kd.C_drew ?_))); (case side2 => exact HC0.out); rintro e w' ⟨rfl, ⟨nd, rfl⟩⟩))
          go_ret
          exact ⟨by first | rfl | (simp; done) | (simp [*]; done), by repeat (first | exact Drawn0.refl _ | apply Drawn0.step)⟩
        · replace c4 := Bool.eq_false_iff.mpr c4
          subst c4
          have H1 : (spec_Big_Length.l0 k1 l0 (wrap64 (x3_1 - 1))) = some r := by rw [if_neg (show ¬ (false = true) by decide)] at H; exact H
          clear H
          have H := H1
          clear H1
          have H' := Aside0.mk H
          clear H
          go_wp2_with (first | (go_at_call 20; (with_reducible refine (spec_Big_Bit.calls _ _ l0 (wrap64 (x3_1 - 1)) false _ ?side1 ?side2 A3.out).mono ?_); (case side1 => repeat (first | exact HR0.out | (with_reducible refine Kd.C_alloc ?_ _) | (with_reducible refine Kd.C_drewN ?_ _) | (with_reducible refine Kd.C_drew ?_))); (case side2 => exact HC0.out); rintro e w' ⟨rfl, ⟨nd, rfl⟩⟩))
          go_roundg k1
          case measure => have := HK1.out; omega
          case rel => exact ⟨(wrap64 (x3_1 - 1)), (by first | rfl | (simp; done) | (simp [*]; done)), H', ⟨by have := HK1.out; omega⟩, by repeat (first | exact Drawn0.refl _ | apply Drawn0.step)⟩
      · rw [if_neg c2] at H
        have c2b0 : decide (0 < x3_1) = false := decide_eq_false c2
        clear c2
        obtain rfl := Option.some.inj H
        go_wp2
        go_ret
        exact ⟨by first | rfl | (simp; done) | (simp [*]; done), by repeat (first | exact Drawn0.refl _ | apply Drawn0.step)⟩
end Go.Proofs.YtiifnofghicnaaaDoor.PAll
