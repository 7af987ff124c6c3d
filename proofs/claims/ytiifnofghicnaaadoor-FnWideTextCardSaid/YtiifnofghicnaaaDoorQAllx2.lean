/- Printed by the kit's print.py, called for several laws at once: functions as plain Lean, and the walks' contracts. -/
import Derived.Test.YtiifnofghicnaaaDoorQAllx0
import Derived.Test.YtiifnofghicnaaaDoorQAllx1
namespace Go.Proofs.YtiifnofghicnaaaDoor.PAll
open Go.RowKit Go.Proofs.YtiifnofghicnaaaDoorW.PrintWords Go.Proofs.YtiifnofghicnaaaDoorW.PrintLast Go.Proofs.YtiifnofghicnaaaDoorW.PrintMore
attribute [local go_sem] max2_int min2_int max_two min_two max_three min_three max_four min_four   -- for this text's walks alone
set_option linter.unusedVariables false
set_option linter.unusedSimpArgs false
/-! ### spec_Divided: function 30 -/
mutual
def spec_Divided.l0 : Nat → List Int → List Int → List Int → List Int → Int → Option (List Int × List Int)
  | 0, _, _, _, _, _ => none
  | k + 1, x0, x1, x4, x5, x7 => if x7 ≥ 0 then ((spec_Plus.f k x5 x5).bind fun t149 => ((spec_Big_Bit.f x0 x7).bind fun t152 => (if t152 = true then ((spec_Plus.f k t149 (([1] : List Int))).bind fun t156 => (spec_Divided.j1 k x0 x1 x4 t156 x7)) else (spec_Divided.j1 k x0 x1 x4 t149 x7)))) else (some (x4, x5))
def spec_Divided.j1 : Nat → List Int → List Int → List Int → List Int → Int → Option (List Int × List Int)
  | 0, _, _, _, _, _ => none
  | k + 1, x0, x1, x4, x5, x7 => (spec_Plus.f k x4 x4).bind fun t159 => ((spec_Compare.f k x5 x1).bind fun t162 => (if t162 ≥ 0 then ((spec_Minus.f k x5 x1).bind fun t163 => ((spec_Plus.f k t159 (([1] : List Int))).bind fun t169 => (spec_Divided.l0 k x0 x1 t169 t163 (wrap64 (x7 - 1))))) else (spec_Divided.l0 k x0 x1 t159 x5 (wrap64 (x7 - 1)))))
end
def spec_Divided.f (k : Nat) (l0 : List Int) (l1 : List Int) : Option (List Int × List Int) := (spec_Big_Length.f k l0).bind fun t148 => (spec_Divided.l0 k l0 l1 ([] : List Int) ([] : List Int) (wrap64 (t148 - 1)))
theorem spec_Divided.mono_l : ∀ k, (∀ y0 y1 y2 y3 y4, LeO (spec_Divided.l0 k y0 y1 y2 y3 y4) (spec_Divided.l0 (k + 1) y0 y1 y2 y3 y4)) ∧ (∀ y0 y1 y2 y3 y4, LeO (spec_Divided.j1 k y0 y1 y2 y3 y4) (spec_Divided.j1 (k + 1) y0 y1 y2 y3 y4))
  | 0 => ⟨fun _ _ _ _ _ r h => by simp [spec_Divided.l0] at h, fun _ _ _ _ _ r h => by simp [spec_Divided.j1] at h⟩
  | k + 1 => by
    obtain ⟨ih0, ih1⟩ := spec_Divided.mono_l k
    refine ⟨?_, ?_⟩
    · intro y0 y1 y2 y3 y4
      unfold spec_Divided.l0
      repeat' first
      | (with_reducible exact ih0 _ _ _ _ _)
      | (with_reducible exact ih1 _ _ _ _ _)
      | (with_reducible exact spec_Big_Length.mono _ _)
      | (with_reducible exact spec_Compare.mono _ _ _)
      | (with_reducible exact spec_Minus.mono _ _ _)
      | (with_reducible exact spec_Plus.mono _ _ _)
      | (with_reducible exact LeO.refl _)
      | (with_reducible exact LeO.none _)
      | (with_reducible refine LeO.ite ?_ ?_)
      | (with_reducible refine LeO.bind ?_ (fun _ => ?_))
      | exact ih0 _ _ _ _ _
      | exact ih1 _ _ _ _ _
      | exact spec_Big_Length.mono _ _
      | exact spec_Compare.mono _ _ _
      | exact spec_Minus.mono _ _ _
      | exact spec_Plus.mono _ _ _
      | exact LeO.none _
      | refine LeO.ite ?_ ?_
      | refine LeO.bind ?_ (fun _ => ?_)
    · intro y0 y1 y2 y3 y4
      unfold spec_Divided.j1
      repeat' first
      | (with_reducible exact ih0 _ _ _ _ _)
      | (with_reducible exact ih1 _ _ _ _ _)
      | (with_reducible exact spec_Big_Length.mono _ _)
      | (with_reducible exact spec_Compare.mono _ _ _)
      | (with_reducible exact spec_Minus.mono _ _ _)
      | (with_reducible exact spec_Plus.mono _ _ _)
      | (with_reducible exact LeO.refl _)
      | (with_reducible exact LeO.none _)
      | (with_reducible refine LeO.ite ?_ ?_)
      | (with_reducible refine LeO.bind ?_ (fun _ => ?_))
      | exact ih0 _ _ _ _ _
      | exact ih1 _ _ _ _ _
      | exact spec_Big_Length.mono _ _
      | exact spec_Compare.mono _ _ _
      | exact spec_Minus.mono _ _ _
      | exact spec_Plus.mono _ _ _
      | exact LeO.none _
      | refine LeO.ite ?_ ?_
      | refine LeO.bind ?_ (fun _ => ?_)
theorem spec_Divided.mono : ∀ a0 a1 k, LeO (spec_Divided.f k a0 a1) (spec_Divided.f (k + 1) a0 a1) := by
  intro a0 a1 k
  obtain ⟨ih0, ih1⟩ := spec_Divided.mono_l k
  unfold spec_Divided.f
  repeat' first
      | (with_reducible exact ih0 _ _ _ _ _)
      | (with_reducible exact ih1 _ _ _ _ _)
      | (with_reducible exact spec_Big_Length.mono _ _)
      | (with_reducible exact spec_Compare.mono _ _ _)
      | (with_reducible exact spec_Minus.mono _ _ _)
      | (with_reducible exact spec_Plus.mono _ _ _)
      | (with_reducible exact LeO.refl _)
      | (with_reducible exact LeO.none _)
      | (with_reducible refine LeO.ite ?_ ?_)
      | (with_reducible refine LeO.bind ?_ (fun _ => ?_))
      | exact ih0 _ _ _ _ _
      | exact ih1 _ _ _ _ _
      | exact spec_Big_Length.mono _ _
      | exact spec_Compare.mono _ _ _
      | exact spec_Minus.mono _ _ _
      | exact spec_Plus.mono _ _ _
      | exact LeO.none _
      | refine LeO.ite ?_ ?_
      | refine LeO.bind ?_ (fun _ => ?_)
set_option maxHeartbeats 8000000 in
set_option maxRecDepth 100000 in
theorem spec_Divided.calls (k : Nat) (A0 : Option Addr) (c0 : Nat) (l0 : List Int) (A1 : Option Addr) (c1 : Nat) (l1 : List Int) (r1 : List Int) (r2 : List Int) (w : World) (hr0 : Kd.C (Kd.int .i64) w A0 l0.length l0) (hc0 : l0.length ≤ c0) (hr1 : Kd.C (Kd.int .i64) w A1 l1.length l1) (hc1 : l1.length ≤ c1) (h : spec_Divided.f k l0 l1 = some (r1, r2)) :
    Calls Tryd.prog 30 #[.slice A0 l0.length c0, .slice A1 l1.length c1] w fun e w' => ∃ v0_ v1_ : Value, e = .returned (.tuple #[v0_, v1_]) ∧ Kd.V (Kd.int .i64) 3 w' w.heap.size (fun k_ => (w.heap.size ≤ k_)) v0_ r1 ∧ Kd.V (Kd.int .i64) 3 w' w.heap.size (fun k_ => (w.heap.size ≤ k_)) v1_ r2 ∧ Below w.heap.size w w' := by
  have HR0 := Aside0.mk hr0
  have HC0 := Aside0.mk hc0
  clear hr0 hc0
  have HR1 := Aside0.mk hr1
  have HC1 := Aside0.mk hc1
  clear hr1 hc1
  have HB := Aside0.mk (Below.refl w.heap.size w)
  have H : ((spec_Big_Length.f k l0).bind fun t148 => (spec_Divided.l0 k l0 l1 ([] : List Int) ([] : List Int) (wrap64 (t148 - 1)))) = some (r1, r2) := h
  clear h
  replace H := Option.bind_eq_some_iff.mp H
  obtain ⟨t148, A30, H⟩ := H
  replace H : (spec_Divided.l0 k l0 l1 ([] : List Int) ([] : List Int) (wrap64 (t148 - 1))) = some (r1, r2) := H
  have A3 := Aside0.mk A30
  clear A30
  have H' := Aside0.mk H
  clear H
  go_enter Tryd.func30, Tryd.ntmps30
  go_wp2_with (first | ((with_reducible refine gate_callee (f := 19) rfl ?_); refine goesL_ (some 9) rfl rfl Tryd.func19 (by kernel_rfl) rfl #[.slice A0 l0.length c0] rfl (by (try simp only [List.map_toArray, List.map_cons, List.map_nil]); first | done | rfl | (simp only [List.length_drop, List.length_take]; rfl)) ?_; (with_reducible refine (spec_Big_Length.calls k _ _ l0 t148 _ ?side1 ?side2 A3.out).mono ?_); (case side1 => repeat (first | exact HR0.out | (with_reducible refine Kd.C_alloc ?_ _) | (with_reducible refine Kd.C_drewN ?_ _) | (with_reducible refine Kd.C_drew ?_))); (case side2 => exact HC0.out); rintro e w' ⟨rfl, ⟨nd, rfl⟩⟩; refine ⟨_, rfl, ?_⟩))
  go_loopg [4, 5, 7] k (fun kq v4 v5 v7 w' => ∃ (x4_1 : List Int) (x5_1 : List Int) (x7_1 : Int), v7 = .int .i64 x7_1 ∧ Aside0 (spec_Divided.l0 kq l0 l1 x4_1 x5_1 x7_1 = some (r1, r2)) ∧ Aside0 (kq ≤ k) ∧ Aside0 (Kd.V (Kd.int .i64) 3 w' w.heap.size (fun k_ => (w.heap.size ≤ k_)) v4 x4_1) ∧ Aside0 (Kd.V (Kd.int .i64) 3 w' w.heap.size (fun k_ => (w.heap.size ≤ k_)) v5 x5_1) ∧ Aside0 (Below w.heap.size w w'))
  case atStart => exact ⟨(([] : List Int)), (([] : List Int)), (wrap64 (t148 - 1)), (by first | rfl | (simp; done) | (simp [*]; done)), H', ⟨Nat.le_refl _⟩, ⟨Kd.V_nil _ _ _ _ _⟩, ⟨Kd.V_nil _ _ _ _ _⟩, ⟨by repeat (first | (with_reducible first | exact HB.out | apply below_alloc | apply pw_below_drewN | apply below_drew1) | exact HB.out)⟩⟩
  case round =>
    clear H'
    try clear c1
    try clear p2
    try clear c3
    obtain ⟨x4_1, x5_1, x7_1, rfl, HA, HK1, HO_4, HO_5, HB⟩ := hrel
    cases gk with
    | zero => exact absurd HA.out (by simp [spec_Divided.l0])
    | succ k1 =>
      have H := HA.out
      clear HA
      simp only [spec_Divided.l0] at H
      by_cases c4 : x7_1 ≥ 0
      · rw [if_pos c4] at H
        have c4b0 : decide (0 ≤ x7_1) = true := decide_eq_true c4
        clear c4
        replace H := Option.bind_eq_some_iff.mp H
        obtain ⟨t149, A50, H⟩ := H
        replace H : ((spec_Big_Bit.f l0 x7_1).bind fun t152 => (if t152 = true then ((spec_Plus.f k1 t149 (([1] : List Int))).bind fun t156 => (spec_Divided.j1 k1 l0 l1 x4_1 t156 x7_1)) else (spec_Divided.j1 k1 l0 l1 x4_1 t149 x7_1))) = some (r1, r2) := H
        have A5 := Aside0.mk A50
        clear A50
        replace H := Option.bind_eq_some_iff.mp H
        obtain ⟨t152, A60, H⟩ := H
        replace H : (if t152 = true then ((spec_Plus.f k1 t149 (([1] : List Int))).bind fun t156 => (spec_Divided.j1 k1 l0 l1 x4_1 t156 x7_1)) else (spec_Divided.j1 k1 l0 l1 x4_1 t149 x7_1)) = some (r1, r2) := H
        have A6 := Aside0.mk A60
        clear A60
        have HC7 := Aside0.mk H
        clear H
        obtain ⟨Ao8, co8, eo8⟩ := Kd.V_slice HO_5.out
        subst eo8
        go_upto_if 21 with (first | ((with_reducible refine gate_callee (f := 61) rfl ?_); refine goesL_ (some 18) rfl rfl Tryd.func61 (by kernel_rfl) rfl #[.slice Ao8 x5_1.length co8, .slice Ao8 x5_1.length co8] rfl (by (try simp only [List.map_toArray, List.map_cons, List.map_nil]); first | done | rfl | (simp only [List.length_drop, List.length_take]; rfl)) ?_; (with_reducible refine (spec_Plus.calls k1 _ _ x5_1 _ _ x5_1 t149 _ ?side1 ?side2 ?side3 ?side4 A5.out).mono ?_); (case side1 => repeat (first | exact (Kd.V_reads' HO_5.out).2.2 | (with_reducible refine Kd.C_alloc ?_ _) | (with_reducible refine Kd.C_drewN ?_ _) | (with_reducible refine Kd.C_drew ?_))); (case side2 => exact (Kd.V_reads' HO_5.out).2.1); (case side3 => repeat (first | exact (Kd.V_reads' HO_5.out).2.2 | (with_reducible refine Kd.C_alloc ?_ _) | (with_reducible refine Kd.C_drewN ?_ _) | (with_reducible refine Kd.C_drew ?_))); (case side4 => exact (Kd.V_reads' HO_5.out).2.1); rintro e w9 ⟨v150, rfl, ho0, hb⟩; refine ⟨_, rfl, ?_⟩; have n0_ := Aside0.mk (Kd.V_below (by (with_reducible repeat (first | apply Kd.V_alloc | apply Kd.V_drewN | apply Kd.V_drew)); exact HO_4.out) hb); have n1_ := Aside0.mk (Kd.V_below (by (with_reducible repeat (first | apply Kd.V_alloc | apply Kd.V_drewN | apply Kd.V_drew)); exact HO_5.out) hb); have n2_ := Aside0.mk (Kd.V_lower (Kd.V_mono (ok' := fun k_ => (w.heap.size ≤ k_)) ho0 (fun k_ hk_ => (Nat.le_trans (below_size (by repeat (first | (with_reducible first | exact HB.out | apply below_alloc | apply pw_below_drewN | apply below_drew1) | exact HB.out))) hk_))) (below_size (by repeat (first | (with_reducible first | exact HB.out | apply below_alloc | apply pw_below_drewN | apply below_drew1) | exact HB.out)))); have n3_ := Aside0.mk (below_step (by repeat (first | (with_reducible first | exact HB.out | apply below_alloc | apply pw_below_drewN | apply below_drew1) | exact HB.out)) hb); clear HO_4; clear HO_5; clear HB; have HO_4 := n0_; have HO_5 := n1_; have HO151 := n2_; have HB := n3_; clear n0_ n1_ n2_ n3_; (try clear hb); (try clear hb2); (try clear hk); (try clear hi); (try clear ho0)) | ((with_reducible refine gate_callee (f := 20) rfl ?_); refine goesL_ (some 21) rfl rfl Tryd.func20 (by kernel_rfl) rfl #[.slice A0 l0.length c0, .int .i64 x7_1] rfl (by (try simp only [List.map_toArray, List.map_cons, List.map_nil]); first | done | rfl | (simp only [List.length_drop, List.length_take]; rfl)) ?_; (with_reducible refine (spec_Big_Bit.calls _ _ l0 x7_1 t152 _ ?side1 ?side2 A6.out).mono ?_); (case side1 => repeat (first | exact (Kd.C_below HR0.out HB.out) | (with_reducible refine Kd.C_alloc ?_ _) | (with_reducible refine Kd.C_drewN ?_ _) | (with_reducible refine Kd.C_drew ?_))); (case side2 => exact HC0.out); rintro e w' ⟨rfl, ⟨nd, rfl⟩⟩; refine ⟨_, rfl, ?_⟩))
        (try simp only [Act.put, List.setIfInBounds_toArray, List.set_cons_zero, List.set_cons_succ])
        go_cut [5] (fun v5 wc => ∃ (kq : Nat) (x5_6 : List Int), Aside0 (spec_Divided.j1 kq l0 l1 x4_1 x5_6 x7_1 = some (r1, r2)) ∧ Aside0 (kq ≤ k1) ∧ Aside0 (Kd.V (Kd.int .i64) 3 wc w.heap.size (fun k_ => (w.heap.size ≤ k_)) u4 x4_1) ∧ Aside0 (Kd.V (Kd.int .i64) 3 wc w.heap.size (fun k_ => (w.heap.size ≤ k_)) v5 x5_6) ∧ Aside0 (Below w.heap.size w wc))
        case first =>
          have H := HC7.out
          clear HC7
          by_cases c10 : t152 = true
          · subst c10
            have H1 : ((spec_Plus.f k1 t149 (([1] : List Int))).bind fun t156 => (spec_Divided.j1 k1 l0 l1 x4_1 t156 x7_1)) = some (r1, r2) := by rw [if_pos rfl] at H; exact H
            clear H
            have H := H1
            clear H1
            obtain ⟨y153, hy153⟩ : ∃ y_ : List Int, y_ = (([1] : List Int)) := ⟨_, rfl⟩
            replace H : ((spec_Plus.f k1 t149 y153).bind fun t156 => (spec_Divided.j1 k1 l0 l1 x4_1 t156 x7_1)) = some (r1, r2) := by first | (rw [hy153]; with_reducible exact H) | (have H2_ := (Option.bind_some _ _).symm.trans H; rw [hy153]; with_reducible exact H2_) | (have H2_ := (Option.bind_some _ _).symm.trans H; with_reducible exact H2_) | with_reducible exact H | (rw [hy153]; exact H) | exact H
            have Ny153 := Aside0.mk hy153
            clear hy153
            replace H := Option.bind_eq_some_iff.mp H
            obtain ⟨t156, A110, H⟩ := H
            replace H : (spec_Divided.j1 k1 l0 l1 x4_1 t156 x7_1) = some (r1, r2) := H
            have A11 := Aside0.mk A110
            clear A110
            have H' := Aside0.mk H
            clear H
            go_wp2_with (first | ((with_reducible refine gate_dst (N := 23) rfl ?_); refine Kd.R_lit (Kd.int .i64) _ 3 ?hg (N := 23) ?hd (xs := ([1] : List Int)) (inner := [.int .i64 1]) (ok := fun _ => True) (okp := fun _ => True) ?hr ?hp (fun _ hk => hk) trivial (Below.refl _ _) (Nat.le_refl _) (by simp) ?_; (case hd => rfl); (case hg => rfl); (case hr => first | (go_simp; done) | (go_simp; rfl)); (case hp => exact (Reps.one (show Kd.M (Kd.int .i64) _ _ _ 1 [.int .i64 1] from rfl) (Reps.none _ _))); intro v154 w12 ho13 hb hg_ hnew_; clear hg_ hnew_; (first | rw [← Ny153.out] at ho13 | (simp only [Int.reduceToNat] at ho13; rw [← Ny153.out] at ho13)); have n0_ := Aside0.mk (Kd.V_elder' (by (with_reducible repeat (first | apply Kd.V_alloc | apply Kd.V_drewN | apply Kd.V_drew)); exact HO_4.out) (Kd.R_base ho13) hb); have n1_ := Aside0.mk (Kd.V_elder' (by (with_reducible repeat (first | apply Kd.V_alloc | apply Kd.V_drewN | apply Kd.V_drew)); exact HO_5.out) (Kd.R_base ho13) hb); have n2_ := Aside0.mk (Kd.V_elder' (by (with_reducible repeat (first | apply Kd.V_alloc | apply Kd.V_drewN | apply Kd.V_drew)); exact HO151.out) (Kd.R_base ho13) hb); have n3_ := Aside0.mk (Kd.R_lower (Kd.R_newM (M := fun k_ => (w.heap.size ≤ k_)) ho13 (below_size (by repeat (first | (with_reducible first | exact HB.out | apply below_alloc | apply pw_below_drewN | apply below_drew1) | exact HB.out))) (fun k_ h_ => h_)) (below_size (by repeat (first | (with_reducible first | exact HB.out | apply below_alloc | apply pw_below_drewN | apply below_drew1) | exact HB.out)))); have n4_ := Aside0.mk (below_step (by repeat (first | (with_reducible first | exact HB.out | apply below_alloc | apply pw_below_drewN | apply below_drew1) | exact HB.out)) hb); clear HO_4; clear HO_5; clear HO151; clear HB; have HO_4 := n0_; have HO_5 := n1_; have HO151 := n2_; have HO155 := n3_; have HB := n4_; clear n0_ n1_ n2_ n3_ n4_; clear hb ho13; obtain ⟨Ao14, co14, eo14⟩ := Kd.V_slice HO151.out; subst eo14; obtain ⟨Ao15, co15, eo15⟩ := Kd.R_slice HO155.out; subst eo15) | ((with_reducible refine gate_callee (f := 61) rfl ?_); refine goesL_ (some 24) rfl rfl Tryd.func61 (by kernel_rfl) rfl #[.slice Ao14 t149.length co14, .slice Ao15 y153.length co15] rfl (by (try simp only [List.map_toArray, List.map_cons, List.map_nil]); first | done | rfl | (simp only [List.length_drop, List.length_take]; rfl)) ?_; (with_reducible refine (spec_Plus.calls k1 _ _ t149 _ _ y153 t156 _ ?side1 ?side2 ?side3 ?side4 A11.out).mono ?_); (case side1 => repeat (first | exact (Kd.V_reads' HO151.out).2.2 | (with_reducible refine Kd.C_alloc ?_ _) | (with_reducible refine Kd.C_drewN ?_ _) | (with_reducible refine Kd.C_drew ?_))); (case side2 => exact (Kd.V_reads' HO151.out).2.1); (case side3 => repeat (first | exact (Kd.R_reads' HO155.out).2.2 | (with_reducible refine Kd.C_alloc ?_ _) | (with_reducible refine Kd.C_drewN ?_ _) | (with_reducible refine Kd.C_drew ?_))); (case side4 => exact (Kd.R_reads' HO155.out).2.1); rintro e w16 ⟨v157, rfl, ho0, hb⟩; refine ⟨_, rfl, ?_⟩; have n0_ := Aside0.mk (Kd.V_below (by (with_reducible repeat (first | apply Kd.V_alloc | apply Kd.V_drewN | apply Kd.V_drew)); exact HO_4.out) hb); have n1_ := Aside0.mk (Kd.V_below (by (with_reducible repeat (first | apply Kd.V_alloc | apply Kd.V_drewN | apply Kd.V_drew)); exact HO_5.out) hb); have n2_ := Aside0.mk (Kd.V_below (by (with_reducible repeat (first | apply Kd.V_alloc | apply Kd.V_drewN | apply Kd.V_drew)); exact HO151.out) hb); have n3_ := Aside0.mk (Kd.R_below (by (with_reducible repeat (first | apply Kd.R_alloc | apply Kd.R_drewN | apply Kd.R_drew)); exact HO155.out) hb); have n4_ := Aside0.mk (Kd.V_lower (Kd.V_mono (ok' := fun k_ => (w.heap.size ≤ k_) ∧ some k_ ≠ (.slice Ao15 y153.length co15 : Value).ownBlock) ho0 (fun k_ hk_ => ⟨(Nat.le_trans (below_size (by repeat (first | (with_reducible first | exact HB.out | apply below_alloc | apply pw_below_drewN | apply below_drew1) | exact HB.out))) hk_), (Kd.fresh' (Kd.R_lt (by (with_reducible repeat (first | apply Kd.R_alloc | apply Kd.R_drewN | apply Kd.R_drew)); exact HO155.out)) k_ hk_)⟩)) (below_size (by repeat (first | (with_reducible first | exact HB.out | apply below_alloc | apply pw_below_drewN | apply below_drew1) | exact HB.out)))); have n5_ := Aside0.mk (below_step (by repeat (first | (with_reducible first | exact HB.out | apply below_alloc | apply pw_below_drewN | apply below_drew1) | exact HB.out)) hb); clear HO_4; clear HO_5; clear HO151; clear HO155; clear HB; have HO_4 := n0_; have HO_5 := n1_; have HO151 := n2_; have HO155 := n3_; have HO158 := n4_; have HB := n5_; clear n0_ n1_ n2_ n3_ n4_ n5_; (try clear hb); (try clear hb2); (try clear hk); (try clear hi); (try clear ho0)))
            go_meet
            case rel => exact ⟨_, (t156), H', ⟨by have := HK1.out; first | omega | exact Nat.le_refl _⟩, ⟨by (with_reducible repeat (first | apply Kd.V_alloc | apply Kd.V_drewN | apply Kd.V_drew)); exact Kd.V_mono HO_4.out (fun _ hk => hk.1)⟩, ⟨by (with_reducible repeat (first | apply Kd.V_alloc | apply Kd.V_drewN | apply Kd.V_drew)); exact Kd.V_mono HO158.out (fun _ hk => hk.1)⟩, ⟨by repeat (first | (with_reducible first | exact HB.out | apply below_alloc | apply pw_below_drewN | apply below_drew1) | exact HB.out)⟩⟩
          · replace c10 := Bool.eq_false_iff.mpr c10
            subst c10
            have H1 : (spec_Divided.j1 k1 l0 l1 x4_1 t149 x7_1) = some (r1, r2) := by rw [if_neg (show ¬ (false = true) by decide)] at H; exact H
            clear H
            have H := H1
            clear H1
            have H' := Aside0.mk H
            clear H
            go_wp2
            go_meet
            case rel => exact ⟨_, (t149), H', ⟨by have := HK1.out; first | omega | exact Nat.le_refl _⟩, ⟨by (with_reducible repeat (first | apply Kd.V_alloc | apply Kd.V_drewN | apply Kd.V_drew)); exact HO_4.out⟩, ⟨by (with_reducible repeat (first | apply Kd.V_alloc | apply Kd.V_drewN | apply Kd.V_drew)); exact HO151.out⟩, ⟨by repeat (first | (with_reducible first | exact HB.out | apply below_alloc | apply pw_below_drewN | apply below_drew1) | exact HB.out)⟩⟩
        case rest =>
          clear HC7
          try clear c1
          try clear c2
          try clear p2
          try clear c3
          try clear c4
          try clear c4b0
          try clear c6
          try clear p6
          try clear c10
          try clear p2
          obtain ⟨kq, x5_6, HA, HJ6, HO_4, HO_5, HB⟩ := hcut
          cases kq with
          | zero => exact absurd HA.out (by simp [spec_Divided.j1])
          | succ kj6 =>
            have H := HA.out
            clear HA
            simp only [spec_Divided.j1] at H
            replace H := Option.bind_eq_some_iff.mp H
            obtain ⟨t159, A170, H⟩ := H
            replace H : ((spec_Compare.f kj6 x5_6 l1).bind fun t162 => (if t162 ≥ 0 then ((spec_Minus.f kj6 x5_6 l1).bind fun t163 => ((spec_Plus.f kj6 t159 (([1] : List Int))).bind fun t169 => (spec_Divided.l0 kj6 l0 l1 t169 t163 (wrap64 (x7_1 - 1))))) else (spec_Divided.l0 kj6 l0 l1 t159 x5_6 (wrap64 (x7_1 - 1))))) = some (r1, r2) := H
            have A17 := Aside0.mk A170
            clear A170
            replace H := Option.bind_eq_some_iff.mp H
            obtain ⟨t162, A180, H⟩ := H
            replace H : (if t162 ≥ 0 then ((spec_Minus.f kj6 x5_6 l1).bind fun t163 => ((spec_Plus.f kj6 t159 (([1] : List Int))).bind fun t169 => (spec_Divided.l0 kj6 l0 l1 t169 t163 (wrap64 (x7_1 - 1))))) else (spec_Divided.l0 kj6 l0 l1 t159 x5_6 (wrap64 (x7_1 - 1)))) = some (r1, r2) := H
            have A18 := Aside0.mk A180
            clear A180
            by_cases c19 : t162 ≥ 0
            · rw [if_pos c19] at H
              have c19b0 : decide (0 ≤ t162) = true := decide_eq_true c19
              clear c19
              replace H := Option.bind_eq_some_iff.mp H
              obtain ⟨t163, A200, H⟩ := H
              replace H : ((spec_Plus.f kj6 t159 (([1] : List Int))).bind fun t169 => (spec_Divided.l0 kj6 l0 l1 t169 t163 (wrap64 (x7_1 - 1)))) = some (r1, r2) := H
              have A20 := Aside0.mk A200
              clear A200
              obtain ⟨y166, hy166⟩ : ∃ y_ : List Int, y_ = (([1] : List Int)) := ⟨_, rfl⟩
              replace H : ((spec_Plus.f kj6 t159 y166).bind fun t169 => (spec_Divided.l0 kj6 l0 l1 t169 t163 (wrap64 (x7_1 - 1)))) = some (r1, r2) := by first | (rw [hy166]; with_reducible exact H) | (have H2_ := (Option.bind_some _ _).symm.trans H; rw [hy166]; with_reducible exact H2_) | (have H2_ := (Option.bind_some _ _).symm.trans H; with_reducible exact H2_) | with_reducible exact H | (rw [hy166]; exact H) | exact H
              have Ny166 := Aside0.mk hy166
              clear hy166
              replace H := Option.bind_eq_some_iff.mp H
              obtain ⟨t169, A210, H⟩ := H
              replace H : (spec_Divided.l0 kj6 l0 l1 t169 t163 (wrap64 (x7_1 - 1))) = some (r1, r2) := H
              have A21 := Aside0.mk A210
              clear A210
              have H' := Aside0.mk H
              clear H
              obtain ⟨Ao22, co22, eo22⟩ := Kd.V_slice HO_4.out
              subst eo22
              go_wp2_with (first | ((with_reducible refine gate_callee (f := 61) rfl ?_); refine goesL_ (some 27) rfl rfl Tryd.func61 (by kernel_rfl) rfl #[.slice Ao22 x4_1.length co22, .slice Ao22 x4_1.length co22] rfl (by (try simp only [List.map_toArray, List.map_cons, List.map_nil]); first | done | rfl | (simp only [List.length_drop, List.length_take]; rfl)) ?_; (with_reducible refine (spec_Plus.calls kj6 _ _ x4_1 _ _ x4_1 t159 _ ?side1 ?side2 ?side3 ?side4 A17.out).mono ?_); (case side1 => repeat (first | exact (Kd.V_reads' HO_4.out).2.2 | (with_reducible refine Kd.C_alloc ?_ _) | (with_reducible refine Kd.C_drewN ?_ _) | (with_reducible refine Kd.C_drew ?_))); (case side2 => exact (Kd.V_reads' HO_4.out).2.1); (case side3 => repeat (first | exact (Kd.V_reads' HO_4.out).2.2 | (with_reducible refine Kd.C_alloc ?_ _) | (with_reducible refine Kd.C_drewN ?_ _) | (with_reducible refine Kd.C_drew ?_))); (case side4 => exact (Kd.V_reads' HO_4.out).2.1); rintro e w23 ⟨v160, rfl, ho0, hb⟩; refine ⟨_, rfl, ?_⟩; have n0_ := Aside0.mk (Kd.V_below (by (with_reducible repeat (first | apply Kd.V_alloc | apply Kd.V_drewN | apply Kd.V_drew)); exact HO_4.out) hb); have n1_ := Aside0.mk (Kd.V_below (by (with_reducible repeat (first | apply Kd.V_alloc | apply Kd.V_drewN | apply Kd.V_drew)); exact HO_5.out) hb); have n2_ := Aside0.mk (Kd.V_lower (Kd.V_mono (ok' := fun k_ => (w.heap.size ≤ k_)) ho0 (fun k_ hk_ => (Nat.le_trans (below_size (by repeat (first | (with_reducible first | exact HB.out | apply below_alloc | apply pw_below_drewN | apply below_drew1) | exact HB.out))) hk_))) (below_size (by repeat (first | (with_reducible first | exact HB.out | apply below_alloc | apply pw_below_drewN | apply below_drew1) | exact HB.out)))); have n3_ := Aside0.mk (below_step (by repeat (first | (with_reducible first | exact HB.out | apply below_alloc | apply pw_below_drewN | apply below_drew1) | exact HB.out)) hb); clear HO_4; clear HO_5; clear HB; have HO_4 := n0_; have HO_5 := n1_; have HO161 := n2_; have HB := n3_; clear n0_ n1_ n2_ n3_; (try clear hb); (try clear hb2); (try clear hk); (try clear hi); (try clear ho0); obtain ⟨Ao24, co24, eo24⟩ := Kd.V_slice HO_5.out; subst eo24) | ((with_reducible refine gate_callee (f := 62) rfl ?_); refine goesL_ (some 30) rfl rfl Tryd.func62 (by kernel_rfl) rfl #[.slice Ao24 x5_6.length co24, .slice A1 l1.length c1] rfl (by (try simp only [List.map_toArray, List.map_cons, List.map_nil]); first | done | rfl | (simp only [List.length_drop, List.length_take]; rfl)) ?_; (with_reducible refine (spec_Compare.calls kj6 _ _ x5_6 _ _ l1 t162 _ ?side1 ?side2 ?side3 ?side4 A18.out).mono ?_); (case side1 => repeat (first | exact (Kd.V_reads' HO_5.out).2.2 | (with_reducible refine Kd.C_alloc ?_ _) | (with_reducible refine Kd.C_drewN ?_ _) | (with_reducible refine Kd.C_drew ?_))); (case side2 => exact (Kd.V_reads' HO_5.out).2.1); (case side3 => repeat (first | exact (Kd.C_below HR1.out HB.out) | (with_reducible refine Kd.C_alloc ?_ _) | (with_reducible refine Kd.C_drewN ?_ _) | (with_reducible refine Kd.C_drew ?_))); (case side4 => exact HC1.out); rintro e w' ⟨rfl, ⟨nd, rfl⟩⟩; refine ⟨_, rfl, ?_⟩) | ((with_reducible refine gate_callee (f := 16) rfl ?_); refine goesL_ (some 34) rfl rfl Tryd.func16 (by kernel_rfl) rfl #[.slice Ao24 x5_6.length co24, .slice A1 l1.length c1] rfl (by (try simp only [List.map_toArray, List.map_cons, List.map_nil]); first | done | rfl | (simp only [List.length_drop, List.length_take]; rfl)) ?_; (with_reducible refine (spec_Minus.calls kj6 _ _ x5_6 _ _ l1 t163 _ ?side1 ?side2 ?side3 ?side4 A20.out).mono ?_); (case side1 => repeat (first | exact (Kd.V_reads' HO_5.out).2.2 | (with_reducible refine Kd.C_alloc ?_ _) | (with_reducible refine Kd.C_drewN ?_ _) | (with_reducible refine Kd.C_drew ?_))); (case side2 => exact (Kd.V_reads' HO_5.out).2.1); (case side3 => repeat (first | exact (Kd.C_below HR1.out (by repeat (first | (with_reducible first | exact HB.out | apply below_alloc | apply pw_below_drewN | apply below_drew1) | exact HB.out))) | (with_reducible refine Kd.C_alloc ?_ _) | (with_reducible refine Kd.C_drewN ?_ _) | (with_reducible refine Kd.C_drew ?_))); (case side4 => exact HC1.out); rintro e w25 ⟨v164, rfl, ho0, hb⟩; refine ⟨_, rfl, ?_⟩; have n0_ := Aside0.mk (Kd.V_below (by (with_reducible repeat (first | apply Kd.V_alloc | apply Kd.V_drewN | apply Kd.V_drew)); exact HO_4.out) hb); have n1_ := Aside0.mk (Kd.V_below (by (with_reducible repeat (first | apply Kd.V_alloc | apply Kd.V_drewN | apply Kd.V_drew)); exact HO_5.out) hb); have n2_ := Aside0.mk (Kd.V_below (by (with_reducible repeat (first | apply Kd.V_alloc | apply Kd.V_drewN | apply Kd.V_drew)); exact HO161.out) hb); have n3_ := Aside0.mk (Kd.V_lower (Kd.V_mono (ok' := fun k_ => (w.heap.size ≤ k_)) ho0 (fun k_ hk_ => (Nat.le_trans (below_size (by repeat (first | (with_reducible first | exact HB.out | apply below_alloc | apply pw_below_drewN | apply below_drew1) | exact HB.out))) hk_))) (below_size (by repeat (first | (with_reducible first | exact HB.out | apply below_alloc | apply pw_below_drewN | apply below_drew1) | exact HB.out)))); have n4_ := Aside0.mk (below_step (by repeat (first | (with_reducible first | exact HB.out | apply below_alloc | apply pw_below_drewN | apply below_drew1) | exact HB.out)) hb); clear HO_4; clear HO_5; clear HO161; clear HB; have HO_4 := n0_; have HO_5 := n1_; have HO161 := n2_; have HO165 := n3_; have HB := n4_; clear n0_ n1_ n2_ n3_ n4_; (try clear hb); (try clear hb2); (try clear hk); (try clear hi); (try clear ho0)) | ((with_reducible refine gate_dst (N := 36) rfl ?_); refine Kd.R_lit (Kd.int .i64) _ 3 ?hg (N := 36) ?hd (xs := ([1] : List Int)) (inner := [.int .i64 1]) (ok := fun _ => True) (okp := fun _ => True) ?hr ?hp (fun _ hk => hk) trivial (Below.refl _ _) (Nat.le_refl _) (by simp) ?_; (case hd => rfl); (case hg => rfl); (case hr => first | (go_simp; done) | (go_simp; rfl)); (case hp => exact (Reps.one (show Kd.M (Kd.int .i64) _ _ _ 1 [.int .i64 1] from rfl) (Reps.none _ _))); intro v167 w26 ho27 hb hg_ hnew_; clear hg_ hnew_; (first | rw [← Ny166.out] at ho27 | (simp only [Int.reduceToNat] at ho27; rw [← Ny166.out] at ho27)); have n0_ := Aside0.mk (Kd.V_elder' (by (with_reducible repeat (first | apply Kd.V_alloc | apply Kd.V_drewN | apply Kd.V_drew)); exact HO_4.out) (Kd.R_base ho27) hb); have n1_ := Aside0.mk (Kd.V_elder' (by (with_reducible repeat (first | apply Kd.V_alloc | apply Kd.V_drewN | apply Kd.V_drew)); exact HO_5.out) (Kd.R_base ho27) hb); have n2_ := Aside0.mk (Kd.V_elder' (by (with_reducible repeat (first | apply Kd.V_alloc | apply Kd.V_drewN | apply Kd.V_drew)); exact HO161.out) (Kd.R_base ho27) hb); have n3_ := Aside0.mk (Kd.V_elder' (by (with_reducible repeat (first | apply Kd.V_alloc | apply Kd.V_drewN | apply Kd.V_drew)); exact HO165.out) (Kd.R_base ho27) hb); have n4_ := Aside0.mk (Kd.R_lower (Kd.R_newM (M := fun k_ => (w.heap.size ≤ k_)) ho27 (below_size (by repeat (first | (with_reducible first | exact HB.out | apply below_alloc | apply pw_below_drewN | apply below_drew1) | exact HB.out))) (fun k_ h_ => h_)) (below_size (by repeat (first | (with_reducible first | exact HB.out | apply below_alloc | apply pw_below_drewN | apply below_drew1) | exact HB.out)))); have n5_ := Aside0.mk (below_step (by repeat (first | (with_reducible first | exact HB.out | apply below_alloc | apply pw_below_drewN | apply below_drew1) | exact HB.out)) hb); clear HO_4; clear HO_5; clear HO161; clear HO165; clear HB; have HO_4 := n0_; have HO_5 := n1_; have HO161 := n2_; have HO165 := n3_; have HO168 := n4_; have HB := n5_; clear n0_ n1_ n2_ n3_ n4_ n5_; clear hb ho27; obtain ⟨Ao28, co28, eo28⟩ := Kd.V_slice HO161.out; subst eo28; obtain ⟨Ao29, co29, eo29⟩ := Kd.R_slice HO168.out; subst eo29) | ((with_reducible refine gate_callee (f := 61) rfl ?_); refine goesL_ (some 37) rfl rfl Tryd.func61 (by kernel_rfl) rfl #[.slice Ao28 t159.length co28, .slice Ao29 y166.length co29] rfl (by (try simp only [List.map_toArray, List.map_cons, List.map_nil]); first | done | rfl | (simp only [List.length_drop, List.length_take]; rfl)) ?_; (with_reducible refine (spec_Plus.calls kj6 _ _ t159 _ _ y166 t169 _ ?side1 ?side2 ?side3 ?side4 A21.out).mono ?_); (case side1 => repeat (first | exact (Kd.V_reads' HO161.out).2.2 | (with_reducible refine Kd.C_alloc ?_ _) | (with_reducible refine Kd.C_drewN ?_ _) | (with_reducible refine Kd.C_drew ?_))); (case side2 => exact (Kd.V_reads' HO161.out).2.1); (case side3 => repeat (first | exact (Kd.R_reads' HO168.out).2.2 | (with_reducible refine Kd.C_alloc ?_ _) | (with_reducible refine Kd.C_drewN ?_ _) | (with_reducible refine Kd.C_drew ?_))); (case side4 => exact (Kd.R_reads' HO168.out).2.1); rintro e w30 ⟨v170, rfl, ho0, hb⟩; refine ⟨_, rfl, ?_⟩; have n0_ := Aside0.mk (Kd.V_below (by (with_reducible repeat (first | apply Kd.V_alloc | apply Kd.V_drewN | apply Kd.V_drew)); exact HO_4.out) hb); have n1_ := Aside0.mk (Kd.V_below (by (with_reducible repeat (first | apply Kd.V_alloc | apply Kd.V_drewN | apply Kd.V_drew)); exact HO_5.out) hb); have n2_ := Aside0.mk (Kd.V_below (by (with_reducible repeat (first | apply Kd.V_alloc | apply Kd.V_drewN | apply Kd.V_drew)); exact HO161.out) hb); have n3_ := Aside0.mk (Kd.V_below (by (with_reducible repeat (first | apply Kd.V_alloc | apply Kd.V_drewN | apply Kd.V_drew)); exact HO165.out) hb); have n4_ := Aside0.mk (Kd.R_below (by (with_reducible repeat (first | apply Kd.R_alloc | apply Kd.R_drewN | apply Kd.R_drew)); exact HO168.out) hb); have n5_ := Aside0.mk (Kd.V_lower (Kd.V_mono (ok' := fun k_ => (w.heap.size ≤ k_) ∧ some k_ ≠ (.slice Ao29 y166.length co29 : Value).ownBlock) ho0 (fun k_ hk_ => ⟨(Nat.le_trans (below_size (by repeat (first | (with_reducible first | exact HB.out | apply below_alloc | apply pw_below_drewN | apply below_drew1) | exact HB.out))) hk_), (Kd.fresh' (Kd.R_lt (by (with_reducible repeat (first | apply Kd.R_alloc | apply Kd.R_drewN | apply Kd.R_drew)); exact HO168.out)) k_ hk_)⟩)) (below_size (by repeat (first | (with_reducible first | exact HB.out | apply below_alloc | apply pw_below_drewN | apply below_drew1) | exact HB.out)))); have n6_ := Aside0.mk (below_step (by repeat (first | (with_reducible first | exact HB.out | apply below_alloc | apply pw_below_drewN | apply below_drew1) | exact HB.out)) hb); clear HO_4; clear HO_5; clear HO161; clear HO165; clear HO168; clear HB; have HO_4 := n0_; have HO_5 := n1_; have HO161 := n2_; have HO165 := n3_; have HO168 := n4_; have HO171 := n5_; have HB := n6_; clear n0_ n1_ n2_ n3_ n4_ n5_ n6_; (try clear hb); (try clear hb2); (try clear hk); (try clear hi); (try clear ho0)))
              go_roundg kj6
              case measure => have := HK1.out; have := HJ6.out; omega
              case rel => exact ⟨(t169), (t163), (wrap64 (x7_1 - 1)), (by first | rfl | (simp; done) | (simp [*]; done)), H', ⟨by have := HK1.out; have := HJ6.out; omega⟩, ⟨by (with_reducible repeat (first | apply Kd.V_alloc | apply Kd.V_drewN | apply Kd.V_drew)); exact Kd.V_mono HO171.out (fun _ hk => hk.1)⟩, ⟨by (with_reducible repeat (first | apply Kd.V_alloc | apply Kd.V_drewN | apply Kd.V_drew)); exact Kd.V_mono HO165.out (fun _ hk => hk.1)⟩, ⟨by repeat (first | (with_reducible first | exact HB.out | apply below_alloc | apply pw_below_drewN | apply below_drew1) | exact HB.out)⟩⟩
            · rw [if_neg c19] at H
              have c19b0 : decide (0 ≤ t162) = false := decide_eq_false c19
              clear c19
              have H' := Aside0.mk H
              clear H
              obtain ⟨Ao31, co31, eo31⟩ := Kd.V_slice HO_4.out
              subst eo31
              go_wp2_with (first | ((with_reducible refine gate_callee (f := 61) rfl ?_); refine goesL_ (some 27) rfl rfl Tryd.func61 (by kernel_rfl) rfl #[.slice Ao31 x4_1.length co31, .slice Ao31 x4_1.length co31] rfl (by (try simp only [List.map_toArray, List.map_cons, List.map_nil]); first | done | rfl | (simp only [List.length_drop, List.length_take]; rfl)) ?_; (with_reducible refine (spec_Plus.calls kj6 _ _ x4_1 _ _ x4_1 t159 _ ?side1 ?side2 ?side3 ?side4 A17.out).mono ?_); (case side1 => repeat (first | exact (Kd.V_reads' HO_4.out).2.2 | (with_reducible refine Kd.C_alloc ?_ _) | (with_reducible refine Kd.C_drewN ?_ _) | (with_reducible refine Kd.C_drew ?_))); (case side2 => exact (Kd.V_reads' HO_4.out).2.1); (case side3 => repeat (first | exact (Kd.V_reads' HO_4.out).2.2 | (with_reducible refine Kd.C_alloc ?_ _) | (with_reducible refine Kd.C_drewN ?_ _) | (with_reducible refine Kd.C_drew ?_))); (case side4 => exact (Kd.V_reads' HO_4.out).2.1); rintro e w32 ⟨v160, rfl, ho0, hb⟩; refine ⟨_, rfl, ?_⟩; have n0_ := Aside0.mk (Kd.V_below (by (with_reducible repeat (first | apply Kd.V_alloc | apply Kd.V_drewN | apply Kd.V_drew)); exact HO_4.out) hb); have n1_ := Aside0.mk (Kd.V_below (by (with_reducible repeat (first | apply Kd.V_alloc | apply Kd.V_drewN | apply Kd.V_drew)); exact HO_5.out) hb); have n2_ := Aside0.mk (Kd.V_lower (Kd.V_mono (ok' := fun k_ => (w.heap.size ≤ k_)) ho0 (fun k_ hk_ => (Nat.le_trans (below_size (by repeat (first | (with_reducible first | exact HB.out | apply below_alloc | apply pw_below_drewN | apply below_drew1) | exact HB.out))) hk_))) (below_size (by repeat (first | (with_reducible first | exact HB.out | apply below_alloc | apply pw_below_drewN | apply below_drew1) | exact HB.out)))); have n3_ := Aside0.mk (below_step (by repeat (first | (with_reducible first | exact HB.out | apply below_alloc | apply pw_below_drewN | apply below_drew1) | exact HB.out)) hb); clear HO_4; clear HO_5; clear HB; have HO_4 := n0_; have HO_5 := n1_; have HO161 := n2_; have HB := n3_; clear n0_ n1_ n2_ n3_; (try clear hb); (try clear hb2); (try clear hk); (try clear hi); (try clear ho0); obtain ⟨Ao33, co33, eo33⟩ := Kd.V_slice HO_5.out; subst eo33) | ((with_reducible refine gate_callee (f := 62) rfl ?_); refine goesL_ (some 30) rfl rfl Tryd.func62 (by kernel_rfl) rfl #[.slice Ao33 x5_6.length co33, .slice A1 l1.length c1] rfl (by (try simp only [List.map_toArray, List.map_cons, List.map_nil]); first | done | rfl | (simp only [List.length_drop, List.length_take]; rfl)) ?_; (with_reducible refine (spec_Compare.calls kj6 _ _ x5_6 _ _ l1 t162 _ ?side1 ?side2 ?side3 ?side4 A18.out).mono ?_); (case side1 => repeat (first | exact (Kd.V_reads' HO_5.out).2.2 | (with_reducible refine Kd.C_alloc ?_ _) | (with_reducible refine Kd.C_drewN ?_ _) | (with_reducible refine Kd.C_drew ?_))); (case side2 => exact (Kd.V_reads' HO_5.out).2.1); (case side3 => repeat (first | exact (Kd.C_below HR1.out HB.out) | (with_reducible refine Kd.C_alloc ?_ _) | (with_reducible refine Kd.C_drewN ?_ _) | (with_reducible refine Kd.C_drew ?_))); (case side4 => exact HC1.out); rintro e w' ⟨rfl, ⟨nd, rfl⟩⟩; refine ⟨_, rfl, ?_⟩))
              go_roundg kj6
              case measure => have := HK1.out; have := HJ6.out; omega
              case rel => exact ⟨(t159), (x5_6), (wrap64 (x7_1 - 1)), (by first | rfl | (simp; done) | (simp [*]; done)), H', ⟨by have := HK1.out; have := HJ6.out; omega⟩, ⟨by (with_reducible repeat (first | apply Kd.V_alloc | apply Kd.V_drewN | apply Kd.V_drew)); exact HO161.out⟩, ⟨by (with_reducible repeat (first | apply Kd.V_alloc | apply Kd.V_drewN | apply Kd.V_drew)); exact HO_5.out⟩, ⟨by repeat (first | (with_reducible first | exact HB.out | apply below_alloc | apply pw_below_drewN | apply below_drew1) | exact HB.out)⟩⟩
      · rw [if_neg c4] at H
        have c4b0 : decide (0 ≤ x7_1) = false := decide_eq_false c4
        clear c4
        simp only [Option.some.injEq, Prod.mk.injEq] at H
        obtain ⟨rfl, rfl⟩ := H
        go_wp2
        go_ret2
        exact ⟨_, _, by first | rfl | (simp [errW_none, errW_some] <;> rfl) | (simp [*, errW_none, errW_some] <;> rfl), by (with_reducible repeat (first | apply Kd.V_alloc | apply Kd.V_drewN | apply Kd.V_drew)); exact HO_4.out, by (with_reducible repeat (first | apply Kd.V_alloc | apply Kd.V_drewN | apply Kd.V_drew)); exact HO_5.out, by repeat (first | (with_reducible first | exact HB.out | apply below_alloc | apply pw_below_drewN | apply below_drew1) | exact HB.out)⟩
-- NOT PRINTED: function 26 (spec_Digits)
/-! ### spec_OfBits: function 80 -/
theorem row_of_block {W : World} {g t : Nat} {k : IntKind} {xs : List Int} (h : W.heap[g]? = some (.cells (xs.map (Value.int k)).toArray t (0, 0))) (hm : xs.length ≤ 9223372036854775807) :
    (Kd.int k).C W (some ⟨g, 0, none⟩) xs.length xs := by
  refine ⟨rfl, hm, fun _ => ⟨_, rfl, fun j p hj => ⟨[.int k p], rfl, rfl, fun i u hu => ?_⟩⟩⟩
  match i, hu with
  | 0, hu =>
    obtain rfl : Value.int k p = u := by simpa using hu
    have e : (Addr.add ⟨g, 0, none⟩ (j * (Kd.int k).sz + 0)) = ⟨g, j, none⟩ := by
      simp [Kd.int, Kd.scalar, Addr.add]
      rintro rfl
      rfl
    rw [e, blk_cell h]
    simp [hj]
theorem row_V {W : World} {g t base : Nat} {k : IntKind} {xs : List Int} (h : W.heap[g]? = some (.cells (xs.map (Value.int k)).toArray t (0, 0))) (hm : xs.length ≤ 9223372036854775807) :
    Kd.V (Kd.int k) t W base (fun q => q = g) (.slice (some ⟨g, 0, none⟩) xs.length xs.length) xs :=
  Kd.V_mk (Nat.le_refl _) (fun W' hW => row_of_block ((hW g rfl (blk_lt h)).trans h) hm)
/-- A block of whole numbers reads as a row of them. -/
theorem i64_or_bit (d e : Nat) (he : e < 16) (hd : d < 2 ^ e) : Go.bits .or .i64 (d : Int) (wrap64 (2 ^ e)) = ((d + 2 ^ e : Nat) : Int) := by
  have h2 : (2 : Nat) ^ e ≤ 2 ^ 15 := Nat.pow_le_pow_right (by decide) (by omega)
  have h3 : wrap64 (2 ^ e) = ((2 ^ e : Nat) : Int) := by
    have : ((2 : Int) ^ e) = ((2 ^ e : Nat) : Int) := by simp
    rw [this]
    unfold wrap64
    omega
  rw [h3, (bits_nat .i64 16 (by decide) (fun n h0 h1 => by rw [IntKind.wrap_i64]; omega) d (2 ^ e) (by omega) (by omega)).2, Dig.or_add hd]
theorem cells_step (b : Nat → Bool) (k : Nat) (hk : k < 128) :
    (((Dig.digs 9 (Dig.ofb b k)).map (Value.int .i64)).toArray).setIfInBounds (k / 16) (.int .i64 (Go.bits .or .i64 ((Dig.ofb b k / 65536 ^ (k / 16) % 65536 : Nat) : Int) (wrap64 (2 ^ (k % 16))))) =
      ((Dig.digs 9 (Dig.ofb b k + 2 ^ k)).map (Value.int .i64)).toArray := by
  have hm := Dig.ofb_lt b k
  have hd : Dig.ofb b k / 65536 ^ (k / 16) % 65536 < 2 ^ (k % 16) := by
    refine Nat.lt_of_le_of_lt (Nat.mod_le _ _) ?_
    apply Nat.div_lt_of_lt_mul
    rw [Dig.p16, ← Nat.pow_add, show 16 * (k / 16) + k % 16 = k by omega]
    exact hm
  rw [i64_or_bit _ _ (by omega) hd, List.setIfInBounds_toArray, ← Dig.digs_set 9 _ _ hm (by omega), List.map_set]
theorem digs9_zero : Dig.digs 9 0 = [0, 0, 0, 0, 0, 0, 0, 0, 0] := by decide
set_option maxHeartbeats 2000000 in
set_option maxRecDepth 100000 in
/-- OfBits of 128 bits, by whatever function of one number that tells the bits b and leaves memory alone. -/
theorem spec_OfBits.calls (w : World) (fid : Nat) (caps : Array Value) (b : Nat → Bool)
    (hcf : ∀ (args : Array Value) (w : World), (callFunc fid args).run Tryd.prog w = .ok (.enter fid args) w)
    (hcl : Hid (∀ (i : Nat) (W : World), i < 128 → Below w.heap.size w W → Calls Tryd.prog fid (#[.int .i64 i] ++ caps) W (fun e W' => e = .returned (.bool (b i)) ∧ Below W.heap.size W W')))
    (k : Nat) (r : List Int) (hr : spec_trim.f k (Dig.digs 9 (Dig.ofb b 128)) = some r) :
    Calls Tryd.prog 80 #[.int .i64 128, .func (.func fid) #[] caps] w fun e w' => ∃ v0_ : Value, e = .returned (v0_) ∧ Kd.V (Kd.int .i64) 3 w' w.heap.size (fun k_ => (w.heap.size ≤ k_)) v0_ r ∧ Below w.heap.size w w' := by
  have hmk : ∀ w, (Instr.makeSlice 30 (.int .i64 9) (.int .i64 9)).run Tryd.prog w = .ok (.slice (some ⟨w.heap.size, 0, none⟩) 9 9) (w.alloc (.cells #[.int .i64 0,.int .i64 0,.int .i64 0,.int .i64 0,.int .i64 0,.int .i64 0,.int .i64 0,.int .i64 0,.int .i64 0] 3)) := fun _ => by kernel_rfl
  have HR := Lib.hid hr
  clear hr
  go_enter Tryd.func80, Tryd.ntmps80
  go_wp2_with fail
  go_loopw [12] (fun v wr => ∃ k : Nat, k ≤ 128 ∧ v = .int .i64 k ∧ wr.heap[w.heap.size]? = some (.cells ((Dig.digs 9 (Dig.ofb b k)).map (Value.int .i64)).toArray 3 (0,0)) ∧ Below w.heap.size w wr) (fun i _ => 128 - (intOf i).toNat)
  case atStart => exact ⟨0, by omega, rfl, by rw [Dig.ofb, digs9_zero]; exact (MapKept.heap_alloc w _).1, (Below.refl _ _).alloc (Nat.le_refl _) _⟩
  case round =>
    obtain ⟨k, hk, rfl, hblk, hb⟩ := hrel
    have hlt := blk_lt hblk
    by_cases hlt : k < 128
    · go_wp2_with fail
      refine (hcl.out k _ hlt hb).mono ?_
      rintro e w1 ⟨rfl, hb1⟩
      have hblk1 := (hb1.block _ (blk_lt hblk)).trans hblk
      cases hbk : b k
      · go_wp2
        go_roundw
        case rel => exact ⟨k + 1, by omega, by go_num, by rw [Dig.ofb, hbk]; exact hblk1, hb.trans (hb1.mono (by have := blk_lt hblk; omega))⟩
        case measure => simp [intOf]; omega
      · have hcell : w1.cell? ⟨w.heap.size, k / 16, none⟩ = some (.int .i64 ((Dig.ofb b k / 65536 ^ (k / 16) % 65536 : Nat) : Int)) := by
          rw [blk_cell hblk1]
          simp [Dig.digs_get 9 (Dig.ofb b k) (k / 16) (by omega)]
        have hfr : w1.frozen? ⟨w.heap.size, k / 16, none⟩ = false := blk_frozen hblk1 _
        obtain ⟨dd, hdd⟩ : ∃ dd : Nat, dd = Dig.ofb b k / 65536 ^ (k / 16) % 65536 := ⟨_, rfl⟩
        rw [← hdd] at hcell
        have HDD := Lib.hid hdd
        have HB := Lib.hid hblk1
        clear hdd hblk1 hblk
        go_wp2
        go_region
        go_wp2
        go_roundw
        case rel =>
          refine ⟨k + 1, by omega, by go_num, ?_, (hb.trans (hb1.mono (by have := hb.size; omega))).trans (((Below.refl w.heap.size w1).setCell (p := ⟨w.heap.size, k / 16, none⟩) (Nat.le_refl _) _).drew)⟩
          have h2 := blk_set HB.out (k / 16) (.int .i64 (Go.bits .or .i64 (dd : Int) (wrap64 (2 ^ (k % 16)))))
          rw [HDD.out, cells_step b k hlt] at h2
          rw [HDD.out]
          show _ = some (Obj.cells ((Dig.digs 9 (Dig.ofb b k + if b k = true then 2 ^ k else 0)).map (Value.int .i64)).toArray _ _)
          rw [hbk]
          exact h2
        case measure => simp [intOf]; omega
    · obtain rfl : k = 128 := by omega
      have hV := row_V (base := wr.heap.size) hblk (by rw [Dig.digs_len]; decide)
      rw [Dig.digs_len] at hV
      have hV' : Kd.V (Kd.int .i64) 3 wr wr.heap.size (fun q => q = w.heap.size) (.slice (some ⟨w.heap.size, 0, none⟩) (Dig.digs 9 (Dig.ofb b 128)).length 9) (Dig.digs 9 (Dig.ofb b 128)) := by rw [Dig.digs_len]; exact hV
      have hT := spec_trim.calls _ _ _ 9 _ _ wr hV' HR.out
      rw [Dig.digs_len] at hT
      have HT := Lib.hid hT
      clear hT hV hV' hblk
      go_wp2_with fail
      refine (HT.out).mono ?_
      rintro e w1 ⟨v0, rfl, hv, hb1⟩
      go_wp2
      go_ret
      exact ⟨_, rfl, Kd.V_mono hv (fun q hq => by rcases hq with rfl | hq; exact Nat.le_refl _; have := hb.size; omega), hb.trans (hb1.mono hb.size)⟩
/-! ### spec_Whole: function 45 -/
theorem wrap64_small {n : Int} (h0 : -9223372036854775808 ≤ n) (h1 : n < 9223372036854775808) : wrap64 n = n := by unfold wrap64; omega
/-- Noughts at the end are struck. -/
theorem trim_digs (j : Nat) : ∀ (m k : Nat), m < 65536 ^ j → j < 4611686018427387904 → j < k → spec_trim.f k (Dig.digs j m) = some (Dig.dg m) := by
  unfold spec_trim.f
  induction j with
  | zero =>
    intro m k hm _ hk
    obtain ⟨k, rfl⟩ : ∃ q, k = q + 1 := ⟨k - 1, by omega⟩
    obtain rfl : m = 0 := by simpa using hm
    simp [spec_trim.l0, Dig.digs_zero, Dig.dg_zero]
  | succ j ih =>
    intro m k hm hj hk
    obtain ⟨k, rfl⟩ : ∃ q, k = q + 1 := ⟨k - 1, by omega⟩
    have hl : ((Dig.digs (j + 1) m).length : Int) = (j : Int) + 1 := by rw [Dig.digs_len]; omega
    have hw : wrap64 ((j : Int) + 1 - 1) = (j : Int) := by unfold wrap64; omega
    simp only [spec_trim.l0, hl, hw]
    rw [if_pos (by omega), if_pos (by omega), if_pos (by omega)]
    have hrd : rd (Dig.digs (j + 1) m) (j : Int) = ((m / 65536 ^ j % 65536 : Nat) : Int) := by
      unfold rd
      rw [Int.toNat_natCast, Dig.digs_getD, if_pos (by omega)]
    rw [hrd]
    have hq : m / 65536 ^ j < 65536 := Nat.div_lt_of_lt_mul (by rw [← Nat.pow_succ]; exact hm)
    by_cases h0 : m < 65536 ^ j
    · rw [if_pos (by rw [Nat.div_eq_of_lt h0]; rfl), if_pos (by omega), Int.toNat_natCast, Dig.digs_take _ _ _ (by omega)]
      exact ih m k h0 (by omega) (by omega)
    · have hp : 0 < 65536 ^ j := Nat.pow_pos (by decide)
      have h1 : 1 ≤ m / 65536 ^ j := (Nat.le_div_iff_mul_le hp).2 (by omega)
      rw [if_neg (by omega)]
      unfold Dig.dg
      have : Dig.nd m = j + 1 := by
        have a := Dig.nd_le hm
        have b : ¬ Dig.nd m ≤ j := fun hle => h0 (Nat.lt_of_lt_of_le (Dig.lt_nd m) (Nat.pow_le_pow_right (by decide) hle))
        omega
      rw [this]
theorem u64_bit (n i : Nat) (hn : n < 18446744073709551616) : (Go.bits .and .u64 ((n : Int) / 2 ^ i) 1 == 1) = n.testBit i := by
  have h1 : (n : Int) / 2 ^ i = ((n / 2 ^ i : Nat) : Int) := by simp
  have h2 : n / 2 ^ i < 18446744073709551616 := Nat.lt_of_le_of_lt (Nat.div_le_self _ _) hn
  have h3 := u64_and_nat (n / 2 ^ i) 1 h2 (by decide)
  rw [h1, show (1 : Int) = ((1 : Nat) : Int) from rfl, h3, Nat.and_one_is_mod, Nat.testBit_eq_decide_div_mod_eq]
  rw [Bool.eq_iff_iff]
  simp
  omega
set_option maxHeartbeats 400000 in
theorem whole1_lo (lo i : Nat) (p q : Addr) (w : World) (h1 : i < 64) (hlo : lo < 18446744073709551616) (hp : w.cell? p = some (.int .u64 lo)) :
    Calls Tryd.prog 99 #[.int .i64 i, .pointer (some p), .pointer (some q)] w fun e w' => e = .returned (.bool (lo.testBit i)) ∧ w' = w := by
  have HB := Lib.hid (u64_bit lo i hlo)
  clear hlo
  go_enter Tryd.func99, Tryd.ntmps99
  go_wp2
  go_ret
  refine ⟨?_, rfl⟩
  rw [← HB.out]
  rfl
set_option maxHeartbeats 400000 in
theorem whole1_hi (hi i : Nat) (p q : Addr) (w : World) (h1 : 64 ≤ i) (h2 : i < 128) (hhi : hi < 18446744073709551616) (hp : w.cell? q = some (.int .u64 hi)) :
    Calls Tryd.prog 99 #[.int .i64 i, .pointer (some p), .pointer (some q)] w fun e w' => e = .returned (.bool (hi.testBit (i - 64))) ∧ w' = w := by
  obtain ⟨d, rfl⟩ : ∃ d, i = d + 64 := ⟨i - 64, by omega⟩
  have HB := Lib.hid (u64_bit hi d hhi)
  have he : (((d + 64 : Nat) : Int) - 64) = (d : Int) := by omega
  clear hhi
  go_enter Tryd.func99, Tryd.ntmps99
  go_wp2
  go_ret
  refine ⟨?_, rfl⟩
  rw [Nat.add_sub_cancel, ← HB.out]
  try simp
theorem whole_bit (lo hi i : Nat) (hlo : lo < 18446744073709551616) : (lo + hi * 18446744073709551616).testBit i = if i < 64 then lo.testBit i else hi.testBit (i - 64) := by
  have e : lo + hi * 18446744073709551616 = 2 ^ 64 * hi + lo := by omega
  rw [e, Nat.testBit_two_pow_mul_add _ hlo]
def spec_Whole.f (a0 a1 : Int) : Option (List Int) :=
  if 0 ≤ a0 ∧ a0 < 18446744073709551616 ∧ 0 ≤ a1 ∧ a1 < 18446744073709551616 then some (Dig.dg (a0.toNat + a1.toNat * 18446744073709551616)) else none
set_option maxHeartbeats 2000000 in
set_option maxRecDepth 100000 in
theorem spec_Whole.calls (a0 a1 : Int) (r : List Int) (w : World) (h : spec_Whole.f a0 a1 = some r) :
    Calls Tryd.prog 45 #[.int .u64 a0, .int .u64 a1] w fun e w' => ∃ v0_ : Value, e = .returned (v0_) ∧ Kd.V (Kd.int .i64) 3 w' w.heap.size (fun k_ => (w.heap.size ≤ k_)) v0_ r ∧ Below w.heap.size w w' := by
  unfold spec_Whole.f at h
  split at h
  case isFalse => cases h
  rename_i hb
  obtain ⟨h0, h1, h2, h3⟩ := hb
  obtain ⟨lo, rfl⟩ := Int.eq_ofNat_of_zero_le h0
  obtain ⟨hi, rfl⟩ := Int.eq_ofNat_of_zero_le h2
  rw [Int.toNat_natCast, Int.toNat_natCast] at h
  have hlo : lo < 18446744073709551616 := by omega
  have hhi : hi < 18446744073709551616 := by omega
  clear h0 h1 h2 h3
  obtain rfl := Option.some.inj h
  have hmf : ∀ (fn : Fn) (first cap : Array Value) (w : World), (Instr.makeFunc fn first cap).run Tryd.prog w = .ok (.func fn first cap) w := fun _ _ _ _ => rfl
  have hm : lo + hi * 18446744073709551616 < 2 ^ 128 := by omega
  have hof : Dig.ofb (lo + hi * 18446744073709551616).testBit 128 = lo + hi * 18446744073709551616 := Dig.ofb_is hm (fun _ _ => rfl)
  have hr : spec_trim.f 10 (Dig.digs 9 (Dig.ofb (lo + hi * 18446744073709551616).testBit 128)) = some (Dig.dg (lo + hi * 18446744073709551616)) := by
    rw [hof]
    exact trim_digs 9 _ 10 (by omega) (by decide) (by decide)
  have hcl : Hid (∀ (i : Nat) (W : World), i < 128 → Below (w.heap.size + 2) ((w.alloc (.cells #[.int .u64 lo] 22)).alloc (.cells #[.int .u64 hi] 22)) W → Calls Tryd.prog 99 (#[.int .i64 i] ++ #[.pointer (some ⟨w.heap.size, 0, none⟩), .pointer (some ⟨w.heap.size + 1, 0, none⟩)]) W
      (fun e W' => e = .returned (.bool ((lo + hi * 18446744073709551616).testBit i)) ∧ Below W.heap.size W W')) := by
    intro i W hi128 hW
    have c0 : W.cell? ⟨w.heap.size, 0, none⟩ = some (.int .u64 lo) := by
      rw [hW.cell (p := ⟨w.heap.size, 0, none⟩) (by simp), World.cell?_alloc_past _ _ _ (by simp), World.cell?_alloc_at _ _ _ _ rfl]; rfl
    have c1 : W.cell? ⟨w.heap.size + 1, 0, none⟩ = some (.int .u64 hi) := by
      rw [hW.cell (p := ⟨w.heap.size + 1, 0, none⟩) (by simp), World.cell?_alloc_at _ _ _ _ (by simp)]; rfl
    rw [whole_bit lo hi i hlo]
    split
    · exact (whole1_lo lo i _ _ W (by assumption) hlo c0).mono fun e w' ⟨he, hw⟩ => ⟨he, by rw [hw]; exact Below.refl _ _⟩
    · exact (whole1_hi hi i _ _ W (by omega) hi128 hhi c1).mono fun e w' ⟨he, hw⟩ => ⟨he, by rw [hw]; exact Below.refl _ _⟩
  have HC := Lib.hid (spec_OfBits.calls ((w.alloc (.cells #[.int .u64 lo] 22)).alloc (.cells #[.int .u64 hi] 22)) 99 #[.pointer (some ⟨w.heap.size, 0, none⟩), .pointer (some ⟨w.heap.size + 1, 0, none⟩)] _
    (fun _ _ => rfl) (by simpa using hcl) 10 _ hr)
  clear hr hof hm hcl hlo hhi h
  go_enter Tryd.func45, Tryd.ntmps45
  go_wp2_with fail
  refine HC.out.mono ?_
  rintro e w1 ⟨v0, rfl, hv, hb⟩
  have HV := Lib.hid hv
  have HB := Lib.hid hb
  clear hv hb HC
  go_wp2
  go_ret
  refine ⟨_, rfl, Kd.V_mono HV.out (fun q hq => by simp at hq; omega), ?_⟩
  exact (((Below.refl w.heap.size w).alloc (Nat.le_refl _) _).alloc (by simp) _).trans (HB.out.mono (by simp; omega))
/-! ### laws_wideWhole: function 18 -/
def laws_wideWhole.f (a0_0 : Int) (a0_1 : Int) : Option (List Int) := (spec_Whole.f a0_0 a0_1).bind fun t173 => (some t173)
set_option maxHeartbeats 8000000 in
set_option maxRecDepth 100000 in
theorem laws_wideWhole.calls (a0_0 : Int) (a0_1 : Int) (r : List Int) (w : World) (h : laws_wideWhole.f a0_0 a0_1 = some r) :
    Calls Tryd.prog 18 #[.agg #[.int .u64 a0_0, .int .u64 a0_1]] w fun e w' => ∃ v0_ : Value, e = .returned (v0_) ∧ Kd.V (Kd.int .i64) 3 w' w.heap.size (fun k_ => (w.heap.size ≤ k_)) v0_ r ∧ Below w.heap.size w w' := by
  have hu24 := Tryd.underlying24
  have HB := Aside0.mk (Below.refl w.heap.size w)
  have H : ((spec_Whole.f a0_0 a0_1).bind fun t173 => (some t173)) = some r := h
  clear h
  replace H := Option.bind_eq_some_iff.mp H
  obtain ⟨t173, A20, H⟩ := H
  replace H : (some t173) = some r := H
  have A2 := Aside0.mk A20
  clear A20
  obtain rfl := Option.some.inj H
  go_enter Tryd.func18, Tryd.ntmps18
  go_wp2_with (first | ((with_reducible refine gate_dst (N := 1) rfl ?_); refine box_event ?hg (N := 1) ?hd (cs := #[.int .u64 a0_0, .int .u64 a0_1]) (t := 24) ?hr ?_; (case hd => rfl); (case hg => rfl); (case hr => first | (go_simp; done) | (go_simp; rfl)); intro gb172 hg w3 hbox hb; have n0_ := Aside0.mk (below_step (by repeat (first | (with_reducible first | exact HB.out | apply below_alloc | apply pw_below_drewN | apply below_drew1) | exact HB.out)) hb); have n1_ := Aside0.mk (hbox); have n2_ := Aside0.mk ((by rw [hg]; exact (below_size (by repeat (first | (with_reducible first | exact HB.out | apply below_alloc | apply pw_below_drewN | apply below_drew1) | exact HB.out))) : w.heap.size ≤ gb172)); have n3_ := Aside0.mk ((by rw [hg]; exact (below_size (by repeat (first | (with_reducible first | exact HB.out | apply below_alloc | apply pw_below_drewN | apply below_drew1) | exact HB.out))) : w.heap.size ≤ gb172)); clear HB; have HB := n0_; have BK172 := n1_; have GW172 := n2_; have GE172 := n3_; clear n0_ n1_ n2_ n3_; clear hb hbox hg; have hcz4_0 : w3.cell? ⟨gb172, 0, none⟩ = some (.int .u64 a0_0) := (blk_cell BK172.out 0).trans rfl; have hcz4_1 : w3.cell? ⟨gb172, 1, none⟩ = some (.int .u64 a0_1) := (blk_cell BK172.out 1).trans rfl; have hfz4_0 := blk_frozen BK172.out 0; have hfz4_1 := blk_frozen BK172.out 1) | ((with_reducible refine gate_callee (f := 45) rfl ?_); refine goesL_ (some 7) rfl rfl Tryd.func45 (by kernel_rfl) rfl #[.int .u64 a0_0, .int .u64 a0_1] rfl (by (try simp only [List.map_toArray, List.map_cons, List.map_nil]); first | done | rfl | (simp only [List.length_drop, List.length_take]; rfl)) ?_; (with_reducible refine (spec_Whole.calls a0_0 a0_1 t173 _ A2.out).mono ?_); rintro e w5 ⟨v174, rfl, ho0, hb⟩; refine ⟨_, rfl, ?_⟩; have n0_ := Aside0.mk (Kd.V_lower (Kd.V_mono (ok' := fun k_ => (w.heap.size ≤ k_) ∧ k_ ≠ gb172) ho0 (fun k_ hk_ => ⟨(Nat.le_trans (below_size (by repeat (first | (with_reducible first | exact HB.out | apply below_alloc | apply pw_below_drewN | apply below_drew1 | refine below_set ?_ GE172.out) | exact HB.out))) hk_), (Kd.freshB (g := gb172) (o := .cells #[.int .u64 a0_0, .int .u64 a0_1] 24 (0, 0)) (by exact BK172.out) k_ hk_)⟩)) (below_size (by repeat (first | (with_reducible first | exact HB.out | apply below_alloc | apply pw_below_drewN | apply below_drew1 | refine below_set ?_ GE172.out) | exact HB.out)))); have n1_ := Aside0.mk (blk_below (g := gb172) (o := .cells #[.int .u64 a0_0, .int .u64 a0_1] 24 (0, 0)) (by exact BK172.out) hb); have n2_ := Aside0.mk (below_step (by repeat (first | (with_reducible first | exact HB.out | apply below_alloc | apply pw_below_drewN | apply below_drew1 | refine below_set ?_ GE172.out) | exact HB.out)) hb); clear BK172; clear HB; have HO175 := n0_; have BK172 := n1_; have HB := n2_; clear n0_ n1_ n2_; (try clear hb); (try clear hb2); (try clear hk); (try clear hi); (try clear ho0)))
  go_ret
  exact ⟨_, by first | rfl | (simp [errW_none, errW_some] <;> rfl) | (simp [*, errW_none, errW_some] <;> rfl), by (with_reducible repeat (first | apply Kd.V_alloc | apply Kd.V_drewN | apply Kd.V_drew)); exact Kd.V_mono HO175.out (fun _ hk => hk.1), by repeat (first | (with_reducible first | exact HB.out | apply below_alloc | apply pw_below_drewN | apply below_drew1 | refine below_set ?_ GE172.out) | exact HB.out)⟩
/-! ### bits_Len64: function 116 -/
/-- The number of bits of n without zeros ahead. -/
def lenN (n : Nat) : Nat := if n = 0 then 0 else Nat.log2 n + 1
def len8 : ByteArray := ⟨#[0, 1, 2, 2, 3, 3, 3, 3, 4, 4, 4, 4, 4, 4, 4, 4, 5, 5, 5, 5, 5, 5, 5, 5, 5, 5, 5, 5, 5, 5, 5, 5, 6, 6, 6, 6, 6, 6, 6, 6, 6, 6, 6, 6, 6, 6, 6, 6, 6, 6, 6, 6, 6, 6, 6, 6, 6, 6, 6, 6, 6, 6, 6, 6, 7, 7, 7, 7, 7, 7, 7, 7, 7, 7, 7, 7, 7, 7, 7, 7, 7, 7, 7, 7, 7, 7, 7, 7, 7, 7, 7, 7, 7, 7, 7, 7, 7, 7, 7, 7, 7, 7, 7, 7, 7, 7, 7, 7, 7, 7, 7, 7, 7, 7, 7, 7, 7, 7, 7, 7, 7, 7, 7, 7, 7, 7, 7, 7, 8, 8, 8, 8, 8, 8, 8, 8, 8, 8, 8, 8, 8, 8, 8, 8, 8, 8, 8, 8, 8, 8, 8, 8, 8, 8, 8, 8, 8, 8, 8, 8, 8, 8, 8, 8, 8, 8, 8, 8, 8, 8, 8, 8, 8, 8, 8, 8, 8, 8, 8, 8, 8, 8, 8, 8, 8, 8, 8, 8, 8, 8, 8, 8, 8, 8, 8, 8, 8, 8, 8, 8, 8, 8, 8, 8, 8, 8, 8, 8, 8, 8, 8, 8, 8, 8, 8, 8, 8, 8, 8, 8, 8, 8, 8, 8, 8, 8, 8, 8, 8, 8, 8, 8, 8, 8, 8, 8, 8, 8, 8, 8, 8, 8, 8, 8, 8, 8, 8, 8, 8, 8, 8, 8, 8, 8, 8, 8]⟩
theorem len8_size : len8.size = 256 := by decide +kernel
theorem len8_all : (List.range 256).all (fun x => len8.data.toList.getD x 0 == UInt8.ofNat (lenN x)) = true := by decide +kernel
theorem lenN_8 (x : Nat) (h : x < 256) : lenN x ≤ 8 := by
  unfold lenN
  split
  · decide
  · rename_i h0
    have := (Nat.log2_lt h0 (k := 8)).mpr h
    omega
theorem len8_is (x : Nat) (h : x < len8.size) : (len8[x]'h).toNat = lenN x := by
  have hx : x < 256 := by rw [← len8_size]; exact h
  have a := List.all_eq_true.mp len8_all x (List.mem_range.mpr hx)
  rw [beq_iff_eq] at a
  have e : len8[x]'h = len8.data.toList.getD x 0 := by
    rw [List.getD_eq_getElem?_getD, Array.getElem?_toList, Array.getElem?_eq_getElem (by exact h)]
    rfl
  rw [e, a]
  have := lenN_8 x hx
  rw [UInt8.toNat_ofNat_of_lt' (by show lenN x < 256; omega)]
theorem w64n (n : Int) (h : 0 ≤ n ∧ n < 1000) : wrap64 n = n := by
  unfold wrap64
  omega
theorem lenN_div (x k : Nat) (h : 2 ^ k ≤ x) : lenN x = k + lenN (x / 2 ^ k) := by
  have h0 : 0 < 2 ^ k := Nat.pow_pos (by decide)
  have hx : x ≠ 0 := by omega
  have hq : x / 2 ^ k ≠ 0 := by
    have := Nat.div_pos h h0
    omega
  unfold lenN
  rw [if_neg hx, if_neg hq]
  have l1 := Nat.log2_self_le hq
  have l2 := Nat.lt_log2_self (n := x / 2 ^ k)
  generalize (x / 2 ^ k).log2 = l at *
  have e : x.log2 = k + l := by
    rw [Nat.log2_eq_iff hx, Nat.pow_add, Nat.add_assoc, Nat.pow_add]
    have d := Nat.div_add_mod x (2 ^ k)
    have m := Nat.mod_lt x h0
    constructor
    · have := Nat.mul_le_mul_left (2 ^ k) l1
      omega
    · have := Nat.mul_le_mul_left (2 ^ k) (show x / 2 ^ k + 1 ≤ 2 ^ (l + 1) by omega)
      rw [Nat.mul_add] at this
      omega
  omega
set_option maxHeartbeats 2000000 in
set_option maxRecDepth 100000 in
theorem len_000 (x : Nat) (w : World) (b0 : decide (4294967296 ≤ (x : Int)) = false) (b1 : decide (65536 ≤ (x : Int)) = false) (b2 : decide (256 ≤ (x : Int)) = false) (hv : x < 256) (e : (x : Int) % 256 = (x : Int)) :
    Calls Tryd.prog 116 #[.int .u64 (x : Int)] w fun e w' => e = .returned (.int .i64 ((0 + lenN x : Nat) : Int)) ∧ Drawn0 w w' := by
  go_enter Tryd.func116, Tryd.ntmps116
  go_wp2
  go_ret
  refine ⟨congrArg (fun z => Ending.returned (.int .i64 z)) ?_, Drawn0.refl _⟩
  have q := len8_is x (by rw [len8_size]; exact hv)
  have hb := lenN_8 x hv
  unfold len8 at q
  rw [q]
  clear q e hv b0 b1 b2
  generalize lenN x = r at *
  rw [w64n (r : Int) (by omega), w64n _ (by omega)]
  omega
set_option maxHeartbeats 2000000 in
set_option maxRecDepth 100000 in
theorem len_001 (x t : Nat) (w : World) (b0 : decide (4294967296 ≤ (x : Int)) = false) (b1 : decide (65536 ≤ (x : Int)) = false) (b2 : decide (256 ≤ (x : Int)) = true) (e2 : (x : Int) / 256 = (t : Int)) (hv : t < 256) (e : (t : Int) % 256 = (t : Int)) :
    Calls Tryd.prog 116 #[.int .u64 (x : Int)] w fun e w' => e = .returned (.int .i64 ((8 + lenN t : Nat) : Int)) ∧ Drawn0 w w' := by
  go_enter Tryd.func116, Tryd.ntmps116
  go_wp2
  go_ret
  refine ⟨congrArg (fun z => Ending.returned (.int .i64 z)) ?_, Drawn0.refl _⟩
  have q := len8_is t (by rw [len8_size]; exact hv)
  have hb := lenN_8 t hv
  unfold len8 at q
  rw [q]
  clear q e hv b0 b1 b2 e2
  generalize lenN t = r at *
  rw [w64n (r : Int) (by omega), w64n _ (by omega)]
  omega
set_option maxHeartbeats 2000000 in
set_option maxRecDepth 100000 in
theorem len_010 (x z : Nat) (w : World) (b0 : decide (4294967296 ≤ (x : Int)) = false) (b1 : decide (65536 ≤ (x : Int)) = true) (e1 : (x : Int) / 65536 = (z : Int)) (b2 : decide (256 ≤ (z : Int)) = false) (hv : z < 256) (e : (z : Int) % 256 = (z : Int)) :
    Calls Tryd.prog 116 #[.int .u64 (x : Int)] w fun e w' => e = .returned (.int .i64 ((16 + lenN z : Nat) : Int)) ∧ Drawn0 w w' := by
  go_enter Tryd.func116, Tryd.ntmps116
  go_wp2
  go_ret
  refine ⟨congrArg (fun z => Ending.returned (.int .i64 z)) ?_, Drawn0.refl _⟩
  have q := len8_is z (by rw [len8_size]; exact hv)
  have hb := lenN_8 z hv
  unfold len8 at q
  rw [q]
  clear q e hv b0 b1 b2 e1
  generalize lenN z = r at *
  rw [w64n (r : Int) (by omega), w64n _ (by omega)]
  omega
set_option maxHeartbeats 2000000 in
set_option maxRecDepth 100000 in
theorem len_011 (x z t : Nat) (w : World) (b0 : decide (4294967296 ≤ (x : Int)) = false) (b1 : decide (65536 ≤ (x : Int)) = true) (e1 : (x : Int) / 65536 = (z : Int)) (b2 : decide (256 ≤ (z : Int)) = true) (e2 : (z : Int) / 256 = (t : Int)) (hv : t < 256) (e : (t : Int) % 256 = (t : Int)) :
    Calls Tryd.prog 116 #[.int .u64 (x : Int)] w fun e w' => e = .returned (.int .i64 ((24 + lenN t : Nat) : Int)) ∧ Drawn0 w w' := by
  go_enter Tryd.func116, Tryd.ntmps116
  go_wp2
  go_ret
  refine ⟨congrArg (fun z => Ending.returned (.int .i64 z)) ?_, Drawn0.refl _⟩
  have q := len8_is t (by rw [len8_size]; exact hv)
  have hb := lenN_8 t hv
  unfold len8 at q
  rw [q]
  clear q e hv b0 b1 b2 e1 e2
  generalize lenN t = r at *
  rw [w64n (r : Int) (by omega), w64n _ (by omega)]
  omega
set_option maxHeartbeats 2000000 in
set_option maxRecDepth 100000 in
theorem len_100 (x y : Nat) (w : World) (b0 : decide (4294967296 ≤ (x : Int)) = true) (e0 : (x : Int) / 4294967296 = (y : Int)) (b1 : decide (65536 ≤ (y : Int)) = false) (b2 : decide (256 ≤ (y : Int)) = false) (hv : y < 256) (e : (y : Int) % 256 = (y : Int)) :
    Calls Tryd.prog 116 #[.int .u64 (x : Int)] w fun e w' => e = .returned (.int .i64 ((32 + lenN y : Nat) : Int)) ∧ Drawn0 w w' := by
  go_enter Tryd.func116, Tryd.ntmps116
  go_wp2
  go_ret
  refine ⟨congrArg (fun z => Ending.returned (.int .i64 z)) ?_, Drawn0.refl _⟩
  have q := len8_is y (by rw [len8_size]; exact hv)
  have hb := lenN_8 y hv
  unfold len8 at q
  rw [q]
  clear q e hv b0 b1 b2 e0
  generalize lenN y = r at *
  rw [w64n (r : Int) (by omega), w64n _ (by omega)]
  omega
set_option maxHeartbeats 2000000 in
set_option maxRecDepth 100000 in
theorem len_101 (x y t : Nat) (w : World) (b0 : decide (4294967296 ≤ (x : Int)) = true) (e0 : (x : Int) / 4294967296 = (y : Int)) (b1 : decide (65536 ≤ (y : Int)) = false) (b2 : decide (256 ≤ (y : Int)) = true) (e2 : (y : Int) / 256 = (t : Int)) (hv : t < 256) (e : (t : Int) % 256 = (t : Int)) :
    Calls Tryd.prog 116 #[.int .u64 (x : Int)] w fun e w' => e = .returned (.int .i64 ((40 + lenN t : Nat) : Int)) ∧ Drawn0 w w' := by
  go_enter Tryd.func116, Tryd.ntmps116
  go_wp2
  go_ret
  refine ⟨congrArg (fun z => Ending.returned (.int .i64 z)) ?_, Drawn0.refl _⟩
  have q := len8_is t (by rw [len8_size]; exact hv)
  have hb := lenN_8 t hv
  unfold len8 at q
  rw [q]
  clear q e hv b0 b1 b2 e0 e2
  generalize lenN t = r at *
  rw [w64n (r : Int) (by omega), w64n _ (by omega)]
  omega
set_option maxHeartbeats 2000000 in
set_option maxRecDepth 100000 in
theorem len_110 (x y z : Nat) (w : World) (b0 : decide (4294967296 ≤ (x : Int)) = true) (e0 : (x : Int) / 4294967296 = (y : Int)) (b1 : decide (65536 ≤ (y : Int)) = true) (e1 : (y : Int) / 65536 = (z : Int)) (b2 : decide (256 ≤ (z : Int)) = false) (hv : z < 256) (e : (z : Int) % 256 = (z : Int)) :
    Calls Tryd.prog 116 #[.int .u64 (x : Int)] w fun e w' => e = .returned (.int .i64 ((48 + lenN z : Nat) : Int)) ∧ Drawn0 w w' := by
  go_enter Tryd.func116, Tryd.ntmps116
  go_wp2
  go_ret
  refine ⟨congrArg (fun z => Ending.returned (.int .i64 z)) ?_, Drawn0.refl _⟩
  have q := len8_is z (by rw [len8_size]; exact hv)
  have hb := lenN_8 z hv
  unfold len8 at q
  rw [q]
  clear q e hv b0 b1 b2 e0 e1
  generalize lenN z = r at *
  rw [w64n (r : Int) (by omega), w64n _ (by omega)]
  omega
set_option maxHeartbeats 2000000 in
set_option maxRecDepth 100000 in
theorem len_111 (x y z t : Nat) (w : World) (b0 : decide (4294967296 ≤ (x : Int)) = true) (e0 : (x : Int) / 4294967296 = (y : Int)) (b1 : decide (65536 ≤ (y : Int)) = true) (e1 : (y : Int) / 65536 = (z : Int)) (b2 : decide (256 ≤ (z : Int)) = true) (e2 : (z : Int) / 256 = (t : Int)) (hv : t < 256) (e : (t : Int) % 256 = (t : Int)) :
    Calls Tryd.prog 116 #[.int .u64 (x : Int)] w fun e w' => e = .returned (.int .i64 ((56 + lenN t : Nat) : Int)) ∧ Drawn0 w w' := by
  go_enter Tryd.func116, Tryd.ntmps116
  go_wp2
  go_ret
  refine ⟨congrArg (fun z => Ending.returned (.int .i64 z)) ?_, Drawn0.refl _⟩
  have q := len8_is t (by rw [len8_size]; exact hv)
  have hb := lenN_8 t hv
  unfold len8 at q
  rw [q]
  clear q e hv b0 b1 b2 e0 e1 e2
  generalize lenN t = r at *
  rw [w64n (r : Int) (by omega), w64n _ (by omega)]
  omega
def bits_Len64.f (a0 : Int) : Option Int := if 0 ≤ a0 ∧ a0 < 18446744073709551616 then some ((lenN a0.toNat : Nat) : Int) else none
theorem bits_Len64.calls (a0 : Int) (r : Int) (w : World) (h : bits_Len64.f a0 = some r) :
    Calls Tryd.prog 116 #[.int .u64 a0] w fun e w' => e = .returned (.int .i64 r) ∧ Drawn0 w w' := by
  unfold bits_Len64.f at h
  split at h
  case isFalse => cases h
  rename_i h0
  obtain ⟨x, rfl⟩ := Int.eq_ofNat_of_zero_le h0.1
  rw [Int.toNat_natCast] at h
  obtain rfl := Option.some.inj h
  have hx : x < 18446744073709551616 := by omega
  clear h h0
  by_cases c0 : 4294967296 ≤ x
  · by_cases c1 : 65536 ≤ x / 4294967296
    · by_cases c2 : 256 ≤ x / 4294967296 / 65536
      · have ll : lenN x = 56 + lenN (((x / 4294967296) / 65536) / 256) := by
          rw [lenN_div x 32 (by omega), show (2 : Nat) ^ 32 = 4294967296 from rfl, lenN_div (x / 4294967296) 16 (by omega), show (2 : Nat) ^ 16 = 65536 from rfl, lenN_div ((x / 4294967296) / 65536) 8 (by omega), show (2 : Nat) ^ 8 = 256 from rfl]
          omega
        rw [ll]
        exact len_111 x (x / 4294967296) ((x / 4294967296) / 65536) (((x / 4294967296) / 65536) / 256) w (decide_eq_true (by omega)) (by omega) (decide_eq_true (by omega)) (by omega) (decide_eq_true (by omega)) (by omega) (by omega) (by omega)
      · have ll : lenN x = 48 + lenN ((x / 4294967296) / 65536) := by
          rw [lenN_div x 32 (by omega), show (2 : Nat) ^ 32 = 4294967296 from rfl, lenN_div (x / 4294967296) 16 (by omega), show (2 : Nat) ^ 16 = 65536 from rfl]
          omega
        rw [ll]
        exact len_110 x (x / 4294967296) ((x / 4294967296) / 65536) w (decide_eq_true (by omega)) (by omega) (decide_eq_true (by omega)) (by omega) (decide_eq_false (by omega)) (by omega) (by omega)
    · by_cases c2 : 256 ≤ x / 4294967296
      · have ll : lenN x = 40 + lenN ((x / 4294967296) / 256) := by
          rw [lenN_div x 32 (by omega), show (2 : Nat) ^ 32 = 4294967296 from rfl, lenN_div (x / 4294967296) 8 (by omega), show (2 : Nat) ^ 8 = 256 from rfl]
          omega
        rw [ll]
        exact len_101 x (x / 4294967296) ((x / 4294967296) / 256) w (decide_eq_true (by omega)) (by omega) (decide_eq_false (by omega)) (decide_eq_true (by omega)) (by omega) (by omega) (by omega)
      · have ll : lenN x = 32 + lenN (x / 4294967296) := by
          rw [lenN_div x 32 (by omega), show (2 : Nat) ^ 32 = 4294967296 from rfl]
        rw [ll]
        exact len_100 x (x / 4294967296) w (decide_eq_true (by omega)) (by omega) (decide_eq_false (by omega)) (decide_eq_false (by omega)) (by omega) (by omega)
  · by_cases c1 : 65536 ≤ x
    · by_cases c2 : 256 ≤ x / 65536
      · have ll : lenN x = 24 + lenN ((x / 65536) / 256) := by
          rw [lenN_div x 16 (by omega), show (2 : Nat) ^ 16 = 65536 from rfl, lenN_div (x / 65536) 8 (by omega), show (2 : Nat) ^ 8 = 256 from rfl]
          omega
        rw [ll]
        exact len_011 x (x / 65536) ((x / 65536) / 256) w (decide_eq_false (by omega)) (decide_eq_true (by omega)) (by omega) (decide_eq_true (by omega)) (by omega) (by omega) (by omega)
      · have ll : lenN x = 16 + lenN (x / 65536) := by
          rw [lenN_div x 16 (by omega), show (2 : Nat) ^ 16 = 65536 from rfl]
        rw [ll]
        exact len_010 x (x / 65536) w (decide_eq_false (by omega)) (decide_eq_true (by omega)) (by omega) (decide_eq_false (by omega)) (by omega) (by omega)
    · by_cases c2 : 256 ≤ x
      · have ll : lenN x = 8 + lenN (x / 256) := by
          rw [lenN_div x 8 (by omega), show (2 : Nat) ^ 8 = 256 from rfl]
        rw [ll]
        exact len_001 x (x / 256) w (decide_eq_false (by omega)) (decide_eq_false (by omega)) (decide_eq_true (by omega)) (by omega) (by omega) (by omega)
      · rw [show lenN x = 0 + lenN x by omega]
        exact len_000 x w (decide_eq_false (by omega)) (decide_eq_false (by omega)) (decide_eq_false (by omega)) (by omega) (by omega)
/-! ### bits_LeadingZeros64: function 100 -/
def bits_LeadingZeros64.f (a0 : Int) : Option (Int) := (bits_Len64.f a0).bind fun t176 => (some (wrap64 (64 - t176)))
set_option maxHeartbeats 8000000 in
set_option maxRecDepth 100000 in
theorem bits_LeadingZeros64.calls (a0 : Int) (r : Int) (w : World) (h : bits_LeadingZeros64.f a0 = some r) :
    Calls Tryd.prog 100 #[.int .u64 a0] w fun e w' => e = .returned (.int .i64 r) ∧ Drawn0 w w' := by
  have H : ((bits_Len64.f a0).bind fun t176 => (some (wrap64 (64 - t176)))) = some r := h
  clear h
  replace H := Option.bind_eq_some_iff.mp H
  obtain ⟨t176, A20, H⟩ := H
  replace H : (some (wrap64 (64 - t176))) = some r := H
  have A2 := Aside0.mk A20
  clear A20
  obtain rfl := Option.some.inj H
  go_enter Tryd.func100, Tryd.ntmps100
  go_wp2_with (first | ((with_reducible refine gate_callee (f := 116) rfl ?_); refine goesL_ (some 4) rfl rfl Tryd.func116 (by kernel_rfl) rfl #[.int .u64 a0] rfl (by (try simp only [List.map_toArray, List.map_cons, List.map_nil]); first | done | rfl | (simp only [List.length_drop, List.length_take]; rfl)) ?_; (with_reducible refine (bits_Len64.calls a0 t176 _ A2.out).mono ?_); rintro e w' ⟨rfl, ⟨nd, rfl⟩⟩; refine ⟨_, rfl, ?_⟩))
  go_ret
  exact ⟨by first | rfl | (simp; done) | (simp [*]; done), by repeat (first | exact Drawn0.refl _ | apply Drawn0.step)⟩
end Go.Proofs.YtiifnofghicnaaaDoor.PAll
