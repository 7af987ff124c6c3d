/- Printed by the kit's print.py, called for several laws at once: functions as plain Lean, and the walks' contracts. -/
import Derived.Test.YtiifnofghicnaaaDoorQAllx0
import Derived.Test.YtiifnofghicnaaaDoorQAllx6
namespace Go.Proofs.YtiifnofghicnaaaDoor.PAll
open Go.RowKit Go.Proofs.YtiifnofghicnaaaDoorW.PrintWords Go.Proofs.YtiifnofghicnaaaDoorW.PrintLast Go.Proofs.YtiifnofghicnaaaDoorW.PrintMore
attribute [local go_sem] max2_int min2_int max_two min_two max_three min_three max_four min_four   -- for this text's walks alone
set_option linter.unusedVariables false
set_option linter.unusedSimpArgs false
/-! ### spec_Divided: function 30 -/
mutual
def spec_Divided.l0 : Nat → List Int → List Int → List Int → List Int → Int → Option (List Int × List Int)
  | 0, _, _, _, _, _ => none
  | k + 1, x0, x1, x4, x5, x7 => if x7 ≥ 0 then ((spec_Plus.f k x5 x5).bind fun t159 => ((spec_Big_Bit.f x0 x7).bind fun t162 => (if t162 = true then ((spec_Plus.f k t159 (([1] : List Int))).bind fun t166 => (spec_Divided.j1 k x0 x1 x4 t166 x7)) else (spec_Divided.j1 k x0 x1 x4 t159 x7)))) else (some (x4, x5))
def spec_Divided.j1 : Nat → List Int → List Int → List Int → List Int → Int → Option (List Int × List Int)
  | 0, _, _, _, _, _ => none
  | k + 1, x0, x1, x4, x5, x7 => (spec_Plus.f k x4 x4).bind fun t169 => ((spec_Compare.f k x5 x1).bind fun t172 => (if t172 ≥ 0 then ((spec_Minus.f k x5 x1).bind fun t173 => ((spec_Plus.f k t169 (([1] : List Int))).bind fun t179 => (spec_Divided.l0 k x0 x1 t179 t173 (wrap64 (x7 - 1))))) else (spec_Divided.l0 k x0 x1 t169 x5 (wrap64 (x7 - 1)))))
end
def spec_Divided.f (k : Nat) (l0 : List Int) (l1 : List Int) : Option (List Int × List Int) := (spec_Big_Length.f k l0).bind fun t158 => (spec_Divided.l0 k l0 l1 ([] : List Int) ([] : List Int) (wrap64 (t158 - 1)))
theorem spec_Divided.mono_l : ∀ k, (∀ y0 y1 y2 y3 y4, LeO (spec_Divided.l0 k y0 y1 y2 y3 y4) (spec_Divided.l0 (k + 1) y0 y1 y2 y3 y4)) ∧ (∀ y0 y1 y2 y3 y4, LeO (spec_Divided.j1 k y0 y1 y2 y3 y4) (spec_Divided.j1 (k + 1) y0 y1 y2 y3 y4))
  | 0 => ⟨fun _ _ _ _ _ r h => by simp [spec_Divided.l0] at h, fun _ _ _ _ _ r h => by simp [spec_Divided.j1] at h⟩
  | k + 1 => by
    obtain ⟨ih0, ih1⟩ := spec_Divided.mono_l k
    refine ⟨?_, ?_⟩
    · intro y0 y1 y2 y3 y4
      unfold spec_Divided.l0
      repeat' first
      | (with_reducible exact ih0 _ _ _ _ _)
      | (with_reducible exact ih1 _ _ _ _ _)
      | (with_reducible exact spec_Big_Length.mono _ _)
      | (with_reducible exact spec_Compare.mono _ _ _)
      | (with_reducible exact spec_Minus.mono _ _ _)
      | (with_reducible exact spec_Plus.mono _ _ _)
      | (with_reducible exact LeO.refl _)
      | (with_reducible exact LeO.none _)
      | (with_reducible refine LeO.ite ?_ ?_)
      | (with_reducible refine LeO.bind ?_ (fun _ => ?_))
      | exact ih0 _ _ _ _ _
      | exact ih1 _ _ _ _ _
      | exact spec_Big_Length.mono _ _
      | exact spec_Compare.mono _ _ _
      | exact spec_Minus.mono _ _ _
      | exact spec_Plus.mono _ _ _
      | exact LeO.none _
      | refine LeO.ite ?_ ?_
      | refine LeO.bind ?_ (fun _ => ?_)
    · intro y0 y1 y2 y3 y4
      unfold spec_Divided.j1
      repeat' first
      | (with_reducible exact ih0 _ _ _ _ _)
      | (with_reducible exact ih1 _ _ _ _ _)
      | (with_reducible exact spec_Big_Length.mono _ _)
      | (with_reducible exact spec_Compare.mono _ _ _)
      | (with_reducible exact spec_Minus.mono _ _ _)
      | (with_reducible exact spec_Plus.mono _ _ _)
      | (with_reducible exact LeO.refl _)
      | (with_reducible exact LeO.none _)
      | (with_reducible refine LeO.ite ?_ ?_)
      | (with_reducible refine LeO.bind ?_ (fun _ => ?_))
      | exact ih0 _ _ _ _ _
      | exact ih1 _ _ _ _ _
      | exact spec_Big_Length.mono _ _
      | exact spec_Compare.mono _ _ _
      | exact spec_Minus.mono _ _ _
      | exact spec_Plus.mono _ _ _
      | exact LeO.none _
      | refine LeO.ite ?_ ?_
      | refine LeO.bind ?_ (fun _ => ?_)
theorem spec_Divided.mono : ∀ a0 a1 k, LeO (spec_Divided.f k a0 a1) (spec_Divided.f (k + 1) a0 a1) := by
  intro a0 a1 k
  obtain ⟨ih0, ih1⟩ := spec_Divided.mono_l k
  unfold spec_Divided.f
  repeat' first
      | (with_reducible exact ih0 _ _ _ _ _)
      | (with_reducible exact ih1 _ _ _ _ _)
      | (with_reducible exact spec_Big_Length.mono _ _)
      | (with_reducible exact spec_Compare.mono _ _ _)
      | (with_reducible exact spec_Minus.mono _ _ _)
      | (with_reducible exact spec_Plus.mono _ _ _)
      | (with_reducible exact LeO.refl _)
      | (with_reducible exact LeO.none _)
      | (with_reducible refine LeO.ite ?_ ?_)
      | (with_reducible refine LeO.bind ?_ (fun _ => ?_))
      | exact ih0 _ _ _ _ _
      | exact ih1 _ _ _ _ _
      | exact spec_Big_Length.mono _ _
      | exact spec_Compare.mono _ _ _
      | exact spec_Minus.mono _ _ _
      | exact spec_Plus.mono _ _ _
      | exact LeO.none _
      | refine LeO.ite ?_ ?_
      | refine LeO.bind ?_ (fun _ => ?_)
set_option maxHeartbeats 8000000 in
set_option maxRecDepth 100000 in
theorem spec_Divided.calls (k : Nat) (A0 : Option Addr) (c0 : Nat) (l0 : List Int) (A1 : Option Addr) (c1 : Nat) (l1 : List Int) (r1 : List Int) (r2 : List Int) (w : World) (hr0 : Kd.C (Kd.int .i64) w A0 l0.length l0) (hc0 : l0.length ≤ c0) (hr1 : Kd.C (Kd.int .i64) w A1 l1.length l1) (hc1 : l1.length ≤ c1) (h : spec_Divided.f k l0 l1 = some (r1, r2)) :
    Calls Tryd.prog 30 #[.slice A0 l0.length c0, .slice A1 l1.length c1] w fun e w' => ∃ v0_ v1_ : Value, e = .returned (.tuple #[v0_, v1_]) ∧ Kd.V (Kd.int .i64) 3 w' w.heap.size (fun k_ => (w.heap.size ≤ k_)) v0_ r1 ∧ Kd.V (Kd.int .i64) 3 w' w.heap.size (fun k_ => (w.heap.size ≤ k_)) v1_ r2 ∧ Below w.heap.size w w' := by
  have HR0 := Aside0.mk hr0
  have HC0 := Aside0.mk hc0
  clear hr0 hc0
  have HR1 := Aside0.mk hr1
  have HC1 := Aside0.mk hc1
  clear hr1 hc1
  have HB := Aside0.mk (Below.refl w.heap.size w)
  have H : ((spec_Big_Length.f k l0).bind fun t158 => (spec_Divided.l0 k l0 l1 ([] : List Int) ([] : List Int) (wrap64 (t158 - 1)))) = some (r1, r2) := h
  clear h
  replace H := Option.bind_eq_some_iff.mp H
  obtain ⟨t158, A30, H⟩ := H
  replace H : (spec_Divided.l0 k l0 l1 ([] : List Int) ([] : List Int) (wrap64 (t158 - 1))) = some (r1, r2) := H
  have A3 := Aside0.mk A30
  clear A30
  have H' := Aside0.mk H
  clear H
  go_enter Tryd.func30, Tryd.ntmps30
  go_wp2_with (first | ((with_reducible refine gate_callee (f := 19) rfl ?_); refine goesL_ (some 9) rfl rfl Tryd.func19 (by kernel_rfl) rfl #[.slice A0 l0.length c0] rfl (by (try simp only [List.map_toArray, List.map_cons, List.map_nil]); first | done | rfl | (simp only [List.length_drop, List.length_take]; rfl)) ?_; (with_reducible refine (spec_Big_Length.calls k _ _ l0 t158 _ ?side1 ?side2 A3.out).mono ?_); (case side1 => repeat (first | exact HR0.out | (with_reducible refine Kd.C_alloc ?_ _) | (with_reducible refine Kd.C_drewN ?_ _) | (with_reducible refine Kd.C_drew ?_))); (case side2 => exact HC0.out); rintro e w' ⟨rfl, ⟨nd, rfl⟩⟩; refine ⟨_, rfl, ?_⟩))
  go_loopg [4, 5, 7] k (fun kq v4 v5 v7 w' => ∃ (x4_1 : List Int) (x5_1 : List Int) (x7_1 : Int), v7 = .int .i64 x7_1 ∧ Aside0 (spec_Divided.l0 kq l0 l1 x4_1 x5_1 x7_1 = some (r1, r2)) ∧ Aside0 (kq ≤ k) ∧ Aside0 (Kd.V (Kd.int .i64) 3 w' w.heap.size (fun k_ => (w.heap.size ≤ k_)) v4 x4_1) ∧ Aside0 (Kd.V (Kd.int .i64) 3 w' w.heap.size (fun k_ => (w.heap.size ≤ k_)) v5 x5_1) ∧ Aside0 (Below w.heap.size w w'))
  case atStart => exact ⟨(([] : List Int)), (([] : List Int)), (wrap64 (t158 - 1)), (by first | rfl | (simp; done) | (simp [*]; done)), H', ⟨Nat.le_refl _⟩, ⟨Kd.V_nil _ _ _ _ _⟩, ⟨Kd.V_nil _ _ _ _ _⟩, ⟨by repeat (first | (with_reducible first | exact HB.out | apply below_alloc | apply pw_below_drewN | apply below_drew1) | exact HB.out)⟩⟩
  case round =>
    clear H'
    try clear c1
    try clear p2
    try clear c3
    obtain ⟨x4_1, x5_1, x7_1, rfl, HA, HK1, HO_4, HO_5, HB⟩ := hrel
    cases gk with
    | zero => exact absurd HA.out (by simp [spec_Divided.l0])
    | succ k1 =>
      have H := HA.out
      clear HA
      simp only [spec_Divided.l0] at H
      by_cases c4 : x7_1 ≥ 0
      · rw [if_pos c4] at H
        have c4b0 : decide (0 ≤ x7_1) = true := decide_eq_true c4
        clear c4
        replace H := Option.bind_eq_some_iff.mp H
        obtain ⟨t159, A50, H⟩ := H
        replace H : ((spec_Big_Bit.f l0 x7_1).bind fun t162 => (if t162 = true then ((spec_Plus.f k1 t159 (([1] : List Int))).bind fun t166 => (spec_Divided.j1 k1 l0 l1 x4_1 t166 x7_1)) else (spec_Divided.j1 k1 l0 l1 x4_1 t159 x7_1))) = some (r1, r2) := H
        have A5 := Aside0.mk A50
        clear A50
        replace H := Option.bind_eq_some_iff.mp H
        obtain ⟨t162, A60, H⟩ := H
        replace H : (if t162 = true then ((spec_Plus.f k1 t159 (([1] : List Int))).bind fun t166 => (spec_Divided.j1 k1 l0 l1 x4_1 t166 x7_1)) else (spec_Divided.j1 k1 l0 l1 x4_1 t159 x7_1)) = some (r1, r2) := H
        have A6 := Aside0.mk A60
        clear A60
        have HC7 := Aside0.mk H
        clear H
        obtain ⟨Ao8, co8, eo8⟩ := Kd.V_slice HO_5.out
        subst eo8
        go_upto_if 21 with (first | ((with_reducible refine gate_callee (f := 61) rfl ?_); refine goesL_ (some 18) rfl rfl Tryd.func61 (by kernel_rfl) rfl #[.slice Ao8 x5_1.length co8, .slice Ao8 x5_1.length co8] rfl (by (try simp only [List.map_toArray, List.map_cons, List.map_nil]); first | done | rfl | (simp only [List.length_drop, List.length_take]; rfl)) ?_; (with_reducible refine (spec_Plus.calls k1 _ _ x5_1 _ _ x5_1 t159 _ ?side1 ?side2 ?side3 ?side4 A5.out).mono ?_); (case side1 => repeat (first | exact (Kd.V_reads' HO_5.out).2.2 | (with_reducible refine Kd.C_alloc ?_ _) | (with_reducible refine Kd.C_drewN ?_ _) | (with_reducible refine Kd.C_drew ?_))); (case side2 => exact (Kd.V_reads' HO_5.out).2.1); (case side3 => repeat (first | exact (Kd.V_reads' HO_5.out).2.2 | (with_reducible refine Kd.C_alloc ?_ _) | (with_reducible refine Kd.C_drewN ?_ _) | (with_reducible refine Kd.C_drew ?_))); (case side4 => exact (Kd.V_reads' HO_5.out).2.1); rintro e w9 ⟨v160, rfl, ho0, hb⟩; refine ⟨_, rfl, ?_⟩; have n0_ := Aside0.mk (Kd.V_below (by (with_reducible repeat (first | apply Kd.V_alloc | apply Kd.V_drewN | apply Kd.V_drew)); exact HO_4.out) hb); have n1_ := Aside0.mk (Kd.V_below (by (with_reducible repeat (first | apply Kd.V_alloc | apply Kd.V_drewN | apply Kd.V_drew)); exact HO_5.out) hb); have n2_ := Aside0.mk (Kd.V_lower (Kd.V_mono (ok' := fun k_ => (w.heap.size ≤ k_)) ho0 (fun k_ hk_ => (Nat.le_trans (below_size (by repeat (first | (with_reducible first | exact HB.out | apply below_alloc | apply pw_below_drewN | apply below_drew1) | exact HB.out))) hk_))) (below_size (by repeat (first | (with_reducible first | exact HB.out | apply below_alloc | apply pw_below_drewN | apply below_drew1) | exact HB.out)))); have n3_ := Aside0.mk (below_step (by repeat (first | (with_reducible first | exact HB.out | apply below_alloc | apply pw_below_drewN | apply below_drew1) | exact HB.out)) hb); clear HO_4; clear HO_5; clear HB; have HO_4 := n0_; have HO_5 := n1_; have HO161 := n2_; have HB := n3_; clear n0_ n1_ n2_ n3_; (try clear hb); (try clear hb2); (try clear hk); (try clear hi); (try clear ho0)) | ((with_reducible refine gate_callee (f := 20) rfl ?_); refine goesL_ (some 21) rfl rfl Tryd.func20 (by kernel_rfl) rfl #[.slice A0 l0.length c0, .int .i64 x7_1] rfl (by (try simp only [List.map_toArray, List.map_cons, List.map_nil]); first | done | rfl | (simp only [List.length_drop, List.length_take]; rfl)) ?_; (with_reducible refine (spec_Big_Bit.calls _ _ l0 x7_1 t162 _ ?side1 ?side2 A6.out).mono ?_); (case side1 => repeat (first | exact (Kd.C_below HR0.out HB.out) | (with_reducible refine Kd.C_alloc ?_ _) | (with_reducible refine Kd.C_drewN ?_ _) | (with_reducible refine Kd.C_drew ?_))); (case side2 => exact HC0.out); rintro e w' ⟨rfl, ⟨nd, rfl⟩⟩; refine ⟨_, rfl, ?_⟩))
        (try simp only [Act.put, List.setIfInBounds_toArray, List.set_cons_zero, List.set_cons_succ])
        go_cut [5] (fun v5 wc => ∃ (kq : Nat) (x5_6 : List Int), Aside0 (spec_Divided.j1 kq l0 l1 x4_1 x5_6 x7_1 = some (r1, r2)) ∧ Aside0 (kq ≤ k1) ∧ Aside0 (Kd.V (Kd.int .i64) 3 wc w.heap.size (fun k_ => (w.heap.size ≤ k_)) u4 x4_1) ∧ Aside0 (Kd.V (Kd.int .i64) 3 wc w.heap.size (fun k_ => (w.heap.size ≤ k_)) v5 x5_6) ∧ Aside0 (Below w.heap.size w wc))
        case first =>
          have H := HC7.out
          clear HC7
          by_cases c10 : t162 = true
          · subst c10
            have H1 : ((spec_Plus.f k1 t159 (([1] : List Int))).bind fun t166 => (spec_Divided.j1 k1 l0 l1 x4_1 t166 x7_1)) = some (r1, r2) := by rw [if_pos rfl] at H; exact H
            clear H
            have H := H1
            clear H1
            obtain ⟨y163, hy163⟩ : ∃ y_ : List Int, y_ = (([1] : List Int)) := ⟨_, rfl⟩
            replace H : ((spec_Plus.f k1 t159 y163).bind fun t166 => (spec_Divided.j1 k1 l0 l1 x4_1 t166 x7_1)) = some (r1, r2) := by first | (rw [hy163]; with_reducible exact H) | (have H2_ := (Option.bind_some _ _).symm.trans H; rw [hy163]; with_reducible exact H2_) | (have H2_ := (Option.bind_some _ _).symm.trans H; with_reducible exact H2_) | with_reducible exact H | (rw [hy163]; exact H) | exact H
            have Ny163 := Aside0.mk hy163
            clear hy163
            replace H := Option.bind_eq_some_iff.mp H
            obtain ⟨t166, A110, H⟩ := H
            replace H : (spec_Divided.j1 k1 l0 l1 x4_1 t166 x7_1) = some (r1, r2) := H
            have A11 := Aside0.mk A110
            clear A110
            have H' := Aside0.mk H
            clear H
            go_wp2_with (first | ((with_reducible refine gate_dst (N := 23) rfl ?_); refine Kd.R_lit (Kd.int .i64) _ 3 ?hg (N := 23) ?hd (xs := ([1] : List Int)) (inner := [.int .i64 1]) (ok := fun _ => True) (okp := fun _ => True) ?hr ?hp (fun _ hk => hk) trivial (Below.refl _ _) (Nat.le_refl _) (by simp) ?_; (case hd => rfl); (case hg => rfl); (case hr => first | (go_simp; done) | (go_simp; rfl)); (case hp => exact (Reps.one (show Kd.M (Kd.int .i64) _ _ _ 1 [.int .i64 1] from rfl) (Reps.none _ _))); intro v164 w12 ho13 hb hg_ hnew_; clear hg_ hnew_; (first | rw [← Ny163.out] at ho13 | (simp only [Int.reduceToNat] at ho13; rw [← Ny163.out] at ho13)); have n0_ := Aside0.mk (Kd.V_elder' (by (with_reducible repeat (first | apply Kd.V_alloc | apply Kd.V_drewN | apply Kd.V_drew)); exact HO_4.out) (Kd.R_base ho13) hb); have n1_ := Aside0.mk (Kd.V_elder' (by (with_reducible repeat (first | apply Kd.V_alloc | apply Kd.V_drewN | apply Kd.V_drew)); exact HO_5.out) (Kd.R_base ho13) hb); have n2_ := Aside0.mk (Kd.V_elder' (by (with_reducible repeat (first | apply Kd.V_alloc | apply Kd.V_drewN | apply Kd.V_drew)); exact HO161.out) (Kd.R_base ho13) hb); have n3_ := Aside0.mk (Kd.R_lower (Kd.R_newM (M := fun k_ => (w.heap.size ≤ k_)) ho13 (below_size (by repeat (first | (with_reducible first | exact HB.out | apply below_alloc | apply pw_below_drewN | apply below_drew1) | exact HB.out))) (fun k_ h_ => h_)) (below_size (by repeat (first | (with_reducible first | exact HB.out | apply below_alloc | apply pw_below_drewN | apply below_drew1) | exact HB.out)))); have n4_ := Aside0.mk (below_step (by repeat (first | (with_reducible first | exact HB.out | apply below_alloc | apply pw_below_drewN | apply below_drew1) | exact HB.out)) hb); clear HO_4; clear HO_5; clear HO161; clear HB; have HO_4 := n0_; have HO_5 := n1_; have HO161 := n2_; have HO165 := n3_; have HB := n4_; clear n0_ n1_ n2_ n3_ n4_; clear hb ho13; obtain ⟨Ao14, co14, eo14⟩ := Kd.V_slice HO161.out; subst eo14; obtain ⟨Ao15, co15, eo15⟩ := Kd.R_slice HO165.out; subst eo15) | ((with_reducible refine gate_callee (f := 61) rfl ?_); refine goesL_ (some 24) rfl rfl Tryd.func61 (by kernel_rfl) rfl #[.slice Ao14 t159.length co14, .slice Ao15 y163.length co15] rfl (by (try simp only [List.map_toArray, List.map_cons, List.map_nil]); first | done | rfl | (simp only [List.length_drop, List.length_take]; rfl)) ?_; (with_reducible refine (spec_Plus.calls k1 _ _ t159 _ _ y163 t166 _ ?side1 ?side2 ?side3 ?side4 A11.out).mono ?_); (case side1 => repeat (first | exact (Kd.V_reads' HO161.out).2.2 | (with_reducible refine Kd.C_alloc ?_ _) | (with_reducible refine Kd.C_drewN ?_ _) | (with_reducible refine Kd.C_drew ?_))); (case side2 => exact (Kd.V_reads' HO161.out).2.1); (case side3 => repeat (first | exact (Kd.R_reads' HO165.out).2.2 | (with_reducible refine Kd.C_alloc ?_ _) | (with_reducible refine Kd.C_drewN ?_ _) | (with_reducible refine Kd.C_drew ?_))); (case side4 => exact (Kd.R_reads' HO165.out).2.1); rintro e w16 ⟨v167, rfl, ho0, hb⟩; refine ⟨_, rfl, ?_⟩; have n0_ := Aside0.mk (Kd.V_below (by (with_reducible repeat (first | apply Kd.V_alloc | apply Kd.V_drewN | apply Kd.V_drew)); exact HO_4.out) hb); have n1_ := Aside0.mk (Kd.V_below (by (with_reducible repeat (first | apply Kd.V_alloc | apply Kd.V_drewN | apply Kd.V_drew)); exact HO_5.out) hb); have n2_ := Aside0.mk (Kd.V_below (by (with_reducible repeat (first | apply Kd.V_alloc | apply Kd.V_drewN | apply Kd.V_drew)); exact HO161.out) hb); have n3_ := Aside0.mk (Kd.R_below (by (with_reducible repeat (first | apply Kd.R_alloc | apply Kd.R_drewN | apply Kd.R_drew)); exact HO165.out) hb); have n4_ := Aside0.mk (Kd.V_lower (Kd.V_mono (ok' := fun k_ => (w.heap.size ≤ k_) ∧ some k_ ≠ (.slice Ao15 y163.length co15 : Value).ownBlock) ho0 (fun k_ hk_ => ⟨(Nat.le_trans (below_size (by repeat (first | (with_reducible first | exact HB.out | apply below_alloc | apply pw_below_drewN | apply below_drew1) | exact HB.out))) hk_), (Kd.fresh' (Kd.R_lt (by (with_reducible repeat (first | apply Kd.R_alloc | apply Kd.R_drewN | apply Kd.R_drew)); exact HO165.out)) k_ hk_)⟩)) (below_size (by repeat (first | (with_reducible first | exact HB.out | apply below_alloc | apply pw_below_drewN | apply below_drew1) | exact HB.out)))); have n5_ := Aside0.mk (below_step (by repeat (first | (with_reducible first | exact HB.out | apply below_alloc | apply pw_below_drewN | apply below_drew1) | exact HB.out)) hb); clear HO_4; clear HO_5; clear HO161; clear HO165; clear HB; have HO_4 := n0_; have HO_5 := n1_; have HO161 := n2_; have HO165 := n3_; have HO168 := n4_; have HB := n5_; clear n0_ n1_ n2_ n3_ n4_ n5_; (try clear hb); (try clear hb2); (try clear hk); (try clear hi); (try clear ho0)))
            go_meet
            case rel => exact ⟨_, (t166), H', ⟨by have := HK1.out; first | omega | exact Nat.le_refl _⟩, ⟨by (with_reducible repeat (first | apply Kd.V_alloc | apply Kd.V_drewN | apply Kd.V_drew)); exact Kd.V_mono HO_4.out (fun _ hk => hk.1)⟩, ⟨by (with_reducible repeat (first | apply Kd.V_alloc | apply Kd.V_drewN | apply Kd.V_drew)); exact Kd.V_mono HO168.out (fun _ hk => hk.1)⟩, ⟨by repeat (first | (with_reducible first | exact HB.out | apply below_alloc | apply pw_below_drewN | apply below_drew1) | exact HB.out)⟩⟩
          · replace c10 := Bool.eq_false_iff.mpr c10
            subst c10
            have H1 : (spec_Divided.j1 k1 l0 l1 x4_1 t159 x7_1) = some (r1, r2) := by rw [if_neg (show ¬ (false = true) by decide)] at H; exact H
            clear H
            have H := H1
            clear H1
            have H' := Aside0.mk H
            clear H
            go_wp2
            go_meet
            case rel => exact ⟨_, (t159), H', ⟨by have := HK1.out; first | omega | exact Nat.le_refl _⟩, ⟨by (with_reducible repeat (first | apply Kd.V_alloc | apply Kd.V_drewN | apply Kd.V_drew)); exact HO_4.out⟩, ⟨by (with_reducible repeat (first | apply Kd.V_alloc | apply Kd.V_drewN | apply Kd.V_drew)); exact HO161.out⟩, ⟨by repeat (first | (with_reducible first | exact HB.out | apply below_alloc | apply pw_below_drewN | apply below_drew1) | exact HB.out)⟩⟩
        case rest =>
          clear HC7
          try clear c1
          try clear c2
          try clear p2
          try clear c3
          try clear c4
          try clear c4b0
          try clear c6
          try clear p6
          try clear c10
          try clear p2
          obtain ⟨kq, x5_6, HA, HJ6, HO_4, HO_5, HB⟩ := hcut
          cases kq with
          | zero => exact absurd HA.out (by simp [spec_Divided.j1])
          | succ kj6 =>
            have H := HA.out
            clear HA
            simp only [spec_Divided.j1] at H
            replace H := Option.bind_eq_some_iff.mp H
            obtain ⟨t169, A170, H⟩ := H
            replace H : ((spec_Compare.f kj6 x5_6 l1).bind fun t172 => (if t172 ≥ 0 then ((spec_Minus.f kj6 x5_6 l1).bind fun t173 => ((spec_Plus.f kj6 t169 (([1] : List Int))).bind fun t179 => (spec_Divided.l0 kj6 l0 l1 t179 t173 (wrap64 (x7_1 - 1))))) else (spec_Divided.l0 kj6 l0 l1 t169 x5_6 (wrap64 (x7_1 - 1))))) = some (r1, r2) := H
            have A17 := Aside0.mk A170
            clear A170
            replace H := Option.bind_eq_some_iff.mp H
            obtain ⟨t172, A180, H⟩ := H
            replace H : (if t172 ≥ 0 then ((spec_Minus.f kj6 x5_6 l1).bind fun t173 => ((spec_Plus.f kj6 t169 (([1] : List Int))).bind fun t179 => (spec_Divided.l0 kj6 l0 l1 t179 t173 (wrap64 (x7_1 - 1))))) else (spec_Divided.l0 kj6 l0 l1 t169 x5_6 (wrap64 (x7_1 - 1)))) = some (r1, r2) := H
            have A18 := Aside0.mk A180
            clear A180
            by_cases c19 : t172 ≥ 0
            · rw [if_pos c19] at H
              have c19b0 : decide (0 ≤ t172) = true := decide_eq_true c19
              clear c19
              replace H := Option.bind_eq_some_iff.mp H
              obtain ⟨t173, A200, H⟩ := H
              replace H : ((spec_Plus.f kj6 t169 (([1] : List Int))).bind fun t179 => (spec_Divided.l0 kj6 l0 l1 t179 t173 (wrap64 (x7_1 - 1)))) = some (r1, r2) := H
              have A20 := Aside0.mk A200
              clear A200
              obtain ⟨y176, hy176⟩ : ∃ y_ : List Int, y_ = (([1] : List Int)) := ⟨_, rfl⟩
              replace H : ((spec_Plus.f kj6 t169 y176).bind fun t179 => (spec_Divided.l0 kj6 l0 l1 t179 t173 (wrap64 (x7_1 - 1)))) = some (r1, r2) := by first | (rw [hy176]; with_reducible exact H) | (have H2_ := (Option.bind_some _ _).symm.trans H; rw [hy176]; with_reducible exact H2_) | (have H2_ := (Option.bind_some _ _).symm.trans H; with_reducible exact H2_) | with_reducible exact H | (rw [hy176]; exact H) | exact H
              have Ny176 := Aside0.mk hy176
              clear hy176
              replace H := Option.bind_eq_some_iff.mp H
              obtain ⟨t179, A210, H⟩ := H
              replace H : (spec_Divided.l0 kj6 l0 l1 t179 t173 (wrap64 (x7_1 - 1))) = some (r1, r2) := H
              have A21 := Aside0.mk A210
              clear A210
              have H' := Aside0.mk H
              clear H
              obtain ⟨Ao22, co22, eo22⟩ := Kd.V_slice HO_4.out
              subst eo22
              go_wp2_with (first | ((with_reducible refine gate_callee (f := 61) rfl ?_); refine goesL_ (some 27) rfl rfl Tryd.func61 (by kernel_rfl) rfl #[.slice Ao22 x4_1.length co22, .slice Ao22 x4_1.length co22] rfl (by (try simp only [List.map_toArray, List.map_cons, List.map_nil]); first | done | rfl | (simp only [List.length_drop, List.length_take]; rfl)) ?_; (with_reducible refine (spec_Plus.calls kj6 _ _ x4_1 _ _ x4_1 t169 _ ?side1 ?side2 ?side3 ?side4 A17.out).mono ?_); (case side1 => repeat (first | exact (Kd.V_reads' HO_4.out).2.2 | (with_reducible refine Kd.C_alloc ?_ _) | (with_reducible refine Kd.C_drewN ?_ _) | (with_reducible refine Kd.C_drew ?_))); (case side2 => exact (Kd.V_reads' HO_4.out).2.1); (case side3 => repeat (first | exact (Kd.V_reads' HO_4.out).2.2 | (with_reducible refine Kd.C_alloc ?_ _) | (with_reducible refine Kd.C_drewN ?_ _) | (with_reducible refine Kd.C_drew ?_))); (case side4 => exact (Kd.V_reads' HO_4.out).2.1); rintro e w23 ⟨v170, rfl, ho0, hb⟩; refine ⟨_, rfl, ?_⟩; have n0_ := Aside0.mk (Kd.V_below (by (with_reducible repeat (first | apply Kd.V_alloc | apply Kd.V_drewN | apply Kd.V_drew)); exact HO_4.out) hb); have n1_ := Aside0.mk (Kd.V_below (by (with_reducible repeat (first | apply Kd.V_alloc | apply Kd.V_drewN | apply Kd.V_drew)); exact HO_5.out) hb); have n2_ := Aside0.mk (Kd.V_lower (Kd.V_mono (ok' := fun k_ => (w.heap.size ≤ k_)) ho0 (fun k_ hk_ => (Nat.le_trans (below_size (by repeat (first | (with_reducible first | exact HB.out | apply below_alloc | apply pw_below_drewN | apply below_drew1) | exact HB.out))) hk_))) (below_size (by repeat (first | (with_reducible first | exact HB.out | apply below_alloc | apply pw_below_drewN | apply below_drew1) | exact HB.out)))); have n3_ := Aside0.mk (below_step (by repeat (first | (with_reducible first | exact HB.out | apply below_alloc | apply pw_below_drewN | apply below_drew1) | exact HB.out)) hb); clear HO_4; clear HO_5; clear HB; have HO_4 := n0_; have HO_5 := n1_; have HO171 := n2_; have HB := n3_; clear n0_ n1_ n2_ n3_; (try clear hb); (try clear hb2); (try clear hk); (try clear hi); (try clear ho0); obtain ⟨Ao24, co24, eo24⟩ := Kd.V_slice HO_5.out; subst eo24) | ((with_reducible refine gate_callee (f := 62) rfl ?_); refine goesL_ (some 30) rfl rfl Tryd.func62 (by kernel_rfl) rfl #[.slice Ao24 x5_6.length co24, .slice A1 l1.length c1] rfl (by (try simp only [List.map_toArray, List.map_cons, List.map_nil]); first | done | rfl | (simp only [List.length_drop, List.length_take]; rfl)) ?_; (with_reducible refine (spec_Compare.calls kj6 _ _ x5_6 _ _ l1 t172 _ ?side1 ?side2 ?side3 ?side4 A18.out).mono ?_); (case side1 => repeat (first | exact (Kd.V_reads' HO_5.out).2.2 | (with_reducible refine Kd.C_alloc ?_ _) | (with_reducible refine Kd.C_drewN ?_ _) | (with_reducible refine Kd.C_drew ?_))); (case side2 => exact (Kd.V_reads' HO_5.out).2.1); (case side3 => repeat (first | exact (Kd.C_below HR1.out HB.out) | (with_reducible refine Kd.C_alloc ?_ _) | (with_reducible refine Kd.C_drewN ?_ _) | (with_reducible refine Kd.C_drew ?_))); (case side4 => exact HC1.out); rintro e w' ⟨rfl, ⟨nd, rfl⟩⟩; refine ⟨_, rfl, ?_⟩) | ((with_reducible refine gate_callee (f := 16) rfl ?_); refine goesL_ (some 34) rfl rfl Tryd.func16 (by kernel_rfl) rfl #[.slice Ao24 x5_6.length co24, .slice A1 l1.length c1] rfl (by (try simp only [List.map_toArray, List.map_cons, List.map_nil]); first | done | rfl | (simp only [List.length_drop, List.length_take]; rfl)) ?_; (with_reducible refine (spec_Minus.calls kj6 _ _ x5_6 _ _ l1 t173 _ ?side1 ?side2 ?side3 ?side4 A20.out).mono ?_); (case side1 => repeat (first | exact (Kd.V_reads' HO_5.out).2.2 | (with_reducible refine Kd.C_alloc ?_ _) | (with_reducible refine Kd.C_drewN ?_ _) | (with_reducible refine Kd.C_drew ?_))); (case side2 => exact (Kd.V_reads' HO_5.out).2.1); (case side3 => repeat (first | exact (Kd.C_below HR1.out (by repeat (first | (with_reducible first | exact HB.out | apply below_alloc | apply pw_below_drewN | apply below_drew1) | exact HB.out))) | (with_reducible refine Kd.C_alloc ?_ _) | (with_reducible refine Kd.C_drewN ?_ _) | (with_reducible refine Kd.C_drew ?_))); (case side4 => exact HC1.out); rintro e w25 ⟨v174, rfl, ho0, hb⟩; refine ⟨_, rfl, ?_⟩; have n0_ := Aside0.mk (Kd.V_below (by (with_reducible repeat (first | apply Kd.V_alloc | apply Kd.V_drewN | apply Kd.V_drew)); exact HO_4.out) hb); have n1_ := Aside0.mk (Kd.V_below (by (with_reducible repeat (first | apply Kd.V_alloc | apply Kd.V_drewN | apply Kd.V_drew)); exact HO_5.out) hb); have n2_ := Aside0.mk (Kd.V_below (by (with_reducible repeat (first | apply Kd.V_alloc | apply Kd.V_drewN | apply Kd.V_drew)); exact HO171.out) hb); have n3_ := Aside0.mk (Kd.V_lower (Kd.V_mono (ok' := fun k_ => (w.heap.size ≤ k_)) ho0 (fun k_ hk_ => (Nat.le_trans (below_size (by repeat (first | (with_reducible first | exact HB.out | apply below_alloc | apply pw_below_drewN | apply below_drew1) | exact HB.out))) hk_))) (below_size (by repeat (first | (with_reducible first | exact HB.out | apply below_alloc | apply pw_below_drewN | apply below_drew1) | exact HB.out)))); have n4_ := Aside0.mk (below_step (by repeat (first | (with_reducible first | exact HB.out | apply below_alloc | apply pw_below_drewN | apply below_drew1) | exact HB.out)) hb); clear HO_4; clear HO_5; clear HO171; clear HB; have HO_4 := n0_; have HO_5 := n1_; have HO171 := n2_; have HO175 := n3_; have HB := n4_; clear n0_ n1_ n2_ n3_ n4_; (try clear hb); (try clear hb2); (try clear hk); (try clear hi); (try clear ho0)) | ((with_reducible refine gate_dst (N := 36) rfl ?_); refine Kd.R_lit (Kd.int .i64) _ 3 ?hg (N := 36) ?hd (xs := ([1] : List Int)) (inner := [.int .i64 1]) (ok := fun _ => True) (okp := fun _ => True) ?hr ?hp (fun _ hk => hk) trivial (Below.refl _ _) (Nat.le_refl _) (by simp) ?_; (case hd => rfl); (case hg => rfl); (case hr => first | (go_simp; done) | (go_simp; rfl)); (case hp => exact (Reps.one (show Kd.M (Kd.int .i64) _ _ _ 1 [.int .i64 1] from rfl) (Reps.none _ _))); intro v177 w26 ho27 hb hg_ hnew_; clear hg_ hnew_; (first | rw [← Ny176.out] at ho27 | (simp only [Int.reduceToNat] at ho27; rw [← Ny176.out] at ho27)); have n0_ := Aside0.mk (Kd.V_elder' (by (with_reducible repeat (first | apply Kd.V_alloc | apply Kd.V_drewN | apply Kd.V_drew)); exact HO_4.out) (Kd.R_base ho27) hb); have n1_ := Aside0.mk (Kd.V_elder' (by (with_reducible repeat (first | apply Kd.V_alloc | apply Kd.V_drewN | apply Kd.V_drew)); exact HO_5.out) (Kd.R_base ho27) hb); have n2_ := Aside0.mk (Kd.V_elder' (by (with_reducible repeat (first | apply Kd.V_alloc | apply Kd.V_drewN | apply Kd.V_drew)); exact HO171.out) (Kd.R_base ho27) hb); have n3_ := Aside0.mk (Kd.V_elder' (by (with_reducible repeat (first | apply Kd.V_alloc | apply Kd.V_drewN | apply Kd.V_drew)); exact HO175.out) (Kd.R_base ho27) hb); have n4_ := Aside0.mk (Kd.R_lower (Kd.R_newM (M := fun k_ => (w.heap.size ≤ k_)) ho27 (below_size (by repeat (first | (with_reducible first | exact HB.out | apply below_alloc | apply pw_below_drewN | apply below_drew1) | exact HB.out))) (fun k_ h_ => h_)) (below_size (by repeat (first | (with_reducible first | exact HB.out | apply below_alloc | apply pw_below_drewN | apply below_drew1) | exact HB.out)))); have n5_ := Aside0.mk (below_step (by repeat (first | (with_reducible first | exact HB.out | apply below_alloc | apply pw_below_drewN | apply below_drew1) | exact HB.out)) hb); clear HO_4; clear HO_5; clear HO171; clear HO175; clear HB; have HO_4 := n0_; have HO_5 := n1_; have HO171 := n2_; have HO175 := n3_; have HO178 := n4_; have HB := n5_; clear n0_ n1_ n2_ n3_ n4_ n5_; clear hb ho27; obtain ⟨Ao28, co28, eo28⟩ := Kd.V_slice HO171.out; subst eo28; obtain ⟨Ao29, co29, eo29⟩ := Kd.R_slice HO178.out; subst eo29) | ((with_reducible refine gate_callee (f := 61) rfl ?_); refine goesL_ (some 37) rfl rfl Tryd.func61 (by kernel_rfl) rfl #[.slice Ao28 t169.length co28, .slice Ao29 y176.length co29] rfl (by (try simp only [List.map_toArray, List.map_cons, List.map_nil]); first | done | rfl | (simp only [List.length_drop, List.length_take]; rfl)) ?_; (with_reducible refine (spec_Plus.calls kj6 _ _ t169 _ _ y176 t179 _ ?side1 ?side2 ?side3 ?side4 A21.out).mono ?_); (case side1 => repeat (first | exact (Kd.V_reads' HO171.out).2.2 | (with_reducible refine Kd.C_alloc ?_ _) | (with_reducible refine Kd.C_drewN ?_ _) | (with_reducible refine Kd.C_drew ?_))); (case side2 => exact (Kd.V_reads' HO171.out).2.1); (case side3 => repeat (first | exact (Kd.R_reads' HO178.out).2.2 | (with_reducible refine Kd.C_alloc ?_ _) | (with_reducible refine Kd.C_drewN ?_ _) | (with_reducible refine Kd.C_drew ?_))); (case side4 => exact (Kd.R_reads' HO178.out).2.1); rintro e w30 ⟨v180, rfl, ho0, hb⟩; refine ⟨_, rfl, ?_⟩; have n0_ := Aside0.mk (Kd.V_below (by (with_reducible repeat (first | apply Kd.V_alloc | apply Kd.V_drewN | apply Kd.V_drew)); exact HO_4.out) hb); have n1_ := Aside0.mk (Kd.V_below (by (with_reducible repeat (first | apply Kd.V_alloc | apply Kd.V_drewN | apply Kd.V_drew)); exact HO_5.out) hb); have n2_ := Aside0.mk (Kd.V_below (by (with_reducible repeat (first | apply Kd.V_alloc | apply Kd.V_drewN | apply Kd.V_drew)); exact HO171.out) hb); have n3_ := Aside0.mk (Kd.V_below (by (with_reducible repeat (first | apply Kd.V_alloc | apply Kd.V_drewN | apply Kd.V_drew)); exact HO175.out) hb); have n4_ := Aside0.mk (Kd.R_below (by (with_reducible repeat (first | apply Kd.R_alloc | apply Kd.R_drewN | apply Kd.R_drew)); exact HO178.out) hb); have n5_ := Aside0.mk (Kd.V_lower (Kd.V_mono (ok' := fun k_ => (w.heap.size ≤ k_) ∧ some k_ ≠ (.slice Ao29 y176.length co29 : Value).ownBlock) ho0 (fun k_ hk_ => ⟨(Nat.le_trans (below_size (by repeat (first | (with_reducible first | exact HB.out | apply below_alloc | apply pw_below_drewN | apply below_drew1) | exact HB.out))) hk_), (Kd.fresh' (Kd.R_lt (by (with_reducible repeat (first | apply Kd.R_alloc | apply Kd.R_drewN | apply Kd.R_drew)); exact HO178.out)) k_ hk_)⟩)) (below_size (by repeat (first | (with_reducible first | exact HB.out | apply below_alloc | apply pw_below_drewN | apply below_drew1) | exact HB.out)))); have n6_ := Aside0.mk (below_step (by repeat (first | (with_reducible first | exact HB.out | apply below_alloc | apply pw_below_drewN | apply below_drew1) | exact HB.out)) hb); clear HO_4; clear HO_5; clear HO171; clear HO175; clear HO178; clear HB; have HO_4 := n0_; have HO_5 := n1_; have HO171 := n2_; have HO175 := n3_; have HO178 := n4_; have HO181 := n5_; have HB := n6_; clear n0_ n1_ n2_ n3_ n4_ n5_ n6_; (try clear hb); (try clear hb2); (try clear hk); (try clear hi); (try clear ho0)))
              go_roundg kj6
              case measure => have := HK1.out; have := HJ6.out; omega
              case rel => exact ⟨(t179), (t173), (wrap64 (x7_1 - 1)), (by first | rfl | (simp; done) | (simp [*]; done)), H', ⟨by have := HK1.out; have := HJ6.out; omega⟩, ⟨by (with_reducible repeat (first | apply Kd.V_alloc | apply Kd.V_drewN | apply Kd.V_drew)); exact Kd.V_mono HO181.out (fun _ hk => hk.1)⟩, ⟨by (with_reducible repeat (first | apply Kd.V_alloc | apply Kd.V_drewN | apply Kd.V_drew)); exact Kd.V_mono HO175.out (fun _ hk => hk.1)⟩, ⟨by repeat (first | (with_reducible first | exact HB.out | apply below_alloc | apply pw_below_drewN | apply below_drew1) | exact HB.out)⟩⟩
            · rw [if_neg c19] at H
              have c19b0 : decide (0 ≤ t172) = false := decide_eq_false c19
              clear c19
              have H' := Aside0.mk H
              clear H
              obtain ⟨Ao31, co31, eo31⟩ := Kd.V_slice HO_4.out
              subst eo31
              go_wp2_with (first | ((with_reducible refine gate_callee (f := 61) rfl ?_); refine goesL_ (some 27) rfl rfl Tryd.func61 (by kernel_rfl) rfl #[.slice Ao31 x4_1.length co31, .slice Ao31 x4_1.length co31] rfl (by (try simp only [List.map_toArray, List.map_cons, List.map_nil]); first | done | rfl | (simp only [List.length_drop, List.length_take]; rfl)) ?_; (with_reducible refine (spec_Plus.calls kj6 _ _ x4_1 _ _ x4_1 t169 _ ?side1 ?side2 ?side3 ?side4 A17.out).mono ?_); (case side1 => repeat (first | exact (Kd.V_reads' HO_4.out).2.2 | (with_reducible refine Kd.C_alloc ?_ _) | (with_reducible refine Kd.C_drewN ?_ _) | (with_reducible refine Kd.C_drew ?_))); (case side2 => exact (Kd.V_reads' HO_4.out).2.1); (case side3 => repeat (first | exact (Kd.V_reads' HO_4.out).2.2 | (with_reducible refine Kd.C_alloc ?_ _) | (with_reducible refine Kd.C_drewN ?_ _) | (with_reducible refine Kd.C_drew ?_))); (case side4 => exact (Kd.V_reads' HO_4.out).2.1); rintro e w32 ⟨v170, rfl, ho0, hb⟩; refine ⟨_, rfl, ?_⟩; have n0_ := Aside0.mk (Kd.V_below (by (with_reducible repeat (first | apply Kd.V_alloc | apply Kd.V_drewN | apply Kd.V_drew)); exact HO_4.out) hb); have n1_ := Aside0.mk (Kd.V_below (by (with_reducible repeat (first | apply Kd.V_alloc | apply Kd.V_drewN | apply Kd.V_drew)); exact HO_5.out) hb); have n2_ := Aside0.mk (Kd.V_lower (Kd.V_mono (ok' := fun k_ => (w.heap.size ≤ k_)) ho0 (fun k_ hk_ => (Nat.le_trans (below_size (by repeat (first | (with_reducible first | exact HB.out | apply below_alloc | apply pw_below_drewN | apply below_drew1) | exact HB.out))) hk_))) (below_size (by repeat (first | (with_reducible first | exact HB.out | apply below_alloc | apply pw_below_drewN | apply below_drew1) | exact HB.out)))); have n3_ := Aside0.mk (below_step (by repeat (first | (with_reducible first | exact HB.out | apply below_alloc | apply pw_below_drewN | apply below_drew1) | exact HB.out)) hb); clear HO_4; clear HO_5; clear HB; have HO_4 := n0_; have HO_5 := n1_; have HO171 := n2_; have HB := n3_; clear n0_ n1_ n2_ n3_; (try clear hb); (try clear hb2); (try clear hk); (try clear hi); (try clear ho0); obtain ⟨Ao33, co33, eo33⟩ := Kd.V_slice HO_5.out; subst eo33) | ((with_reducible refine gate_callee (f := 62) rfl ?_); refine goesL_ (some 30) rfl rfl Tryd.func62 (by kernel_rfl) rfl #[.slice Ao33 x5_6.length co33, .slice A1 l1.length c1] rfl (by (try simp only [List.map_toArray, List.map_cons, List.map_nil]); first | done | rfl | (simp only [List.length_drop, List.length_take]; rfl)) ?_; (with_reducible refine (spec_Compare.calls kj6 _ _ x5_6 _ _ l1 t172 _ ?side1 ?side2 ?side3 ?side4 A18.out).mono ?_); (case side1 => repeat (first | exact (Kd.V_reads' HO_5.out).2.2 | (with_reducible refine Kd.C_alloc ?_ _) | (with_reducible refine Kd.C_drewN ?_ _) | (with_reducible refine Kd.C_drew ?_))); (case side2 => exact (Kd.V_reads' HO_5.out).2.1); (case side3 => repeat (first | exact (Kd.C_below HR1.out HB.out) | (with_reducible refine Kd.C_alloc ?_ _) | (with_reducible refine Kd.C_drewN ?_ _) | (with_reducible refine Kd.C_drew ?_))); (case side4 => exact HC1.out); rintro e w' ⟨rfl, ⟨nd, rfl⟩⟩; refine ⟨_, rfl, ?_⟩))
              go_roundg kj6
              case measure => have := HK1.out; have := HJ6.out; omega
              case rel => exact ⟨(t169), (x5_6), (wrap64 (x7_1 - 1)), (by first | rfl | (simp; done) | (simp [*]; done)), H', ⟨by have := HK1.out; have := HJ6.out; omega⟩, ⟨by (with_reducible repeat (first | apply Kd.V_alloc | apply Kd.V_drewN | apply Kd.V_drew)); exact HO171.out⟩, ⟨by (with_reducible repeat (first | apply Kd.V_alloc | apply Kd.V_drewN | apply Kd.V_drew)); exact HO_5.out⟩, ⟨by repeat (first | (with_reducible first | exact HB.out | apply below_alloc | apply pw_below_drewN | apply below_drew1) | exact HB.out)⟩⟩
      · rw [if_neg c4] at H
        have c4b0 : decide (0 ≤ x7_1) = false := decide_eq_false c4
        clear c4
        simp only [Option.some.injEq, Prod.mk.injEq] at H
        obtain ⟨rfl, rfl⟩ := H
        go_wp2
        go_ret2
        exact ⟨_, _, by first | rfl | (simp [errW_none, errW_some] <;> rfl) | (simp [*, errW_none, errW_some] <;> rfl), by (with_reducible repeat (first | apply Kd.V_alloc | apply Kd.V_drewN | apply Kd.V_drew)); exact HO_4.out, by (with_reducible repeat (first | apply Kd.V_alloc | apply Kd.V_drewN | apply Kd.V_drew)); exact HO_5.out, by repeat (first | (with_reducible first | exact HB.out | apply below_alloc | apply pw_below_drewN | apply below_drew1) | exact HB.out)⟩
end Go.Proofs.YtiifnofghicnaaaDoor.PAll
