/- Printed by the kit's print.py, called for several laws at once: functions as plain Lean, and the walks' contracts. -/
import Derived.Test.YtiifnofghicnaaaPAllx0
import Derived.Test.YtiifnofghicnaaaPAllx3
import Derived.Test.YtiifnofghicnaaaPAllx4
import Derived.Test.YtiifnofghicnaaaPAllx5
namespace Go.Proofs.Ytiifnofghicnaaa.PAll
open Go.RowKit Go.Proofs.YtiifnofghicnaaaW.PrintWords Go.Proofs.YtiifnofghicnaaaW.PrintLast Go.Proofs.YtiifnofghicnaaaW.PrintMore
attribute [local go_sem] max2_int min2_int max_two min_two max_three min_three max_four min_four   -- for this text's walks alone
set_option linter.unusedVariables false
set_option linter.unusedSimpArgs false

/-! ### uint128_Uint128_Cmp64: function 93 -/
def uint128_Uint128_Cmp64.j0 : Nat → Int → Bool → Int → Int → Option (Int)
  | 0, _, _, _, _ => none
  | k + 1, x1, x13, x269000, x269001 => if x13 = true then (some 0) else (if x269001 = 0 then (if x269000 < x1 then (some (-1)) else (some 1)) else (some 1))
def uint128_Uint128_Cmp64.f (k : Nat) (a0_0 : Int) (a0_1 : Int) (a1 : Int) : Option (Int) := if a0_1 = 0 then (uint128_Uint128_Cmp64.j0 k a1 (a0_0 == a1) a0_0 a0_1) else (uint128_Uint128_Cmp64.j0 k a1 false a0_0 a0_1)
theorem uint128_Uint128_Cmp64.mono_l : ∀ k, (∀ y0 y1 y2 y3, LeO (uint128_Uint128_Cmp64.j0 k y0 y1 y2 y3) (uint128_Uint128_Cmp64.j0 (k + 1) y0 y1 y2 y3))
  | 0 => fun _ _ _ _ r h => by simp [uint128_Uint128_Cmp64.j0] at h
  | k + 1 => by
    have ih0 := uint128_Uint128_Cmp64.mono_l k
    · intro y0 y1 y2 y3
      unfold uint128_Uint128_Cmp64.j0
      repeat' first
      | (with_reducible exact ih0 _ _ _ _)
      | (with_reducible exact LeO.refl _)
      | (with_reducible exact LeO.none _)
      | (with_reducible refine LeO.ite ?_ ?_)
      | (with_reducible refine LeO.bind ?_ (fun _ => ?_))
      | exact ih0 _ _ _ _
      | exact LeO.none _
      | refine LeO.ite ?_ ?_
      | refine LeO.bind ?_ (fun _ => ?_)
theorem uint128_Uint128_Cmp64.mono : ∀ a0 a1 a2 k, LeO (uint128_Uint128_Cmp64.f k a0 a1 a2) (uint128_Uint128_Cmp64.f (k + 1) a0 a1 a2) := by
  intro a0 a1 a2 k
  have ih0 := uint128_Uint128_Cmp64.mono_l k
  unfold uint128_Uint128_Cmp64.f
  repeat' first
      | (with_reducible exact ih0 _ _ _ _)
      | (with_reducible exact LeO.refl _)
      | (with_reducible exact LeO.none _)
      | (with_reducible refine LeO.ite ?_ ?_)
      | (with_reducible refine LeO.bind ?_ (fun _ => ?_))
      | exact ih0 _ _ _ _
      | exact LeO.none _
      | refine LeO.ite ?_ ?_
      | refine LeO.bind ?_ (fun _ => ?_)
set_option maxHeartbeats 8000000 in
set_option maxRecDepth 100000 in
theorem uint128_Uint128_Cmp64.calls (k : Nat) (a0_0 : Int) (a0_1 : Int) (a1 : Int) (r : Int) (w : World) (h : uint128_Uint128_Cmp64.f k a0_0 a0_1 a1 = some r) :
    Calls Try.prog 93 #[.agg #[.int .u64 a0_0, .int .u64 a0_1], .int .u64 a1] w fun e w' => e = .returned (.int .i64 r) ∧ Below w.heap.size w w' := by
  have hu59 := Try.underlying59
  have HB := Aside0.mk (Below.refl w.heap.size w)
  have H : (if a0_1 = 0 then (uint128_Uint128_Cmp64.j0 k a1 (a0_0 == a1) a0_0 a0_1) else (uint128_Uint128_Cmp64.j0 k a1 false a0_0 a0_1)) = some r := h
  clear h
  have HC3 := Aside0.mk H
  clear H
  go_enter Try.func93, Try.ntmps93
  go_upto_region 1 with (first | ((with_reducible refine gate_dst (N := 2) rfl ?_); refine box_event ?hg (N := 2) ?hd (cs := #[.int .u64 a0_0, .int .u64 a0_1]) (t := 59) ?hr ?_; (case hd => rfl); (case hg => rfl); (case hr => first | (go_simp; done) | (go_simp; rfl)); intro gb268 hg w4 hbox hb; have n0_ := Aside0.mk (below_step (by repeat (first | (with_reducible first | exact HB.out | apply below_alloc | apply pw_below_drewN | apply below_drew1) | exact HB.out)) hb); have n1_ := Aside0.mk (hbox); have n2_ := Aside0.mk ((by rw [hg]; exact (below_size (by repeat (first | (with_reducible first | exact HB.out | apply below_alloc | apply pw_below_drewN | apply below_drew1) | exact HB.out))) : w.heap.size ≤ gb268)); have n3_ := Aside0.mk ((by rw [hg]; exact (below_size (by repeat (first | (with_reducible first | exact HB.out | apply below_alloc | apply pw_below_drewN | apply below_drew1) | exact HB.out))) : w.heap.size ≤ gb268)); clear HB; have HB := n0_; have BK268 := n1_; have GW268 := n2_; have GE268 := n3_; clear n0_ n1_ n2_ n3_; clear hb hbox hg))
  (try simp only [Act.put, List.setIfInBounds_toArray, List.set_cons_zero, List.set_cons_succ])
  go_cut [13] (fun v13 wc => ∃ (kq : Nat) (x13_2 : Bool), v13 = .bool x13_2 ∧ Aside0 (uint128_Uint128_Cmp64.j0 kq a1 x13_2 a0_0 a0_1 = some r) ∧ Aside0 (kq ≤ k) ∧ Aside0 (wc.heap[gb268]? = some (.cells #[.int .u64 a0_0, .int .u64 a0_1] 59 (0, 0))) ∧ Aside0 (Below w.heap.size w wc))
  case first =>
    have H := HC3.out
    clear HC3
    by_cases c5 : a0_1 = 0
    · rw [if_pos c5] at H
      have c5b0 : (a0_1 == 0) = true := beq_iff_eq.mpr c5
      have c5b1 : (a0_1 != 0) = false := bne_eq_false_iff_eq.mpr c5
      clear c5
      (first | rw [c5b0] | (simp only [i64_w, i32_w]; rw [c5b0]) | skip)
      have H' := Aside0.mk H
      clear H
      have hcz6_0 : w4.cell? ⟨gb268, 0, none⟩ = some (.int .u64 a0_0) := (blk_cell BK268.out 0).trans rfl
      have hcz6_1 : w4.cell? ⟨gb268, 1, none⟩ = some (.int .u64 a0_1) := (blk_cell BK268.out 1).trans rfl
      have hfz6_0 := blk_frozen BK268.out 0
      have hfz6_1 := blk_frozen BK268.out 1
      go_wp2
      go_meet
      case rel => exact ⟨_, ((a0_0 == a1)), (by first | rfl | (simp; done) | (simp [*]; done)), H', ⟨by first | omega | exact Nat.le_refl _⟩, ⟨by (with_reducible repeat (first | refine blk_drewN ?_ _ | refine blk_drew ?_ | refine blk_alloc ?_ _)); exact BK268.out⟩, ⟨by repeat (first | (with_reducible first | exact HB.out | apply below_alloc | apply pw_below_drewN | apply below_drew1 | refine below_set ?_ GE268.out) | exact HB.out)⟩⟩
    · rw [if_neg c5] at H
      have c5b0 : (a0_1 == 0) = false := beq_eq_false_iff_ne.mpr c5
      have c5b1 : (a0_1 != 0) = true := bne_iff_ne.mpr c5
      (first | rw [c5b0] | (simp only [i64_w, i32_w]; rw [c5b0]) | skip)
      have H' := Aside0.mk H
      clear H
      have hcz7_0 : w4.cell? ⟨gb268, 0, none⟩ = some (.int .u64 a0_0) := (blk_cell BK268.out 0).trans rfl
      have hcz7_1 : w4.cell? ⟨gb268, 1, none⟩ = some (.int .u64 a0_1) := (blk_cell BK268.out 1).trans rfl
      have hfz7_0 := blk_frozen BK268.out 0
      have hfz7_1 := blk_frozen BK268.out 1
      go_wp2
      go_meet
      case rel => exact ⟨_, (false), (by first | rfl | (simp; done) | (simp [*]; done)), H', ⟨by first | omega | exact Nat.le_refl _⟩, ⟨by (with_reducible repeat (first | refine blk_drewN ?_ _ | refine blk_drew ?_ | refine blk_alloc ?_ _)); exact BK268.out⟩, ⟨by repeat (first | (with_reducible first | exact HB.out | apply below_alloc | apply pw_below_drewN | apply below_drew1 | refine below_set ?_ GE268.out) | exact HB.out)⟩⟩
  case rest =>
    clear HC3
    try clear p2
    try clear c5
    try clear c5b0
    try clear c5b1
    try clear p6
    try clear hcz6_0
    try clear hcz6_1
    try clear hcz7_0
    try clear hcz7_1
    try clear hfz6_0
    try clear hfz6_1
    try clear hfz7_0
    try clear hfz7_1
    obtain ⟨kq, x13_2, rfl, HA, HJ2, BK268, HB⟩ := hcut
    cases kq with
    | zero => exact absurd HA.out (by simp [uint128_Uint128_Cmp64.j0])
    | succ kj2 =>
      have H := HA.out
      clear HA
      simp only [uint128_Uint128_Cmp64.j0] at H
      by_cases c8 : x13_2 = true
      · subst c8
        have H1 : (some 0) = some r := by rw [if_pos rfl] at H; exact H
        clear H
        have H := H1
        clear H1
        obtain rfl := Option.some.inj H
        go_wp2
        go_ret
        exact ⟨by first | rfl | (simp [errW_none, errW_some] <;> rfl) | (simp [*, errW_none, errW_some] <;> rfl), by repeat (first | (with_reducible first | exact HB.out | apply below_alloc | apply pw_below_drewN | apply below_drew1 | refine below_set ?_ GE268.out) | exact HB.out)⟩
      · replace c8 := Bool.eq_false_iff.mpr c8
        subst c8
        have H1 : (if a0_1 = 0 then (if a0_0 < a1 then (some (-1)) else (some 1)) else (some 1)) = some r := by rw [if_neg (show ¬ (false = true) by decide)] at H; exact H
        clear H
        have H := H1
        clear H1
        by_cases c9 : a0_1 = 0
        · rw [if_pos c9] at H
          have c9b0 : (a0_1 == 0) = true := beq_iff_eq.mpr c9
          have c9b1 : (a0_1 != 0) = false := bne_eq_false_iff_eq.mpr c9
          clear c9
          by_cases c10 : a0_0 < a1
          · rw [if_pos c10] at H
            have c10b0 : decide (a0_0 < a1) = true := decide_eq_true c10
            clear c10
            obtain rfl := Option.some.inj H
            have hcz11_0 : wc.cell? ⟨gb268, 0, none⟩ = some (.int .u64 a0_0) := (blk_cell BK268.out 0).trans rfl
            have hcz11_1 : wc.cell? ⟨gb268, 1, none⟩ = some (.int .u64 a0_1) := (blk_cell BK268.out 1).trans rfl
            have hfz11_0 := blk_frozen BK268.out 0
            have hfz11_1 := blk_frozen BK268.out 1
            go_wp2
            go_ret
            exact ⟨by first | rfl | (simp [errW_none, errW_some] <;> rfl) | (simp [*, errW_none, errW_some] <;> rfl), by repeat (first | (with_reducible first | exact HB.out | apply below_alloc | apply pw_below_drewN | apply below_drew1 | refine below_set ?_ GE268.out) | exact HB.out)⟩
          · rw [if_neg c10] at H
            have c10b0 : decide (a0_0 < a1) = false := decide_eq_false c10
            clear c10
            obtain rfl := Option.some.inj H
            have hcz12_0 : wc.cell? ⟨gb268, 0, none⟩ = some (.int .u64 a0_0) := (blk_cell BK268.out 0).trans rfl
            have hcz12_1 : wc.cell? ⟨gb268, 1, none⟩ = some (.int .u64 a0_1) := (blk_cell BK268.out 1).trans rfl
            have hfz12_0 := blk_frozen BK268.out 0
            have hfz12_1 := blk_frozen BK268.out 1
            go_wp2
            go_ret
            exact ⟨by first | rfl | (simp [errW_none, errW_some] <;> rfl) | (simp [*, errW_none, errW_some] <;> rfl), by repeat (first | (with_reducible first | exact HB.out | apply below_alloc | apply pw_below_drewN | apply below_drew1 | refine below_set ?_ GE268.out) | exact HB.out)⟩
        · rw [if_neg c9] at H
          have c9b0 : (a0_1 == 0) = false := beq_eq_false_iff_ne.mpr c9
          have c9b1 : (a0_1 != 0) = true := bne_iff_ne.mpr c9
          obtain rfl := Option.some.inj H
          have hcz13_0 : wc.cell? ⟨gb268, 0, none⟩ = some (.int .u64 a0_0) := (blk_cell BK268.out 0).trans rfl
          have hcz13_1 : wc.cell? ⟨gb268, 1, none⟩ = some (.int .u64 a0_1) := (blk_cell BK268.out 1).trans rfl
          have hfz13_0 := blk_frozen BK268.out 0
          have hfz13_1 := blk_frozen BK268.out 1
          go_wp2
          go_ret
          exact ⟨by first | rfl | (simp [errW_none, errW_some] <;> rfl) | (simp [*, errW_none, errW_some] <;> rfl), by repeat (first | (with_reducible first | exact HB.out | apply below_alloc | apply pw_below_drewN | apply below_drew1 | refine below_set ?_ GE268.out) | exact HB.out)⟩


/-! ### impl_WideCmp64: function 47 -/
def impl_WideCmp64.f (k : Nat) (a0_0 : Int) (a0_1 : Int) (a1 : Int) : Option (Int) := (impl_Wide_u.f a0_0 a0_1).bind fun bt270 => ((uint128_Uint128_Cmp64.f k bt270.1 bt270.2 a1).bind fun t272 => (some t272))
theorem impl_WideCmp64.mono : ∀ a0 a1 a2 k, LeO (impl_WideCmp64.f k a0 a1 a2) (impl_WideCmp64.f (k + 1) a0 a1 a2) := by
  intro a0 a1 a2 k
  unfold impl_WideCmp64.f
  repeat' first
      | (with_reducible exact uint128_Uint128_Cmp64.mono _ _ _ _)
      | (with_reducible exact LeO.refl _)
      | (with_reducible exact LeO.none _)
      | (with_reducible refine LeO.ite ?_ ?_)
      | (with_reducible refine LeO.bind ?_ (fun _ => ?_))
      | exact uint128_Uint128_Cmp64.mono _ _ _ _
      | exact LeO.none _
      | refine LeO.ite ?_ ?_
      | refine LeO.bind ?_ (fun _ => ?_)
set_option maxHeartbeats 8000000 in
set_option maxRecDepth 100000 in
theorem impl_WideCmp64.calls (k : Nat) (a0_0 : Int) (a0_1 : Int) (a1 : Int) (r : Int) (w : World) (h : impl_WideCmp64.f k a0_0 a0_1 a1 = some r) :
    Calls Try.prog 47 #[.agg #[.int .u64 a0_0, .int .u64 a0_1], .int .u64 a1] w fun e w' => e = .returned (.int .i64 r) ∧ Below w.heap.size w w' := by
  have hu24 := Try.underlying24
  have HB := Aside0.mk (Below.refl w.heap.size w)
  have H : ((impl_Wide_u.f a0_0 a0_1).bind fun bt270 => ((uint128_Uint128_Cmp64.f k bt270.1 bt270.2 a1).bind fun t272 => (some t272))) = some r := h
  clear h
  replace H := Option.bind_eq_some_iff.mp H
  obtain ⟨⟨t270, t271⟩, A30, H⟩ := H
  replace H : ((uint128_Uint128_Cmp64.f k t270 t271 a1).bind fun t272 => (some t272)) = some r := H
  have A3 := Aside0.mk A30
  clear A30
  replace H := Option.bind_eq_some_iff.mp H
  obtain ⟨t272, A40, H⟩ := H
  replace H : (some t272) = some r := H
  have A4 := Aside0.mk A40
  clear A40
  obtain rfl := Option.some.inj H
  go_enter Try.func47, Try.ntmps47
  go_wp2_with (first | ((with_reducible refine gate_dst (N := 2) rfl ?_); refine box_event ?hg (N := 2) ?hd (cs := #[.int .u64 a0_0, .int .u64 a0_1]) (t := 24) ?hr ?_; (case hd => rfl); (case hg => rfl); (case hr => first | (go_simp; done) | (go_simp; rfl)); intro gb269 hg w5 hbox hb; have n0_ := Aside0.mk (below_step (by repeat (first | (with_reducible first | exact HB.out | apply below_alloc | apply pw_below_drewN | apply below_drew1) | exact HB.out)) hb); have n1_ := Aside0.mk (hbox); have n2_ := Aside0.mk ((by rw [hg]; exact (below_size (by repeat (first | (with_reducible first | exact HB.out | apply below_alloc | apply pw_below_drewN | apply below_drew1) | exact HB.out))) : w.heap.size ≤ gb269)); have n3_ := Aside0.mk ((by rw [hg]; exact (below_size (by repeat (first | (with_reducible first | exact HB.out | apply below_alloc | apply pw_below_drewN | apply below_drew1) | exact HB.out))) : w.heap.size ≤ gb269)); clear HB; have HB := n0_; have BK269 := n1_; have GW269 := n2_; have GE269 := n3_; clear n0_ n1_ n2_ n3_; clear hb hbox hg; have hcz6_0 : w5.cell? ⟨gb269, 0, none⟩ = some (.int .u64 a0_0) := (blk_cell BK269.out 0).trans rfl; have hcz6_1 : w5.cell? ⟨gb269, 1, none⟩ = some (.int .u64 a0_1) := (blk_cell BK269.out 1).trans rfl; have hfz6_0 := blk_frozen BK269.out 0; have hfz6_1 := blk_frozen BK269.out 1) | ((with_reducible refine gate_callee (f := 76) rfl ?_); refine goesL_ (some 6) rfl rfl Try.func76 (by kernel_rfl) rfl #[.agg #[.int .u64 a0_0, .int .u64 a0_1]] rfl (by (try simp only [List.map_toArray, List.map_cons, List.map_nil]); first | done | rfl | (simp only [List.length_drop, List.length_take]; rfl)) ?_; (with_reducible refine (impl_Wide_u.calls a0_0 a0_1 t270 t271 _ A3.out).mono ?_); rintro e w7 ⟨rfl, hb⟩; refine ⟨_, rfl, ?_⟩; have n0_ := Aside0.mk (blk_below (g := gb269) (o := .cells #[.int .u64 a0_0, .int .u64 a0_1] 24 (0, 0)) (by (with_reducible repeat (first | refine blk_drewN ?_ _ | refine blk_drew ?_ | refine blk_alloc ?_ _)); exact BK269.out) hb); have n1_ := Aside0.mk (below_step (by repeat (first | (with_reducible first | exact HB.out | apply below_alloc | apply pw_below_drewN | apply below_drew1 | refine below_set ?_ GE269.out) | exact HB.out)) hb); clear BK269; clear HB; have BK269 := n0_; have HB := n1_; clear n0_ n1_; (try clear hb); (try clear hb2); (try clear hk); (try clear hi)) | ((with_reducible refine gate_callee (f := 93) rfl ?_); refine goesL_ (some 8) rfl rfl Try.func93 (by kernel_rfl) rfl #[.agg #[.int .u64 t270, .int .u64 t271], .int .u64 a1] rfl (by (try simp only [List.map_toArray, List.map_cons, List.map_nil]); first | done | rfl | (simp only [List.length_drop, List.length_take]; rfl)) ?_; (with_reducible refine (uint128_Uint128_Cmp64.calls k t270 t271 a1 t272 _ A4.out).mono ?_); rintro e w8 ⟨rfl, hb⟩; refine ⟨_, rfl, ?_⟩; have n0_ := Aside0.mk (blk_below (g := gb269) (o := .cells #[.int .u64 a0_0, .int .u64 a0_1] 24 (0, 0)) (by (with_reducible repeat (first | refine blk_drewN ?_ _ | refine blk_drew ?_ | refine blk_alloc ?_ _)); exact BK269.out) hb); have n1_ := Aside0.mk (below_step (by repeat (first | (with_reducible first | exact HB.out | apply below_alloc | apply pw_below_drewN | apply below_drew1 | refine below_set ?_ GE269.out) | exact HB.out)) hb); clear BK269; clear HB; have BK269 := n0_; have HB := n1_; clear n0_ n1_; (try clear hb); (try clear hb2); (try clear hk); (try clear hi)))
  go_ret
  exact ⟨by first | rfl | (simp [errW_none, errW_some] <;> rfl) | (simp [*, errW_none, errW_some] <;> rfl), by repeat (first | (with_reducible first | exact HB.out | apply below_alloc | apply pw_below_drewN | apply below_drew1 | refine below_set ?_ GE269.out) | exact HB.out)⟩


/-! ### uint128_Uint128_Equals64: function 94 -/
def uint128_Uint128_Equals64.f (a0_0 : Int) (a0_1 : Int) (a1 : Int) : Option (Bool) := if a0_0 = a1 then (some (a0_1 == 0)) else (some false)
set_option maxHeartbeats 8000000 in
set_option maxRecDepth 100000 in
theorem uint128_Uint128_Equals64.calls (a0_0 : Int) (a0_1 : Int) (a1 : Int) (r : Bool) (w : World) (h : uint128_Uint128_Equals64.f a0_0 a0_1 a1 = some r) :
    Calls Try.prog 94 #[.agg #[.int .u64 a0_0, .int .u64 a0_1], .int .u64 a1] w fun e w' => e = .returned (.bool r) ∧ Below w.heap.size w w' := by
  have hu59 := Try.underlying59
  have HB := Aside0.mk (Below.refl w.heap.size w)
  have H : (if a0_0 = a1 then (some (a0_1 == 0)) else (some false)) = some r := h
  clear h
  by_cases c3 : a0_0 = a1
  · rw [if_pos c3] at H
    have c3b0 : (a0_0 == a1) = true := beq_iff_eq.mpr c3
    have c3b1 : (a0_0 != a1) = false := bne_eq_false_iff_eq.mpr c3
    clear c3
    obtain rfl := Option.some.inj H
    go_enter Try.func94, Try.ntmps94
    go_wp2_with (first | ((with_reducible refine gate_dst (N := 2) rfl ?_); refine box_event ?hg (N := 2) ?hd (cs := #[.int .u64 a0_0, .int .u64 a0_1]) (t := 59) ?hr ?_; (case hd => rfl); (case hg => rfl); (case hr => first | (go_simp; done) | (go_simp; rfl)); intro gb273 hg w4 hbox hb; have n0_ := Aside0.mk (below_step (by repeat (first | (with_reducible first | exact HB.out | apply below_alloc | apply pw_below_drewN | apply below_drew1) | exact HB.out)) hb); have n1_ := Aside0.mk (hbox); have n2_ := Aside0.mk ((by rw [hg]; exact (below_size (by repeat (first | (with_reducible first | exact HB.out | apply below_alloc | apply pw_below_drewN | apply below_drew1) | exact HB.out))) : w.heap.size ≤ gb273)); have n3_ := Aside0.mk ((by rw [hg]; exact (below_size (by repeat (first | (with_reducible first | exact HB.out | apply below_alloc | apply pw_below_drewN | apply below_drew1) | exact HB.out))) : w.heap.size ≤ gb273)); clear HB; have HB := n0_; have BK273 := n1_; have GW273 := n2_; have GE273 := n3_; clear n0_ n1_ n2_ n3_; clear hb hbox hg; have hcz5_0 : w4.cell? ⟨gb273, 0, none⟩ = some (.int .u64 a0_0) := (blk_cell BK273.out 0).trans rfl; have hcz5_1 : w4.cell? ⟨gb273, 1, none⟩ = some (.int .u64 a0_1) := (blk_cell BK273.out 1).trans rfl; have hfz5_0 := blk_frozen BK273.out 0; have hfz5_1 := blk_frozen BK273.out 1))
    go_ret
    exact ⟨by first | rfl | (simp [errW_none, errW_some] <;> rfl) | (simp [*, errW_none, errW_some] <;> rfl), by repeat (first | (with_reducible first | exact HB.out | apply below_alloc | apply pw_below_drewN | apply below_drew1 | refine below_set ?_ GE273.out) | exact HB.out)⟩
  · rw [if_neg c3] at H
    have c3b0 : (a0_0 == a1) = false := beq_eq_false_iff_ne.mpr c3
    have c3b1 : (a0_0 != a1) = true := bne_iff_ne.mpr c3
    obtain rfl := Option.some.inj H
    go_enter Try.func94, Try.ntmps94
    go_wp2_with (first | ((with_reducible refine gate_dst (N := 2) rfl ?_); refine box_event ?hg (N := 2) ?hd (cs := #[.int .u64 a0_0, .int .u64 a0_1]) (t := 59) ?hr ?_; (case hd => rfl); (case hg => rfl); (case hr => first | (go_simp; done) | (go_simp; rfl)); intro gb273 hg w6 hbox hb; have n0_ := Aside0.mk (below_step (by repeat (first | (with_reducible first | exact HB.out | apply below_alloc | apply pw_below_drewN | apply below_drew1) | exact HB.out)) hb); have n1_ := Aside0.mk (hbox); have n2_ := Aside0.mk ((by rw [hg]; exact (below_size (by repeat (first | (with_reducible first | exact HB.out | apply below_alloc | apply pw_below_drewN | apply below_drew1) | exact HB.out))) : w.heap.size ≤ gb273)); have n3_ := Aside0.mk ((by rw [hg]; exact (below_size (by repeat (first | (with_reducible first | exact HB.out | apply below_alloc | apply pw_below_drewN | apply below_drew1) | exact HB.out))) : w.heap.size ≤ gb273)); clear HB; have HB := n0_; have BK273 := n1_; have GW273 := n2_; have GE273 := n3_; clear n0_ n1_ n2_ n3_; clear hb hbox hg; have hcz7_0 : w6.cell? ⟨gb273, 0, none⟩ = some (.int .u64 a0_0) := (blk_cell BK273.out 0).trans rfl; have hcz7_1 : w6.cell? ⟨gb273, 1, none⟩ = some (.int .u64 a0_1) := (blk_cell BK273.out 1).trans rfl; have hfz7_0 := blk_frozen BK273.out 0; have hfz7_1 := blk_frozen BK273.out 1))
    go_ret
    exact ⟨by first | rfl | (simp [errW_none, errW_some] <;> rfl) | (simp [*, errW_none, errW_some] <;> rfl), by repeat (first | (with_reducible first | exact HB.out | apply below_alloc | apply pw_below_drewN | apply below_drew1 | refine below_set ?_ GE273.out) | exact HB.out)⟩


/-! ### impl_WideEquals64: function 48 -/
def impl_WideEquals64.f (a0_0 : Int) (a0_1 : Int) (a1 : Int) : Option (Bool) := (impl_Wide_u.f a0_0 a0_1).bind fun bt275 => ((uint128_Uint128_Equals64.f bt275.1 bt275.2 a1).bind fun t277 => (some t277))
set_option maxHeartbeats 8000000 in
set_option maxRecDepth 100000 in
theorem impl_WideEquals64.calls (a0_0 : Int) (a0_1 : Int) (a1 : Int) (r : Bool) (w : World) (h : impl_WideEquals64.f a0_0 a0_1 a1 = some r) :
    Calls Try.prog 48 #[.agg #[.int .u64 a0_0, .int .u64 a0_1], .int .u64 a1] w fun e w' => e = .returned (.bool r) ∧ Below w.heap.size w w' := by
  have hu24 := Try.underlying24
  have HB := Aside0.mk (Below.refl w.heap.size w)
  have H : ((impl_Wide_u.f a0_0 a0_1).bind fun bt275 => ((uint128_Uint128_Equals64.f bt275.1 bt275.2 a1).bind fun t277 => (some t277))) = some r := h
  clear h
  replace H := Option.bind_eq_some_iff.mp H
  obtain ⟨⟨t275, t276⟩, A30, H⟩ := H
  replace H : ((uint128_Uint128_Equals64.f t275 t276 a1).bind fun t277 => (some t277)) = some r := H
  have A3 := Aside0.mk A30
  clear A30
  replace H := Option.bind_eq_some_iff.mp H
  obtain ⟨t277, A40, H⟩ := H
  replace H : (some t277) = some r := H
  have A4 := Aside0.mk A40
  clear A40
  obtain rfl := Option.some.inj H
  go_enter Try.func48, Try.ntmps48
  go_wp2_with (first | ((with_reducible refine gate_dst (N := 2) rfl ?_); refine box_event ?hg (N := 2) ?hd (cs := #[.int .u64 a0_0, .int .u64 a0_1]) (t := 24) ?hr ?_; (case hd => rfl); (case hg => rfl); (case hr => first | (go_simp; done) | (go_simp; rfl)); intro gb274 hg w5 hbox hb; have n0_ := Aside0.mk (below_step (by repeat (first | (with_reducible first | exact HB.out | apply below_alloc | apply pw_below_drewN | apply below_drew1) | exact HB.out)) hb); have n1_ := Aside0.mk (hbox); have n2_ := Aside0.mk ((by rw [hg]; exact (below_size (by repeat (first | (with_reducible first | exact HB.out | apply below_alloc | apply pw_below_drewN | apply below_drew1) | exact HB.out))) : w.heap.size ≤ gb274)); have n3_ := Aside0.mk ((by rw [hg]; exact (below_size (by repeat (first | (with_reducible first | exact HB.out | apply below_alloc | apply pw_below_drewN | apply below_drew1) | exact HB.out))) : w.heap.size ≤ gb274)); clear HB; have HB := n0_; have BK274 := n1_; have GW274 := n2_; have GE274 := n3_; clear n0_ n1_ n2_ n3_; clear hb hbox hg; have hcz6_0 : w5.cell? ⟨gb274, 0, none⟩ = some (.int .u64 a0_0) := (blk_cell BK274.out 0).trans rfl; have hcz6_1 : w5.cell? ⟨gb274, 1, none⟩ = some (.int .u64 a0_1) := (blk_cell BK274.out 1).trans rfl; have hfz6_0 := blk_frozen BK274.out 0; have hfz6_1 := blk_frozen BK274.out 1) | ((with_reducible refine gate_callee (f := 76) rfl ?_); refine goesL_ (some 6) rfl rfl Try.func76 (by kernel_rfl) rfl #[.agg #[.int .u64 a0_0, .int .u64 a0_1]] rfl (by (try simp only [List.map_toArray, List.map_cons, List.map_nil]); first | done | rfl | (simp only [List.length_drop, List.length_take]; rfl)) ?_; (with_reducible refine (impl_Wide_u.calls a0_0 a0_1 t275 t276 _ A3.out).mono ?_); rintro e w7 ⟨rfl, hb⟩; refine ⟨_, rfl, ?_⟩; have n0_ := Aside0.mk (blk_below (g := gb274) (o := .cells #[.int .u64 a0_0, .int .u64 a0_1] 24 (0, 0)) (by (with_reducible repeat (first | refine blk_drewN ?_ _ | refine blk_drew ?_ | refine blk_alloc ?_ _)); exact BK274.out) hb); have n1_ := Aside0.mk (below_step (by repeat (first | (with_reducible first | exact HB.out | apply below_alloc | apply pw_below_drewN | apply below_drew1 | refine below_set ?_ GE274.out) | exact HB.out)) hb); clear BK274; clear HB; have BK274 := n0_; have HB := n1_; clear n0_ n1_; (try clear hb); (try clear hb2); (try clear hk); (try clear hi)) | ((with_reducible refine gate_callee (f := 94) rfl ?_); refine goesL_ (some 8) rfl rfl Try.func94 (by kernel_rfl) rfl #[.agg #[.int .u64 t275, .int .u64 t276], .int .u64 a1] rfl (by (try simp only [List.map_toArray, List.map_cons, List.map_nil]); first | done | rfl | (simp only [List.length_drop, List.length_take]; rfl)) ?_; (with_reducible refine (uint128_Uint128_Equals64.calls t275 t276 a1 t277 _ A4.out).mono ?_); rintro e w8 ⟨rfl, hb⟩; refine ⟨_, rfl, ?_⟩; have n0_ := Aside0.mk (blk_below (g := gb274) (o := .cells #[.int .u64 a0_0, .int .u64 a0_1] 24 (0, 0)) (by (with_reducible repeat (first | refine blk_drewN ?_ _ | refine blk_drew ?_ | refine blk_alloc ?_ _)); exact BK274.out) hb); have n1_ := Aside0.mk (below_step (by repeat (first | (with_reducible first | exact HB.out | apply below_alloc | apply pw_below_drewN | apply below_drew1 | refine below_set ?_ GE274.out) | exact HB.out)) hb); clear BK274; clear HB; have BK274 := n0_; have HB := n1_; clear n0_ n1_; (try clear hb); (try clear hb2); (try clear hk); (try clear hi)))
  go_ret
  exact ⟨by first | rfl | (simp [errW_none, errW_some] <;> rfl) | (simp [*, errW_none, errW_some] <;> rfl), by repeat (first | (with_reducible first | exact HB.out | apply below_alloc | apply pw_below_drewN | apply below_drew1 | refine below_set ?_ GE274.out) | exact HB.out)⟩


/-! ### laws_FnWideCmp64: function 10 -/
def laws_FnWideCmp64.f (k : Nat) (a0_0 : Int) (a0_1 : Int) (a1 : Int) : Option (Bool) := (laws_wideWhole.f a0_0 a0_1).bind fun t279 => ((laws_wideSmall.f a1).bind fun t282 => ((spec_Compare.f k t279 t282).bind fun t285 => ((impl_WideCmp64.f k a0_0 a0_1 a1).bind fun t286 => (if t286 = t285 then ((impl_WideEquals64.f a0_0 a0_1 a1).bind fun t287 => (if (t287 == (t285 == 0)) = true then ((impl_WideEquals64.f a1 0 a1).bind fun t288 => (some t288)) else (some false))) else (some false)))))
theorem laws_FnWideCmp64.mono : ∀ a0 a1 a2 k, LeO (laws_FnWideCmp64.f k a0 a1 a2) (laws_FnWideCmp64.f (k + 1) a0 a1 a2) := by
  intro a0 a1 a2 k
  unfold laws_FnWideCmp64.f
  repeat' first
      | (with_reducible exact impl_WideCmp64.mono _ _ _ _)
      | (with_reducible exact spec_Compare.mono _ _ _)
      | (with_reducible exact LeO.refl _)
      | (with_reducible exact LeO.none _)
      | (with_reducible refine LeO.ite ?_ ?_)
      | (with_reducible refine LeO.bind ?_ (fun _ => ?_))
      | exact impl_WideCmp64.mono _ _ _ _
      | exact spec_Compare.mono _ _ _
      | exact LeO.none _
      | refine LeO.ite ?_ ?_
      | refine LeO.bind ?_ (fun _ => ?_)
set_option maxHeartbeats 8000000 in
set_option maxRecDepth 100000 in
theorem laws_FnWideCmp64.calls (k : Nat) (a0_0 : Int) (a0_1 : Int) (a1 : Int) (r : Bool) (w : World) (h : laws_FnWideCmp64.f k a0_0 a0_1 a1 = some r) :
    Calls Try.prog 10 #[.agg #[.int .u64 a0_0, .int .u64 a0_1], .int .u64 a1] w fun e w' => e = .returned (.bool r) ∧ Below w.heap.size w w' := by
  have hu24 := Try.underlying24
  have HB := Aside0.mk (Below.refl w.heap.size w)
  have H : ((laws_wideWhole.f a0_0 a0_1).bind fun t279 => ((laws_wideSmall.f a1).bind fun t282 => ((spec_Compare.f k t279 t282).bind fun t285 => ((impl_WideCmp64.f k a0_0 a0_1 a1).bind fun t286 => (if t286 = t285 then ((impl_WideEquals64.f a0_0 a0_1 a1).bind fun t287 => (if (t287 == (t285 == 0)) = true then ((impl_WideEquals64.f a1 0 a1).bind fun t288 => (some t288)) else (some false))) else (some false)))))) = some r := h
  clear h
  replace H := Option.bind_eq_some_iff.mp H
  obtain ⟨t279, A30, H⟩ := H
  replace H : ((laws_wideSmall.f a1).bind fun t282 => ((spec_Compare.f k t279 t282).bind fun t285 => ((impl_WideCmp64.f k a0_0 a0_1 a1).bind fun t286 => (if t286 = t285 then ((impl_WideEquals64.f a0_0 a0_1 a1).bind fun t287 => (if (t287 == (t285 == 0)) = true then ((impl_WideEquals64.f a1 0 a1).bind fun t288 => (some t288)) else (some false))) else (some false))))) = some r := H
  have A3 := Aside0.mk A30
  clear A30
  replace H := Option.bind_eq_some_iff.mp H
  obtain ⟨t282, A40, H⟩ := H
  replace H : ((spec_Compare.f k t279 t282).bind fun t285 => ((impl_WideCmp64.f k a0_0 a0_1 a1).bind fun t286 => (if t286 = t285 then ((impl_WideEquals64.f a0_0 a0_1 a1).bind fun t287 => (if (t287 == (t285 == 0)) = true then ((impl_WideEquals64.f a1 0 a1).bind fun t288 => (some t288)) else (some false))) else (some false)))) = some r := H
  have A4 := Aside0.mk A40
  clear A40
  replace H := Option.bind_eq_some_iff.mp H
  obtain ⟨t285, A50, H⟩ := H
  replace H : ((impl_WideCmp64.f k a0_0 a0_1 a1).bind fun t286 => (if t286 = t285 then ((impl_WideEquals64.f a0_0 a0_1 a1).bind fun t287 => (if (t287 == (t285 == 0)) = true then ((impl_WideEquals64.f a1 0 a1).bind fun t288 => (some t288)) else (some false))) else (some false))) = some r := H
  have A5 := Aside0.mk A50
  clear A50
  replace H := Option.bind_eq_some_iff.mp H
  obtain ⟨t286, A60, H⟩ := H
  replace H : (if t286 = t285 then ((impl_WideEquals64.f a0_0 a0_1 a1).bind fun t287 => (if (t287 == (t285 == 0)) = true then ((impl_WideEquals64.f a1 0 a1).bind fun t288 => (some t288)) else (some false))) else (some false)) = some r := H
  have A6 := Aside0.mk A60
  clear A60
  by_cases c7 : t286 = t285
  · rw [if_pos c7] at H
    have c7b0 : (t286 == t285) = true := beq_iff_eq.mpr c7
    have c7b1 : (t286 != t285) = false := bne_eq_false_iff_eq.mpr c7
    clear c7
    replace H := Option.bind_eq_some_iff.mp H
    obtain ⟨t287, A80, H⟩ := H
    replace H : (if (t287 == (t285 == 0)) = true then ((impl_WideEquals64.f a1 0 a1).bind fun t288 => (some t288)) else (some false)) = some r := H
    have A8 := Aside0.mk A80
    clear A80
    by_cases c9 : (t287 == (t285 == 0)) = true
    · rw [if_pos c9] at H
      have c9b0 : (t287 == (t285 == 0)) = true := c9
      (try (have c9b1 : decide (t287 = (t285 == 0)) = true := by simpa using c9))
      (try (have c9b2 : (t287 == (t285 == 0)) = true := by simpa using c9))
      clear c9
      replace H := Option.bind_eq_some_iff.mp H
      obtain ⟨t288, A100, H⟩ := H
      replace H : (some t288) = some r := H
      have A10 := Aside0.mk A100
      clear A100
      obtain rfl := Option.some.inj H
      go_enter Try.func10, Try.ntmps10
      go_wp2_with (first | ((with_reducible refine gate_dst (N := 2) rfl ?_); refine box_event ?hg (N := 2) ?hd (cs := #[.int .u64 a0_0, .int .u64 a0_1]) (t := 24) ?hr ?_; (case hd => rfl); (case hg => rfl); (case hr => first | (go_simp; done) | (go_simp; rfl)); intro gb278 hg w11 hbox hb; have n0_ := Aside0.mk (below_step (by repeat (first | (with_reducible first | exact HB.out | apply below_alloc | apply pw_below_drewN | apply below_drew1) | exact HB.out)) hb); have n1_ := Aside0.mk (hbox); have n2_ := Aside0.mk ((by rw [hg]; exact (below_size (by repeat (first | (with_reducible first | exact HB.out | apply below_alloc | apply pw_below_drewN | apply below_drew1) | exact HB.out))) : w.heap.size ≤ gb278)); have n3_ := Aside0.mk ((by rw [hg]; exact (below_size (by repeat (first | (with_reducible first | exact HB.out | apply below_alloc | apply pw_below_drewN | apply below_drew1) | exact HB.out))) : w.heap.size ≤ gb278)); clear HB; have HB := n0_; have BK278 := n1_; have GW278 := n2_; have GE278 := n3_; clear n0_ n1_ n2_ n3_; clear hb hbox hg; have hcz12_0 : w11.cell? ⟨gb278, 0, none⟩ = some (.int .u64 a0_0) := (blk_cell BK278.out 0).trans rfl; have hcz12_1 : w11.cell? ⟨gb278, 1, none⟩ = some (.int .u64 a0_1) := (blk_cell BK278.out 1).trans rfl; have hfz12_0 := blk_frozen BK278.out 0; have hfz12_1 := blk_frozen BK278.out 1) | ((with_reducible refine gate_callee (f := 25) rfl ?_); refine goesL_ (some 7) rfl rfl Try.func25 (by kernel_rfl) rfl #[.agg #[.int .u64 a0_0, .int .u64 a0_1]] rfl (by (try simp only [List.map_toArray, List.map_cons, List.map_nil]); first | done | rfl | (simp only [List.length_drop, List.length_take]; rfl)) ?_; (with_reducible refine (laws_wideWhole.calls a0_0 a0_1 t279 _ A3.out).mono ?_); rintro e w13 ⟨v280, rfl, ho0, hb⟩; refine ⟨_, rfl, ?_⟩; have n0_ := Aside0.mk (Kd.V_lower (Kd.V_mono (ok' := fun k_ => k_ ≠ gb278) ho0 (fun k_ hk_ => (Kd.freshB (g := gb278) (o := .cells #[.int .u64 a0_0, .int .u64 a0_1] 24 (0, 0)) (by (with_reducible repeat (first | refine blk_drewN ?_ _ | refine blk_drew ?_ | refine blk_alloc ?_ _)); exact BK278.out) k_ hk_))) (below_size (by repeat (first | (with_reducible first | exact HB.out | apply below_alloc | apply pw_below_drewN | apply below_drew1 | refine below_set ?_ GE278.out) | exact HB.out)))); have n1_ := Aside0.mk (blk_below (g := gb278) (o := .cells #[.int .u64 a0_0, .int .u64 a0_1] 24 (0, 0)) (by (with_reducible repeat (first | refine blk_drewN ?_ _ | refine blk_drew ?_ | refine blk_alloc ?_ _)); exact BK278.out) hb); have n2_ := Aside0.mk (below_step (by repeat (first | (with_reducible first | exact HB.out | apply below_alloc | apply pw_below_drewN | apply below_drew1 | refine below_set ?_ GE278.out) | exact HB.out)) hb); clear BK278; clear HB; have HO281 := n0_; have BK278 := n1_; have HB := n2_; clear n0_ n1_ n2_; (try clear hb); (try clear hb2); (try clear hk); (try clear hi); (try clear ho0)) | ((with_reducible refine gate_callee (f := 31) rfl ?_); refine goesL_ (some 9) rfl rfl Try.func31 (by kernel_rfl) rfl #[.int .u64 a1] rfl (by (try simp only [List.map_toArray, List.map_cons, List.map_nil]); first | done | rfl | (simp only [List.length_drop, List.length_take]; rfl)) ?_; (with_reducible refine (laws_wideSmall.calls a1 t282 _ A4.out).mono ?_); rintro e w14 ⟨v283, rfl, ho0, hb⟩; refine ⟨_, rfl, ?_⟩; have n0_ := Aside0.mk (Kd.V_below (by (with_reducible repeat (first | apply Kd.V_alloc | apply Kd.V_drewN | apply Kd.V_drew)); exact HO281.out) hb); have n1_ := Aside0.mk (Kd.V_lower (Kd.V_mono (ok' := fun k_ => k_ ≠ gb278) ho0 (fun k_ hk_ => (Kd.freshB (g := gb278) (o := .cells #[.int .u64 a0_0, .int .u64 a0_1] 24 (0, 0)) (by (with_reducible repeat (first | refine blk_drewN ?_ _ | refine blk_drew ?_ | refine blk_alloc ?_ _)); exact BK278.out) k_ hk_))) (below_size (by repeat (first | (with_reducible first | exact HB.out | apply below_alloc | apply pw_below_drewN | apply below_drew1 | refine below_set ?_ GE278.out) | exact HB.out)))); have n2_ := Aside0.mk (blk_below (g := gb278) (o := .cells #[.int .u64 a0_0, .int .u64 a0_1] 24 (0, 0)) (by (with_reducible repeat (first | refine blk_drewN ?_ _ | refine blk_drew ?_ | refine blk_alloc ?_ _)); exact BK278.out) hb); have n3_ := Aside0.mk (below_step (by repeat (first | (with_reducible first | exact HB.out | apply below_alloc | apply pw_below_drewN | apply below_drew1 | refine below_set ?_ GE278.out) | exact HB.out)) hb); clear HO281; clear BK278; clear HB; have HO281 := n0_; have HO284 := n1_; have BK278 := n2_; have HB := n3_; clear n0_ n1_ n2_ n3_; (try clear hb); (try clear hb2); (try clear hk); (try clear hi); (try clear ho0); obtain ⟨Ao15, co15, eo15⟩ := Kd.V_slice HO281.out; subst eo15; obtain ⟨Ao16, co16, eo16⟩ := Kd.V_slice HO284.out; subst eo16) | ((with_reducible refine gate_callee (f := 44) rfl ?_); refine goesL_ (some 10) rfl rfl Try.func44 (by kernel_rfl) rfl #[.slice Ao15 t279.length co15, .slice Ao16 t282.length co16] rfl (by (try simp only [List.map_toArray, List.map_cons, List.map_nil]); first | done | rfl | (simp only [List.length_drop, List.length_take]; rfl)) ?_; (with_reducible refine (spec_Compare.calls k _ _ t279 _ _ t282 t285 _ ?side1 ?side2 ?side3 ?side4 A5.out).mono ?_); (case side1 => repeat (first | exact (Kd.V_reads' HO281.out).2.2 | (with_reducible refine Kd.C_alloc ?_ _) | (with_reducible refine Kd.C_drewN ?_ _) | (with_reducible refine Kd.C_drew ?_))); (case side2 => exact (Kd.V_reads' HO281.out).2.1); (case side3 => repeat (first | exact (Kd.V_reads' HO284.out).2.2 | (with_reducible refine Kd.C_alloc ?_ _) | (with_reducible refine Kd.C_drewN ?_ _) | (with_reducible refine Kd.C_drew ?_))); (case side4 => exact (Kd.V_reads' HO284.out).2.1); rintro e w' ⟨rfl, ⟨nd, rfl⟩⟩; refine ⟨_, rfl, ?_⟩; have hcz17_0 : w14.cell? ⟨gb278, 0, none⟩ = some (.int .u64 a0_0) := (blk_cell BK278.out 0).trans rfl; have hcz17_1 : w14.cell? ⟨gb278, 1, none⟩ = some (.int .u64 a0_1) := (blk_cell BK278.out 1).trans rfl; have hfz17_0 := blk_frozen BK278.out 0; have hfz17_1 := blk_frozen BK278.out 1) | ((with_reducible refine gate_callee (f := 47) rfl ?_); refine goesL_ (some 13) rfl rfl Try.func47 (by kernel_rfl) rfl #[.agg #[.int .u64 a0_0, .int .u64 a0_1], .int .u64 a1] rfl (by (try simp only [List.map_toArray, List.map_cons, List.map_nil]); first | done | rfl | (simp only [List.length_drop, List.length_take]; rfl)) ?_; (with_reducible refine (impl_WideCmp64.calls k a0_0 a0_1 a1 t286 _ A6.out).mono ?_); rintro e w18 ⟨rfl, hb⟩; refine ⟨_, rfl, ?_⟩; have n0_ := Aside0.mk (Kd.V_below (by (with_reducible repeat (first | apply Kd.V_alloc | apply Kd.V_drewN | apply Kd.V_drew)); exact HO281.out) hb); have n1_ := Aside0.mk (Kd.V_below (by (with_reducible repeat (first | apply Kd.V_alloc | apply Kd.V_drewN | apply Kd.V_drew)); exact HO284.out) hb); have n2_ := Aside0.mk (blk_below (g := gb278) (o := .cells #[.int .u64 a0_0, .int .u64 a0_1] 24 (0, 0)) (by (with_reducible repeat (first | refine blk_drewN ?_ _ | refine blk_drew ?_ | refine blk_alloc ?_ _)); exact BK278.out) hb); have n3_ := Aside0.mk (below_step (by repeat (first | (with_reducible first | exact HB.out | apply below_alloc | apply pw_below_drewN | apply below_drew1 | refine below_set ?_ GE278.out) | exact HB.out)) hb); clear HO281; clear HO284; clear BK278; clear HB; have HO281 := n0_; have HO284 := n1_; have BK278 := n2_; have HB := n3_; clear n0_ n1_ n2_ n3_; (try clear hb); (try clear hb2); (try clear hk); (try clear hi); have hcz19_0 : w18.cell? ⟨gb278, 0, none⟩ = some (.int .u64 a0_0) := (blk_cell BK278.out 0).trans rfl; have hcz19_1 : w18.cell? ⟨gb278, 1, none⟩ = some (.int .u64 a0_1) := (blk_cell BK278.out 1).trans rfl; have hfz19_0 := blk_frozen BK278.out 0; have hfz19_1 := blk_frozen BK278.out 1) | (go_at_call 48; (with_reducible refine (impl_WideEquals64.calls a0_0 a0_1 a1 t287 _ A8.out).mono ?_); rintro e w20 ⟨rfl, hb⟩; have n0_ := Aside0.mk (Kd.V_below (by (with_reducible repeat (first | apply Kd.V_alloc | apply Kd.V_drewN | apply Kd.V_drew)); exact HO281.out) hb); have n1_ := Aside0.mk (Kd.V_below (by (with_reducible repeat (first | apply Kd.V_alloc | apply Kd.V_drewN | apply Kd.V_drew)); exact HO284.out) hb); have n2_ := Aside0.mk (blk_below (g := gb278) (o := .cells #[.int .u64 a0_0, .int .u64 a0_1] 24 (0, 0)) (by (with_reducible repeat (first | refine blk_drewN ?_ _ | refine blk_drew ?_ | refine blk_alloc ?_ _)); exact BK278.out) hb); have n3_ := Aside0.mk (below_step (by repeat (first | (with_reducible first | exact HB.out | apply below_alloc | apply pw_below_drewN | apply below_drew1 | refine below_set ?_ GE278.out) | exact HB.out)) hb); clear HO281; clear HO284; clear BK278; clear HB; have HO281 := n0_; have HO284 := n1_; have BK278 := n2_; have HB := n3_; clear n0_ n1_ n2_ n3_; (try clear hb); (try clear hb2); (try clear hk); (try clear hi)) | (go_at_call 48; (with_reducible refine (impl_WideEquals64.calls a1 0 a1 t288 _ A10.out).mono ?_); rintro e w21 ⟨rfl, hb⟩; have n0_ := Aside0.mk (Kd.V_below (by (with_reducible repeat (first | apply Kd.V_alloc | apply Kd.V_drewN | apply Kd.V_drew)); exact HO281.out) hb); have n1_ := Aside0.mk (Kd.V_below (by (with_reducible repeat (first | apply Kd.V_alloc | apply Kd.V_drewN | apply Kd.V_drew)); exact HO284.out) hb); have n2_ := Aside0.mk (blk_below (g := gb278) (o := .cells #[.int .u64 a0_0, .int .u64 a0_1] 24 (0, 0)) (by (with_reducible repeat (first | refine blk_drewN ?_ _ | refine blk_drew ?_ | refine blk_alloc ?_ _)); exact BK278.out) hb); have n3_ := Aside0.mk (below_step (by repeat (first | (with_reducible first | exact HB.out | apply below_alloc | apply pw_below_drewN | apply below_drew1 | refine below_set ?_ GE278.out) | exact HB.out)) hb); clear HO281; clear HO284; clear BK278; clear HB; have HO281 := n0_; have HO284 := n1_; have BK278 := n2_; have HB := n3_; clear n0_ n1_ n2_ n3_; (try clear hb); (try clear hb2); (try clear hk); (try clear hi)))
      go_ret
      exact ⟨by first | rfl | (simp [errW_none, errW_some] <;> rfl) | (simp [*, errW_none, errW_some] <;> rfl), by repeat (first | (with_reducible first | exact HB.out | apply below_alloc | apply pw_below_drewN | apply below_drew1 | refine below_set ?_ GE278.out) | exact HB.out)⟩
    · rw [if_neg c9] at H
      have c9b0 : (t287 == (t285 == 0)) = false := by simpa using c9
      (try (have c9b1 : decide (t287 = (t285 == 0)) = false := by simpa using c9))
      (try (have c9b2 : (t287 == (t285 == 0)) = false := by simpa using c9))
      (try (have c9b3 : ¬ (t287 = (t285 == 0)) := by simpa using c9))
      clear c9
      obtain rfl := Option.some.inj H
      go_enter Try.func10, Try.ntmps10
      go_wp2_with (first | ((with_reducible refine gate_dst (N := 2) rfl ?_); refine box_event ?hg (N := 2) ?hd (cs := #[.int .u64 a0_0, .int .u64 a0_1]) (t := 24) ?hr ?_; (case hd => rfl); (case hg => rfl); (case hr => first | (go_simp; done) | (go_simp; rfl)); intro gb278 hg w22 hbox hb; have n0_ := Aside0.mk (below_step (by repeat (first | (with_reducible first | exact HB.out | apply below_alloc | apply pw_below_drewN | apply below_drew1) | exact HB.out)) hb); have n1_ := Aside0.mk (hbox); have n2_ := Aside0.mk ((by rw [hg]; exact (below_size (by repeat (first | (with_reducible first | exact HB.out | apply below_alloc | apply pw_below_drewN | apply below_drew1) | exact HB.out))) : w.heap.size ≤ gb278)); have n3_ := Aside0.mk ((by rw [hg]; exact (below_size (by repeat (first | (with_reducible first | exact HB.out | apply below_alloc | apply pw_below_drewN | apply below_drew1) | exact HB.out))) : w.heap.size ≤ gb278)); clear HB; have HB := n0_; have BK278 := n1_; have GW278 := n2_; have GE278 := n3_; clear n0_ n1_ n2_ n3_; clear hb hbox hg; have hcz23_0 : w22.cell? ⟨gb278, 0, none⟩ = some (.int .u64 a0_0) := (blk_cell BK278.out 0).trans rfl; have hcz23_1 : w22.cell? ⟨gb278, 1, none⟩ = some (.int .u64 a0_1) := (blk_cell BK278.out 1).trans rfl; have hfz23_0 := blk_frozen BK278.out 0; have hfz23_1 := blk_frozen BK278.out 1) | ((with_reducible refine gate_callee (f := 25) rfl ?_); refine goesL_ (some 7) rfl rfl Try.func25 (by kernel_rfl) rfl #[.agg #[.int .u64 a0_0, .int .u64 a0_1]] rfl (by (try simp only [List.map_toArray, List.map_cons, List.map_nil]); first | done | rfl | (simp only [List.length_drop, List.length_take]; rfl)) ?_; (with_reducible refine (laws_wideWhole.calls a0_0 a0_1 t279 _ A3.out).mono ?_); rintro e w24 ⟨v280, rfl, ho0, hb⟩; refine ⟨_, rfl, ?_⟩; have n0_ := Aside0.mk (Kd.V_lower (Kd.V_mono (ok' := fun k_ => k_ ≠ gb278) ho0 (fun k_ hk_ => (Kd.freshB (g := gb278) (o := .cells #[.int .u64 a0_0, .int .u64 a0_1] 24 (0, 0)) (by (with_reducible repeat (first | refine blk_drewN ?_ _ | refine blk_drew ?_ | refine blk_alloc ?_ _)); exact BK278.out) k_ hk_))) (below_size (by repeat (first | (with_reducible first | exact HB.out | apply below_alloc | apply pw_below_drewN | apply below_drew1 | refine below_set ?_ GE278.out) | exact HB.out)))); have n1_ := Aside0.mk (blk_below (g := gb278) (o := .cells #[.int .u64 a0_0, .int .u64 a0_1] 24 (0, 0)) (by (with_reducible repeat (first | refine blk_drewN ?_ _ | refine blk_drew ?_ | refine blk_alloc ?_ _)); exact BK278.out) hb); have n2_ := Aside0.mk (below_step (by repeat (first | (with_reducible first | exact HB.out | apply below_alloc | apply pw_below_drewN | apply below_drew1 | refine below_set ?_ GE278.out) | exact HB.out)) hb); clear BK278; clear HB; have HO281 := n0_; have BK278 := n1_; have HB := n2_; clear n0_ n1_ n2_; (try clear hb); (try clear hb2); (try clear hk); (try clear hi); (try clear ho0)) | ((with_reducible refine gate_callee (f := 31) rfl ?_); refine goesL_ (some 9) rfl rfl Try.func31 (by kernel_rfl) rfl #[.int .u64 a1] rfl (by (try simp only [List.map_toArray, List.map_cons, List.map_nil]); first | done | rfl | (simp only [List.length_drop, List.length_take]; rfl)) ?_; (with_reducible refine (laws_wideSmall.calls a1 t282 _ A4.out).mono ?_); rintro e w25 ⟨v283, rfl, ho0, hb⟩; refine ⟨_, rfl, ?_⟩; have n0_ := Aside0.mk (Kd.V_below (by (with_reducible repeat (first | apply Kd.V_alloc | apply Kd.V_drewN | apply Kd.V_drew)); exact HO281.out) hb); have n1_ := Aside0.mk (Kd.V_lower (Kd.V_mono (ok' := fun k_ => k_ ≠ gb278) ho0 (fun k_ hk_ => (Kd.freshB (g := gb278) (o := .cells #[.int .u64 a0_0, .int .u64 a0_1] 24 (0, 0)) (by (with_reducible repeat (first | refine blk_drewN ?_ _ | refine blk_drew ?_ | refine blk_alloc ?_ _)); exact BK278.out) k_ hk_))) (below_size (by repeat (first | (with_reducible first | exact HB.out | apply below_alloc | apply pw_below_drewN | apply below_drew1 | refine below_set ?_ GE278.out) | exact HB.out)))); have n2_ := Aside0.mk (blk_below (g := gb278) (o := .cells #[.int .u64 a0_0, .int .u64 a0_1] 24 (0, 0)) (by (with_reducible repeat (first | refine blk_drewN ?_ _ | refine blk_drew ?_ | refine blk_alloc ?_ _)); exact BK278.out) hb); have n3_ := Aside0.mk (below_step (by repeat (first | (with_reducible first | exact HB.out | apply below_alloc | apply pw_below_drewN | apply below_drew1 | refine below_set ?_ GE278.out) | exact HB.out)) hb); clear HO281; clear BK278; clear HB; have HO281 := n0_; have HO284 := n1_; have BK278 := n2_; have HB := n3_; clear n0_ n1_ n2_ n3_; (try clear hb); (try clear hb2); (try clear hk); (try clear hi); (try clear ho0); obtain ⟨Ao26, co26, eo26⟩ := Kd.V_slice HO281.out; subst eo26; obtain ⟨Ao27, co27, eo27⟩ := Kd.V_slice HO284.out; subst eo27) | ((with_reducible refine gate_callee (f := 44) rfl ?_); refine goesL_ (some 10) rfl rfl Try.func44 (by kernel_rfl) rfl #[.slice Ao26 t279.length co26, .slice Ao27 t282.length co27] rfl (by (try simp only [List.map_toArray, List.map_cons, List.map_nil]); first | done | rfl | (simp only [List.length_drop, List.length_take]; rfl)) ?_; (with_reducible refine (spec_Compare.calls k _ _ t279 _ _ t282 t285 _ ?side1 ?side2 ?side3 ?side4 A5.out).mono ?_); (case side1 => repeat (first | exact (Kd.V_reads' HO281.out).2.2 | (with_reducible refine Kd.C_alloc ?_ _) | (with_reducible refine Kd.C_drewN ?_ _) | (with_reducible refine Kd.C_drew ?_))); (case side2 => exact (Kd.V_reads' HO281.out).2.1); (case side3 => repeat (first | exact (Kd.V_reads' HO284.out).2.2 | (with_reducible refine Kd.C_alloc ?_ _) | (with_reducible refine Kd.C_drewN ?_ _) | (with_reducible refine Kd.C_drew ?_))); (case side4 => exact (Kd.V_reads' HO284.out).2.1); rintro e w' ⟨rfl, ⟨nd, rfl⟩⟩; refine ⟨_, rfl, ?_⟩; have hcz28_0 : w25.cell? ⟨gb278, 0, none⟩ = some (.int .u64 a0_0) := (blk_cell BK278.out 0).trans rfl; have hcz28_1 : w25.cell? ⟨gb278, 1, none⟩ = some (.int .u64 a0_1) := (blk_cell BK278.out 1).trans rfl; have hfz28_0 := blk_frozen BK278.out 0; have hfz28_1 := blk_frozen BK278.out 1) | ((with_reducible refine gate_callee (f := 47) rfl ?_); refine goesL_ (some 13) rfl rfl Try.func47 (by kernel_rfl) rfl #[.agg #[.int .u64 a0_0, .int .u64 a0_1], .int .u64 a1] rfl (by (try simp only [List.map_toArray, List.map_cons, List.map_nil]); first | done | rfl | (simp only [List.length_drop, List.length_take]; rfl)) ?_; (with_reducible refine (impl_WideCmp64.calls k a0_0 a0_1 a1 t286 _ A6.out).mono ?_); rintro e w29 ⟨rfl, hb⟩; refine ⟨_, rfl, ?_⟩; have n0_ := Aside0.mk (Kd.V_below (by (with_reducible repeat (first | apply Kd.V_alloc | apply Kd.V_drewN | apply Kd.V_drew)); exact HO281.out) hb); have n1_ := Aside0.mk (Kd.V_below (by (with_reducible repeat (first | apply Kd.V_alloc | apply Kd.V_drewN | apply Kd.V_drew)); exact HO284.out) hb); have n2_ := Aside0.mk (blk_below (g := gb278) (o := .cells #[.int .u64 a0_0, .int .u64 a0_1] 24 (0, 0)) (by (with_reducible repeat (first | refine blk_drewN ?_ _ | refine blk_drew ?_ | refine blk_alloc ?_ _)); exact BK278.out) hb); have n3_ := Aside0.mk (below_step (by repeat (first | (with_reducible first | exact HB.out | apply below_alloc | apply pw_below_drewN | apply below_drew1 | refine below_set ?_ GE278.out) | exact HB.out)) hb); clear HO281; clear HO284; clear BK278; clear HB; have HO281 := n0_; have HO284 := n1_; have BK278 := n2_; have HB := n3_; clear n0_ n1_ n2_ n3_; (try clear hb); (try clear hb2); (try clear hk); (try clear hi); have hcz30_0 : w29.cell? ⟨gb278, 0, none⟩ = some (.int .u64 a0_0) := (blk_cell BK278.out 0).trans rfl; have hcz30_1 : w29.cell? ⟨gb278, 1, none⟩ = some (.int .u64 a0_1) := (blk_cell BK278.out 1).trans rfl; have hfz30_0 := blk_frozen BK278.out 0; have hfz30_1 := blk_frozen BK278.out 1) | (go_at_call 48; (with_reducible refine (impl_WideEquals64.calls a0_0 a0_1 a1 t287 _ A8.out).mono ?_); rintro e w31 ⟨rfl, hb⟩; have n0_ := Aside0.mk (Kd.V_below (by (with_reducible repeat (first | apply Kd.V_alloc | apply Kd.V_drewN | apply Kd.V_drew)); exact HO281.out) hb); have n1_ := Aside0.mk (Kd.V_below (by (with_reducible repeat (first | apply Kd.V_alloc | apply Kd.V_drewN | apply Kd.V_drew)); exact HO284.out) hb); have n2_ := Aside0.mk (blk_below (g := gb278) (o := .cells #[.int .u64 a0_0, .int .u64 a0_1] 24 (0, 0)) (by (with_reducible repeat (first | refine blk_drewN ?_ _ | refine blk_drew ?_ | refine blk_alloc ?_ _)); exact BK278.out) hb); have n3_ := Aside0.mk (below_step (by repeat (first | (with_reducible first | exact HB.out | apply below_alloc | apply pw_below_drewN | apply below_drew1 | refine below_set ?_ GE278.out) | exact HB.out)) hb); clear HO281; clear HO284; clear BK278; clear HB; have HO281 := n0_; have HO284 := n1_; have BK278 := n2_; have HB := n3_; clear n0_ n1_ n2_ n3_; (try clear hb); (try clear hb2); (try clear hk); (try clear hi)))
      go_ret
      exact ⟨by first | rfl | (simp [errW_none, errW_some] <;> rfl) | (simp [*, errW_none, errW_some] <;> rfl), by repeat (first | (with_reducible first | exact HB.out | apply below_alloc | apply pw_below_drewN | apply below_drew1 | refine below_set ?_ GE278.out) | exact HB.out)⟩
  · rw [if_neg c7] at H
    have c7b0 : (t286 == t285) = false := beq_eq_false_iff_ne.mpr c7
    have c7b1 : (t286 != t285) = true := bne_iff_ne.mpr c7
    obtain rfl := Option.some.inj H
    go_enter Try.func10, Try.ntmps10
    go_wp2_with (first | ((with_reducible refine gate_dst (N := 2) rfl ?_); refine box_event ?hg (N := 2) ?hd (cs := #[.int .u64 a0_0, .int .u64 a0_1]) (t := 24) ?hr ?_; (case hd => rfl); (case hg => rfl); (case hr => first | (go_simp; done) | (go_simp; rfl)); intro gb278 hg w32 hbox hb; have n0_ := Aside0.mk (below_step (by repeat (first | (with_reducible first | exact HB.out | apply below_alloc | apply pw_below_drewN | apply below_drew1) | exact HB.out)) hb); have n1_ := Aside0.mk (hbox); have n2_ := Aside0.mk ((by rw [hg]; exact (below_size (by repeat (first | (with_reducible first | exact HB.out | apply below_alloc | apply pw_below_drewN | apply below_drew1) | exact HB.out))) : w.heap.size ≤ gb278)); have n3_ := Aside0.mk ((by rw [hg]; exact (below_size (by repeat (first | (with_reducible first | exact HB.out | apply below_alloc | apply pw_below_drewN | apply below_drew1) | exact HB.out))) : w.heap.size ≤ gb278)); clear HB; have HB := n0_; have BK278 := n1_; have GW278 := n2_; have GE278 := n3_; clear n0_ n1_ n2_ n3_; clear hb hbox hg; have hcz33_0 : w32.cell? ⟨gb278, 0, none⟩ = some (.int .u64 a0_0) := (blk_cell BK278.out 0).trans rfl; have hcz33_1 : w32.cell? ⟨gb278, 1, none⟩ = some (.int .u64 a0_1) := (blk_cell BK278.out 1).trans rfl; have hfz33_0 := blk_frozen BK278.out 0; have hfz33_1 := blk_frozen BK278.out 1) | ((with_reducible refine gate_callee (f := 25) rfl ?_); refine goesL_ (some 7) rfl rfl Try.func25 (by kernel_rfl) rfl #[.agg #[.int .u64 a0_0, .int .u64 a0_1]] rfl (by (try simp only [List.map_toArray, List.map_cons, List.map_nil]); first | done | rfl | (simp only [List.length_drop, List.length_take]; rfl)) ?_; (with_reducible refine (laws_wideWhole.calls a0_0 a0_1 t279 _ A3.out).mono ?_); rintro e w34 ⟨v280, rfl, ho0, hb⟩; refine ⟨_, rfl, ?_⟩; have n0_ := Aside0.mk (Kd.V_lower (Kd.V_mono (ok' := fun k_ => k_ ≠ gb278) ho0 (fun k_ hk_ => (Kd.freshB (g := gb278) (o := .cells #[.int .u64 a0_0, .int .u64 a0_1] 24 (0, 0)) (by (with_reducible repeat (first | refine blk_drewN ?_ _ | refine blk_drew ?_ | refine blk_alloc ?_ _)); exact BK278.out) k_ hk_))) (below_size (by repeat (first | (with_reducible first | exact HB.out | apply below_alloc | apply pw_below_drewN | apply below_drew1 | refine below_set ?_ GE278.out) | exact HB.out)))); have n1_ := Aside0.mk (blk_below (g := gb278) (o := .cells #[.int .u64 a0_0, .int .u64 a0_1] 24 (0, 0)) (by (with_reducible repeat (first | refine blk_drewN ?_ _ | refine blk_drew ?_ | refine blk_alloc ?_ _)); exact BK278.out) hb); have n2_ := Aside0.mk (below_step (by repeat (first | (with_reducible first | exact HB.out | apply below_alloc | apply pw_below_drewN | apply below_drew1 | refine below_set ?_ GE278.out) | exact HB.out)) hb); clear BK278; clear HB; have HO281 := n0_; have BK278 := n1_; have HB := n2_; clear n0_ n1_ n2_; (try clear hb); (try clear hb2); (try clear hk); (try clear hi); (try clear ho0)) | ((with_reducible refine gate_callee (f := 31) rfl ?_); refine goesL_ (some 9) rfl rfl Try.func31 (by kernel_rfl) rfl #[.int .u64 a1] rfl (by (try simp only [List.map_toArray, List.map_cons, List.map_nil]); first | done | rfl | (simp only [List.length_drop, List.length_take]; rfl)) ?_; (with_reducible refine (laws_wideSmall.calls a1 t282 _ A4.out).mono ?_); rintro e w35 ⟨v283, rfl, ho0, hb⟩; refine ⟨_, rfl, ?_⟩; have n0_ := Aside0.mk (Kd.V_below (by (with_reducible repeat (first | apply Kd.V_alloc | apply Kd.V_drewN | apply Kd.V_drew)); exact HO281.out) hb); have n1_ := Aside0.mk (Kd.V_lower (Kd.V_mono (ok' := fun k_ => k_ ≠ gb278) ho0 (fun k_ hk_ => (Kd.freshB (g := gb278) (o := .cells #[.int .u64 a0_0, .int .u64 a0_1] 24 (0, 0)) (by (with_reducible repeat (first | refine blk_drewN ?_ _ | refine blk_drew ?_ | refine blk_alloc ?_ _)); exact BK278.out) k_ hk_))) (below_size (by repeat (first | (with_reducible first | exact HB.out | apply below_alloc | apply pw_below_drewN | apply below_drew1 | refine below_set ?_ GE278.out) | exact HB.out)))); have n2_ := Aside0.mk (blk_below (g := gb278) (o := .cells #[.int .u64 a0_0, .int .u64 a0_1] 24 (0, 0)) (by (with_reducible repeat (first | refine blk_drewN ?_ _ | refine blk_drew ?_ | refine blk_alloc ?_ _)); exact BK278.out) hb); have n3_ := Aside0.mk (below_step (by repeat (first | (with_reducible first | exact HB.out | apply below_alloc | apply pw_below_drewN | apply below_drew1 | refine below_set ?_ GE278.out) | exact HB.out)) hb); clear HO281; clear BK278; clear HB; have HO281 := n0_; have HO284 := n1_; have BK278 := n2_; have HB := n3_; clear n0_ n1_ n2_ n3_; (try clear hb); (try clear hb2); (try clear hk); (try clear hi); (try clear ho0); obtain ⟨Ao36, co36, eo36⟩ := Kd.V_slice HO281.out; subst eo36; obtain ⟨Ao37, co37, eo37⟩ := Kd.V_slice HO284.out; subst eo37) | ((with_reducible refine gate_callee (f := 44) rfl ?_); refine goesL_ (some 10) rfl rfl Try.func44 (by kernel_rfl) rfl #[.slice Ao36 t279.length co36, .slice Ao37 t282.length co37] rfl (by (try simp only [List.map_toArray, List.map_cons, List.map_nil]); first | done | rfl | (simp only [List.length_drop, List.length_take]; rfl)) ?_; (with_reducible refine (spec_Compare.calls k _ _ t279 _ _ t282 t285 _ ?side1 ?side2 ?side3 ?side4 A5.out).mono ?_); (case side1 => repeat (first | exact (Kd.V_reads' HO281.out).2.2 | (with_reducible refine Kd.C_alloc ?_ _) | (with_reducible refine Kd.C_drewN ?_ _) | (with_reducible refine Kd.C_drew ?_))); (case side2 => exact (Kd.V_reads' HO281.out).2.1); (case side3 => repeat (first | exact (Kd.V_reads' HO284.out).2.2 | (with_reducible refine Kd.C_alloc ?_ _) | (with_reducible refine Kd.C_drewN ?_ _) | (with_reducible refine Kd.C_drew ?_))); (case side4 => exact (Kd.V_reads' HO284.out).2.1); rintro e w' ⟨rfl, ⟨nd, rfl⟩⟩; refine ⟨_, rfl, ?_⟩; have hcz38_0 : w35.cell? ⟨gb278, 0, none⟩ = some (.int .u64 a0_0) := (blk_cell BK278.out 0).trans rfl; have hcz38_1 : w35.cell? ⟨gb278, 1, none⟩ = some (.int .u64 a0_1) := (blk_cell BK278.out 1).trans rfl; have hfz38_0 := blk_frozen BK278.out 0; have hfz38_1 := blk_frozen BK278.out 1) | ((with_reducible refine gate_callee (f := 47) rfl ?_); refine goesL_ (some 13) rfl rfl Try.func47 (by kernel_rfl) rfl #[.agg #[.int .u64 a0_0, .int .u64 a0_1], .int .u64 a1] rfl (by (try simp only [List.map_toArray, List.map_cons, List.map_nil]); first | done | rfl | (simp only [List.length_drop, List.length_take]; rfl)) ?_; (with_reducible refine (impl_WideCmp64.calls k a0_0 a0_1 a1 t286 _ A6.out).mono ?_); rintro e w39 ⟨rfl, hb⟩; refine ⟨_, rfl, ?_⟩; have n0_ := Aside0.mk (Kd.V_below (by (with_reducible repeat (first | apply Kd.V_alloc | apply Kd.V_drewN | apply Kd.V_drew)); exact HO281.out) hb); have n1_ := Aside0.mk (Kd.V_below (by (with_reducible repeat (first | apply Kd.V_alloc | apply Kd.V_drewN | apply Kd.V_drew)); exact HO284.out) hb); have n2_ := Aside0.mk (blk_below (g := gb278) (o := .cells #[.int .u64 a0_0, .int .u64 a0_1] 24 (0, 0)) (by (with_reducible repeat (first | refine blk_drewN ?_ _ | refine blk_drew ?_ | refine blk_alloc ?_ _)); exact BK278.out) hb); have n3_ := Aside0.mk (below_step (by repeat (first | (with_reducible first | exact HB.out | apply below_alloc | apply pw_below_drewN | apply below_drew1 | refine below_set ?_ GE278.out) | exact HB.out)) hb); clear HO281; clear HO284; clear BK278; clear HB; have HO281 := n0_; have HO284 := n1_; have BK278 := n2_; have HB := n3_; clear n0_ n1_ n2_ n3_; (try clear hb); (try clear hb2); (try clear hk); (try clear hi)))
    go_ret
    exact ⟨by first | rfl | (simp [errW_none, errW_some] <;> rfl) | (simp [*, errW_none, errW_some] <;> rfl), by repeat (first | (with_reducible first | exact HB.out | apply below_alloc | apply pw_below_drewN | apply below_drew1 | refine below_set ?_ GE278.out) | exact HB.out)⟩


/-! ### bits_Sub64: function 127 -/
def sLo (x y b : Nat) : Nat := (x + 18446744073709551616 - y - b) % 18446744073709551616
def sHi (x y b : Nat) : Nat := if x < y + b then 1 else 0
theorem sHi_le {x y b : Nat} : sHi x y b ≤ 1 := by unfold sHi; split <;> omega
theorem run_sub64_c0 (x y : Nat) (w : World) : (callFunc 127 #[.int .u64 (x : Int), .int .u64 (y : Int), .int .u64 ((0 : Nat) : Int)]).run Try.prog w = .ok (.value (.tuple #[.int .u64 (sLo x y 0 : Int), .int .u64 (sHi x y 0 : Int)])) w := by kernel_rfl
theorem run_sub64_c1 (x y : Nat) (w : World) : (callFunc 127 #[.int .u64 (x : Int), .int .u64 (y : Int), .int .u64 ((1 : Nat) : Int)]).run Try.prog w = .ok (.value (.tuple #[.int .u64 (sLo x y 1 : Int), .int .u64 (sHi x y 1 : Int)])) w := by kernel_rfl
theorem run_sub64 (x y b : Nat) (h : b ≤ 1) (w : World) : (callFunc 127 #[.int .u64 (x : Int), .int .u64 (y : Int), .int .u64 (b : Int)]).run Try.prog w = .ok (.value (.tuple #[.int .u64 (sLo x y b : Int), .int .u64 (sHi x y b : Int)])) w := by
  have : b = 0 ∨ b = 1 := by omega
  rcases this with rfl | rfl
  · exact run_sub64_c0 x y w
  · exact run_sub64_c1 x y w
theorem run_sub64_0 (x y : Nat) (w : World) : (callFunc 127 #[.int .u64 (x : Int), .int .u64 (y : Int), .int .u64 0]).run Try.prog w = .ok (.value (.tuple #[.int .u64 (sLo x y 0 : Int), .int .u64 (sHi x y 0 : Int)])) w := run_sub64_c0 x y w
theorem run_sub64_zb (x b : Nat) (h : b ≤ 1) (w : World) : (callFunc 127 #[.int .u64 (x : Int), .int .u64 0, .int .u64 (b : Int)]).run Try.prog w = .ok (.value (.tuple #[.int .u64 (sLo x 0 b : Int), .int .u64 (sHi x 0 b : Int)])) w := run_sub64 x 0 b h w

/-! ### uint128_Uint128_SubWrap: function 95 -/
def uint128_Uint128_SubWrap.f (a0_0 a0_1 a1_0 a1_1 : Int) : Option (Int × Int) :=
  if U64 a0_0 ∧ U64 a0_1 ∧ U64 a1_0 ∧ U64 a1_1 then some (halves (N128 a0_0 a0_1 + 340282366920938463463374607431768211456 - N128 a1_0 a1_1)) else none
theorem subw_1 (a b c d : Nat) (ha : a < 18446744073709551616) (hb : b < 18446744073709551616) (hc : c < 18446744073709551616) (hd : d < 18446744073709551616) : sLo a c 0 = (a + b * 18446744073709551616 + 340282366920938463463374607431768211456 - (c + d * 18446744073709551616)) % 18446744073709551616 := by unfold sLo; omega
theorem subw_2 (a b c d : Nat) (ha : a < 18446744073709551616) (hb : b < 18446744073709551616) (hc : c < 18446744073709551616) (hd : d < 18446744073709551616) : sLo b d (sHi a c 0) = (a + b * 18446744073709551616 + 340282366920938463463374607431768211456 - (c + d * 18446744073709551616)) / 18446744073709551616 % 18446744073709551616 := by unfold sLo sHi; split <;> omega
set_option maxHeartbeats 2000000 in
set_option maxRecDepth 100000 in
theorem subwrap_nat (a b c d : Nat) (ha : a < 18446744073709551616) (hb : b < 18446744073709551616) (hc : c < 18446744073709551616) (hd : d < 18446744073709551616) (w : World) :
    Calls Try.prog 95 #[.agg #[.int .u64 a, .int .u64 b], .agg #[.int .u64 c, .int .u64 d]] w fun e w' => e = .returned (.agg #[.int .u64 (sLo a c 0 : Int), .int .u64 (sLo b d (sHi a c 0) : Int)]) ∧ Below w.heap.size w w' := by
  have r1 := run_sub64_0 a c
  have r2 := run_sub64 b d (sHi a c 0) sHi_le
  clear ha hb hc hd
  go_enter Try.func95, Try.ntmps95
  go_wp2
  refine bodyPost_ret (v := .agg #[.int .u64 (sLo a c 0 : Int), .int .u64 (sLo b d (sHi a c 0) : Int)]) (by simp [results, Try.results95, go_sem]) rfl ⟨rfl, ?_⟩
  exact (((Below.refl w.heap.size w).alloc (Nat.le_refl _) _).alloc (by simp) _).alloc (by simp; omega) _
theorem uint128_Uint128_SubWrap.calls (a0_0 : Int) (a0_1 : Int) (a1_0 : Int) (a1_1 : Int) (r1 : Int) (r2 : Int) (w : World) (h : uint128_Uint128_SubWrap.f a0_0 a0_1 a1_0 a1_1 = some (r1, r2)) :
    Calls Try.prog 95 #[.agg #[.int .u64 a0_0, .int .u64 a0_1], .agg #[.int .u64 a1_0, .int .u64 a1_1]] w fun e w' => e = .returned (.agg #[.int .u64 r1, .int .u64 r2]) ∧ Below w.heap.size w w' := by
  unfold uint128_Uint128_SubWrap.f at h
  split at h
  case isFalse => cases h
  rename_i hb
  obtain ⟨ka, kb, kc, kd⟩ := hb
  obtain ⟨a, rfl, ha⟩ := ka.nat
  obtain ⟨b, rfl, hb⟩ := kb.nat
  obtain ⟨c, rfl, hc⟩ := kc.nat
  obtain ⟨d, rfl, hd⟩ := kd.nat
  have e := Option.some.inj h
  simp only [halves, N128, Int.toNat_natCast, Prod.mk.injEq] at e
  rw [← subw_1 a b c d ha hb hc hd, ← subw_2 a b c d ha hb hc hd] at e
  obtain ⟨rfl, rfl⟩ := e
  exact subwrap_nat a b c d ha hb hc hd w

/-! ### impl_WideSubWrap: function 49 -/
def impl_WideSubWrap.f (a0_0 : Int) (a0_1 : Int) (a1_0 : Int) (a1_1 : Int) : Option (Int × Int) := (impl_Wide_u.f a0_0 a0_1).bind fun bt292 => ((impl_Wide_u.f a1_0 a1_1).bind fun bt294 => ((uint128_Uint128_SubWrap.f bt292.1 bt292.2 bt294.1 bt294.2).bind fun bt296 => ((impl_wide.f bt296.1 bt296.2).bind fun bt298 => (some (bt298.1, bt298.2)))))
set_option maxHeartbeats 8000000 in
set_option maxRecDepth 100000 in
theorem impl_WideSubWrap.calls (a0_0 : Int) (a0_1 : Int) (a1_0 : Int) (a1_1 : Int) (r1 : Int) (r2 : Int) (w : World) (h : impl_WideSubWrap.f a0_0 a0_1 a1_0 a1_1 = some (r1, r2)) :
    Calls Try.prog 49 #[.agg #[.int .u64 a0_0, .int .u64 a0_1], .agg #[.int .u64 a1_0, .int .u64 a1_1]] w fun e w' => e = .returned (.agg #[.int .u64 r1, .int .u64 r2]) ∧ Below w.heap.size w w' := by
  have hu24 := Try.underlying24
  have HB := Aside0.mk (Below.refl w.heap.size w)
  have H : ((impl_Wide_u.f a0_0 a0_1).bind fun bt292 => ((impl_Wide_u.f a1_0 a1_1).bind fun bt294 => ((uint128_Uint128_SubWrap.f bt292.1 bt292.2 bt294.1 bt294.2).bind fun bt296 => ((impl_wide.f bt296.1 bt296.2).bind fun bt298 => (some (bt298.1, bt298.2)))))) = some (r1, r2) := h
  clear h
  replace H := Option.bind_eq_some_iff.mp H
  obtain ⟨⟨t292, t293⟩, A30, H⟩ := H
  replace H : ((impl_Wide_u.f a1_0 a1_1).bind fun bt294 => ((uint128_Uint128_SubWrap.f t292 t293 bt294.1 bt294.2).bind fun bt296 => ((impl_wide.f bt296.1 bt296.2).bind fun bt298 => (some (bt298.1, bt298.2))))) = some (r1, r2) := H
  have A3 := Aside0.mk A30
  clear A30
  replace H := Option.bind_eq_some_iff.mp H
  obtain ⟨⟨t294, t295⟩, A40, H⟩ := H
  replace H : ((uint128_Uint128_SubWrap.f t292 t293 t294 t295).bind fun bt296 => ((impl_wide.f bt296.1 bt296.2).bind fun bt298 => (some (bt298.1, bt298.2)))) = some (r1, r2) := H
  have A4 := Aside0.mk A40
  clear A40
  replace H := Option.bind_eq_some_iff.mp H
  obtain ⟨⟨t296, t297⟩, A50, H⟩ := H
  replace H : ((impl_wide.f t296 t297).bind fun bt298 => (some (bt298.1, bt298.2))) = some (r1, r2) := H
  have A5 := Aside0.mk A50
  clear A50
  replace H := Option.bind_eq_some_iff.mp H
  obtain ⟨⟨t298, t299⟩, A60, H⟩ := H
  replace H : (some (t298, t299)) = some (r1, r2) := H
  have A6 := Aside0.mk A60
  clear A60
  simp only [Option.some.injEq, Prod.mk.injEq] at H
  obtain ⟨rfl, rfl⟩ := H
  go_enter Try.func49, Try.ntmps49
  try go_wp2_with (first | ((with_reducible refine gate_dst (N := 2) rfl ?_); refine box_event ?hg (N := 2) ?hd (cs := #[.int .u64 a0_0, .int .u64 a0_1]) (t := 24) ?hr ?_; (case hd => rfl); (case hg => rfl); (case hr => first | (go_simp; done) | (go_simp; rfl)); intro gb289 hg w7 hbox hb; have n0_ := Aside0.mk (below_step (by repeat (first | (with_reducible first | exact HB.out | apply below_alloc | apply pw_below_drewN | apply below_drew1) | exact HB.out)) hb); have n1_ := Aside0.mk (hbox); have n2_ := Aside0.mk ((by rw [hg]; exact (below_size (by repeat (first | (with_reducible first | exact HB.out | apply below_alloc | apply pw_below_drewN | apply below_drew1) | exact HB.out))) : w.heap.size ≤ gb289)); have n3_ := Aside0.mk ((by rw [hg]; exact (below_size (by repeat (first | (with_reducible first | exact HB.out | apply below_alloc | apply pw_below_drewN | apply below_drew1) | exact HB.out))) : w.heap.size ≤ gb289)); clear HB; have HB := n0_; have BK289 := n1_; have GW289 := n2_; have GE289 := n3_; clear n0_ n1_ n2_ n3_; clear hb hbox hg) | ((with_reducible refine gate_dst (N := 3) rfl ?_); refine box_event ?hg (N := 3) ?hd (cs := #[.int .u64 a1_0, .int .u64 a1_1]) (t := 24) ?hr ?_; (case hd => rfl); (case hg => rfl); (case hr => first | (go_simp; done) | (go_simp; rfl)); intro gb290 hg w8 hbox hb; have n0_ := Aside0.mk (blk_below (g := gb289) (o := .cells #[.int .u64 a0_0, .int .u64 a0_1] 24 (0, 0)) (by (with_reducible repeat (first | refine blk_drewN ?_ _ | refine blk_drew ?_ | refine blk_alloc ?_ _)); exact BK289.out) hb); have n1_ := Aside0.mk (below_step (by repeat (first | (with_reducible first | exact HB.out | apply below_alloc | apply pw_below_drewN | apply below_drew1 | refine below_set ?_ GE289.out) | exact HB.out)) hb); have n2_ := Aside0.mk (hbox); have n3_ := Aside0.mk ((by rw [hg]; exact (below_size (by repeat (first | (with_reducible first | exact HB.out | apply below_alloc | apply pw_below_drewN | apply below_drew1 | refine below_set ?_ GE289.out) | exact HB.out))) : w.heap.size ≤ gb290)); have n4_ := Aside0.mk ((by rw [hg]; exact (below_size (by repeat (first | (with_reducible first | exact HB.out | apply below_alloc | apply pw_below_drewN | apply below_drew1 | refine below_set ?_ GE289.out) | exact HB.out))) : w.heap.size ≤ gb290)); have n5_ := Aside0.mk ((by rw [hg]; exact Nat.ne_of_lt (blk_lt (g := gb289) (o := .cells #[.int .u64 a0_0, .int .u64 a0_1] 24 (0, 0)) (by (with_reducible repeat (first | refine blk_drewN ?_ _ | refine blk_drew ?_ | refine blk_alloc ?_ _)); exact BK289.out)) : gb289 ≠ gb290)); have n6_ := Aside0.mk ((by rw [hg]; exact Nat.ne_of_gt (blk_lt (g := gb289) (o := .cells #[.int .u64 a0_0, .int .u64 a0_1] 24 (0, 0)) (by (with_reducible repeat (first | refine blk_drewN ?_ _ | refine blk_drew ?_ | refine blk_alloc ?_ _)); exact BK289.out)) : gb290 ≠ gb289)); clear BK289; clear HB; have BK289 := n0_; have HB := n1_; have BK290 := n2_; have GW290 := n3_; have GE290 := n4_; have NB289_290 := n5_; have NB290_289 := n6_; clear n0_ n1_ n2_ n3_ n4_ n5_ n6_; clear hb hbox hg) | ((with_reducible refine gate_dst (N := 4) rfl ?_); refine box_event ?hg (N := 4) ?hd (cs := #[.int .u64 0, .int .u64 0]) (t := 24) ?hr ?_; (case hd => rfl); (case hg => rfl); (case hr => first | (go_simp; done) | (go_simp; rfl)); intro gb291 hg w9 hbox hb; have n0_ := Aside0.mk (blk_below (g := gb289) (o := .cells #[.int .u64 a0_0, .int .u64 a0_1] 24 (0, 0)) (by (with_reducible repeat (first | refine blk_drewN ?_ _ | refine blk_drew ?_ | refine blk_alloc ?_ _)); exact BK289.out) hb); have n1_ := Aside0.mk (blk_below (g := gb290) (o := .cells #[.int .u64 a1_0, .int .u64 a1_1] 24 (0, 0)) (by (with_reducible repeat (first | refine blk_drewN ?_ _ | refine blk_drew ?_ | refine blk_alloc ?_ _)); exact BK290.out) hb); have n2_ := Aside0.mk (below_step (by repeat (first | (with_reducible first | exact HB.out | apply below_alloc | apply pw_below_drewN | apply below_drew1 | refine below_set ?_ GE289.out | refine below_set ?_ GE290.out) | exact HB.out)) hb); have n3_ := Aside0.mk (hbox); have n4_ := Aside0.mk ((by rw [hg]; exact (below_size (by repeat (first | (with_reducible first | exact HB.out | apply below_alloc | apply pw_below_drewN | apply below_drew1 | refine below_set ?_ GE289.out | refine below_set ?_ GE290.out) | exact HB.out))) : w.heap.size ≤ gb291)); have n5_ := Aside0.mk ((by rw [hg]; exact (below_size (by repeat (first | (with_reducible first | exact HB.out | apply below_alloc | apply pw_below_drewN | apply below_drew1 | refine below_set ?_ GE289.out | refine below_set ?_ GE290.out) | exact HB.out))) : w.heap.size ≤ gb291)); have n6_ := Aside0.mk ((by rw [hg]; exact Nat.ne_of_lt (blk_lt (g := gb289) (o := .cells #[.int .u64 a0_0, .int .u64 a0_1] 24 (0, 0)) (by (with_reducible repeat (first | refine blk_drewN ?_ _ | refine blk_drew ?_ | refine blk_alloc ?_ _)); exact BK289.out)) : gb289 ≠ gb291)); have n7_ := Aside0.mk ((by rw [hg]; exact Nat.ne_of_gt (blk_lt (g := gb289) (o := .cells #[.int .u64 a0_0, .int .u64 a0_1] 24 (0, 0)) (by (with_reducible repeat (first | refine blk_drewN ?_ _ | refine blk_drew ?_ | refine blk_alloc ?_ _)); exact BK289.out)) : gb291 ≠ gb289)); have n8_ := Aside0.mk ((by rw [hg]; exact Nat.ne_of_lt (blk_lt (g := gb290) (o := .cells #[.int .u64 a1_0, .int .u64 a1_1] 24 (0, 0)) (by (with_reducible repeat (first | refine blk_drewN ?_ _ | refine blk_drew ?_ | refine blk_alloc ?_ _)); exact BK290.out)) : gb290 ≠ gb291)); have n9_ := Aside0.mk ((by rw [hg]; exact Nat.ne_of_gt (blk_lt (g := gb290) (o := .cells #[.int .u64 a1_0, .int .u64 a1_1] 24 (0, 0)) (by (with_reducible repeat (first | refine blk_drewN ?_ _ | refine blk_drew ?_ | refine blk_alloc ?_ _)); exact BK290.out)) : gb291 ≠ gb290)); clear BK289; clear BK290; clear HB; have BK289 := n0_; have BK290 := n1_; have HB := n2_; have BK291 := n3_; have GW291 := n4_; have GE291 := n5_; have NB289_291 := n6_; have NB291_289 := n7_; have NB290_291 := n8_; have NB291_290 := n9_; clear n0_ n1_ n2_ n3_ n4_ n5_ n6_ n7_ n8_ n9_; clear hb hbox hg))
  have n0_ := Aside0.mk (blk_drew BK289.out)
  have n1_ := Aside0.mk (blk_drew BK290.out)
  have n2_ := Aside0.mk (blk_drew BK291.out)
  have n3_ := Aside0.mk (below_drew1 HB.out)
  clear BK289
  clear BK290
  clear BK291
  clear HB
  have BK289 := n0_
  have BK290 := n1_
  have BK291 := n2_
  have HB := n3_
  clear n0_ n1_ n2_ n3_
  refine start_ (n := 7) (S := fun w' => w'.cell? ⟨gb289, 0, none⟩ = some (.int .u64 a0_0) ∧ w'.cell? ⟨gb289, 1, none⟩ = some (.int .u64 a0_1) ∧ w'.cell? ⟨gb290, 0, none⟩ = some (.int .u64 a1_0) ∧ w'.cell? ⟨gb290, 1, none⟩ = some (.int .u64 a1_1)) (ds := []) #[false, false, false, false, false, false, false] (by kernel_rfl) rfl rfl ⟨(blk_cell BK289.out 0).trans rfl, (blk_cell BK289.out 1).trans rfl, (blk_cell BK290.out 0).trans rfl, (blk_cell BK290.out 1).trans rfl⟩ (fun hHeld => ?_)
  generalize w9.drew = w10 at BK289 BK290 BK291 HB hHeld ⊢
  refine take_ (i := 0) (N := some 5) (v := ?_) (a' := ?_) #[true, false, false, false, false, false, false] rfl rfl (by kernel_rfl) (fun _ _ _ h => h) (Or.inl ⟨by rfl, ?_⟩) hHeld ?_ ?_
  rotate_left
  · rintro w' ⟨s0, s1, s2, s3⟩
    go_simp
    with_reducible rfl
  rotate_left
  · simp only [Act.put, List.setIfInBounds_toArray, List.set_cons_zero, List.set_cons_succ, i64_w, i32_w]
    rfl
  refine take_ (i := 2) (N := some 7) (v := ?_) (a' := ?_) #[true, false, true, false, false, false, false] rfl rfl (by kernel_rfl) (fun _ _ _ h => h) (Or.inl ⟨by rfl, ?_⟩) hHeld ?_ ?_
  rotate_left
  · rintro w' ⟨s0, s1, s2, s3⟩
    go_simp
    with_reducible rfl
  rotate_left
  · simp only [Act.put, List.setIfInBounds_toArray, List.set_cons_zero, List.set_cons_succ, i64_w, i32_w]
    rfl
  refine one_ (i := 1) (N := some 6) #[true, true, true, false, false, false, false] rfl rfl (by kernel_rfl) (by decide) (fun K hK => ?_)
  refine goes_ Try.func76 (by kernel_rfl) rfl #[.agg #[.int .u64 a0_0, .int .u64 a0_1]] (by rfl) rfl rfl (by (try simp only [List.map_toArray, List.map_cons, List.map_nil]); first | done | rfl | (simp only [List.length_drop, List.length_take]; rfl)) ?_
  with_reducible refine (impl_Wide_u.calls a0_0 a0_1 t292 t293 _ A3.out).mono ?_
  rintro e w11 ⟨rfl, hb⟩
  refine ⟨_, rfl, ?_⟩
  have n0_ := Aside0.mk (blk_below (g := gb289) (o := .cells #[.int .u64 a0_0, .int .u64 a0_1] 24 (0, 0)) (by (with_reducible repeat (first | refine blk_drewN ?_ _ | refine blk_drew ?_ | refine blk_alloc ?_ _)); exact BK289.out) hb)
  have n1_ := Aside0.mk (blk_below (g := gb290) (o := .cells #[.int .u64 a1_0, .int .u64 a1_1] 24 (0, 0)) (by (with_reducible repeat (first | refine blk_drewN ?_ _ | refine blk_drew ?_ | refine blk_alloc ?_ _)); exact BK290.out) hb)
  have n2_ := Aside0.mk (blk_below (g := gb291) (o := .cells #[.int .u64 0, .int .u64 0] 24 (0, 0)) (by (with_reducible repeat (first | refine blk_drewN ?_ _ | refine blk_drew ?_ | refine blk_alloc ?_ _)); exact BK291.out) hb)
  have n3_ := Aside0.mk (below_step (by repeat (first | (with_reducible first | exact HB.out | apply below_alloc | apply pw_below_drewN | apply below_drew1 | refine below_set ?_ GE289.out | refine below_set ?_ GE290.out | refine below_set ?_ GE291.out) | exact HB.out)) hb)
  clear BK289
  clear BK290
  clear BK291
  clear HB
  have BK289 := n0_
  have BK290 := n1_
  have BK291 := n2_
  have HB := n3_
  clear n0_ n1_ n2_ n3_
  (try clear hb)
  (try clear hb2)
  (try clear hk)
  (try clear hi)
  refine hK.out _ _ ⟨(blk_cell BK289.out 0).trans rfl, (blk_cell BK289.out 1).trans rfl, (blk_cell BK290.out 0).trans rfl, (blk_cell BK290.out 1).trans rfl⟩ (fun hHeld => ?_)
  clear hK K
  refine norm_ (a' := ?_) ?_ ?_
  rotate_left
  · show Act.put _ (some 6) _ = _
    simp only [Act.put, List.setIfInBounds_toArray, List.set_cons_zero, List.set_cons_succ, i64_w, i32_w]
    rfl
  refine one_ (i := 3) (N := some 8) #[true, true, true, true, false, false, false] rfl rfl (by kernel_rfl) (by decide) (fun K hK => ?_)
  refine goes_ Try.func76 (by kernel_rfl) rfl #[.agg #[.int .u64 a1_0, .int .u64 a1_1]] (by rfl) rfl rfl (by (try simp only [List.map_toArray, List.map_cons, List.map_nil]); first | done | rfl | (simp only [List.length_drop, List.length_take]; rfl)) ?_
  with_reducible refine (impl_Wide_u.calls a1_0 a1_1 t294 t295 _ A4.out).mono ?_
  rintro e w12 ⟨rfl, hb⟩
  refine ⟨_, rfl, ?_⟩
  have n0_ := Aside0.mk (blk_below (g := gb289) (o := .cells #[.int .u64 a0_0, .int .u64 a0_1] 24 (0, 0)) (by (with_reducible repeat (first | refine blk_drewN ?_ _ | refine blk_drew ?_ | refine blk_alloc ?_ _)); exact BK289.out) hb)
  have n1_ := Aside0.mk (blk_below (g := gb290) (o := .cells #[.int .u64 a1_0, .int .u64 a1_1] 24 (0, 0)) (by (with_reducible repeat (first | refine blk_drewN ?_ _ | refine blk_drew ?_ | refine blk_alloc ?_ _)); exact BK290.out) hb)
  have n2_ := Aside0.mk (blk_below (g := gb291) (o := .cells #[.int .u64 0, .int .u64 0] 24 (0, 0)) (by (with_reducible repeat (first | refine blk_drewN ?_ _ | refine blk_drew ?_ | refine blk_alloc ?_ _)); exact BK291.out) hb)
  have n3_ := Aside0.mk (below_step (by repeat (first | (with_reducible first | exact HB.out | apply below_alloc | apply pw_below_drewN | apply below_drew1 | refine below_set ?_ GE289.out | refine below_set ?_ GE290.out | refine below_set ?_ GE291.out) | exact HB.out)) hb)
  clear BK289
  clear BK290
  clear BK291
  clear HB
  have BK289 := n0_
  have BK290 := n1_
  have BK291 := n2_
  have HB := n3_
  clear n0_ n1_ n2_ n3_
  (try clear hb)
  (try clear hb2)
  (try clear hk)
  (try clear hi)
  refine hK.out _ _ ⟨(blk_cell BK289.out 0).trans rfl, (blk_cell BK289.out 1).trans rfl, (blk_cell BK290.out 0).trans rfl, (blk_cell BK290.out 1).trans rfl⟩ (fun hHeld => ?_)
  clear hK K
  refine norm_ (a' := ?_) ?_ ?_
  rotate_left
  · show Act.put _ (some 8) _ = _
    simp only [Act.put, List.setIfInBounds_toArray, List.set_cons_zero, List.set_cons_succ, i64_w, i32_w]
    rfl
  refine one_ (i := 4) (N := some 9) #[true, true, true, true, true, false, false] rfl rfl (by kernel_rfl) (by decide) (fun K hK => ?_)
  refine goes_ Try.func95 (by kernel_rfl) rfl #[.agg #[.int .u64 t292, .int .u64 t293], .agg #[.int .u64 t294, .int .u64 t295]] (by rfl) rfl rfl (by (try simp only [List.map_toArray, List.map_cons, List.map_nil]); first | done | rfl | (simp only [List.length_drop, List.length_take]; rfl)) ?_
  with_reducible refine (uint128_Uint128_SubWrap.calls t292 t293 t294 t295 t296 t297 _ A5.out).mono ?_
  rintro e w13 ⟨rfl, hb⟩
  refine ⟨_, rfl, ?_⟩
  have n0_ := Aside0.mk (blk_below (g := gb289) (o := .cells #[.int .u64 a0_0, .int .u64 a0_1] 24 (0, 0)) (by (with_reducible repeat (first | refine blk_drewN ?_ _ | refine blk_drew ?_ | refine blk_alloc ?_ _)); exact BK289.out) hb)
  have n1_ := Aside0.mk (blk_below (g := gb290) (o := .cells #[.int .u64 a1_0, .int .u64 a1_1] 24 (0, 0)) (by (with_reducible repeat (first | refine blk_drewN ?_ _ | refine blk_drew ?_ | refine blk_alloc ?_ _)); exact BK290.out) hb)
  have n2_ := Aside0.mk (blk_below (g := gb291) (o := .cells #[.int .u64 0, .int .u64 0] 24 (0, 0)) (by (with_reducible repeat (first | refine blk_drewN ?_ _ | refine blk_drew ?_ | refine blk_alloc ?_ _)); exact BK291.out) hb)
  have n3_ := Aside0.mk (below_step (by repeat (first | (with_reducible first | exact HB.out | apply below_alloc | apply pw_below_drewN | apply below_drew1 | refine below_set ?_ GE289.out | refine below_set ?_ GE290.out | refine below_set ?_ GE291.out) | exact HB.out)) hb)
  clear BK289
  clear BK290
  clear BK291
  clear HB
  have BK289 := n0_
  have BK290 := n1_
  have BK291 := n2_
  have HB := n3_
  clear n0_ n1_ n2_ n3_
  (try clear hb)
  (try clear hb2)
  (try clear hk)
  (try clear hi)
  refine hK.out _ _ ⟨(blk_cell BK289.out 0).trans rfl, (blk_cell BK289.out 1).trans rfl, (blk_cell BK290.out 0).trans rfl, (blk_cell BK290.out 1).trans rfl⟩ (fun hHeld => ?_)
  clear hK K
  refine norm_ (a' := ?_) ?_ ?_
  rotate_left
  · show Act.put _ (some 9) _ = _
    simp only [Act.put, List.setIfInBounds_toArray, List.set_cons_zero, List.set_cons_succ, i64_w, i32_w]
    rfl
  refine one_ (i := 5) (N := some 10) #[true, true, true, true, true, true, false] rfl rfl (by kernel_rfl) (by decide) (fun K hK => ?_)
  refine goes_ Try.func80 (by kernel_rfl) rfl #[.agg #[.int .u64 t296, .int .u64 t297]] (by rfl) rfl rfl (by (try simp only [List.map_toArray, List.map_cons, List.map_nil]); first | done | rfl | (simp only [List.length_drop, List.length_take]; rfl)) ?_
  with_reducible refine (impl_wide.calls t296 t297 t298 t299 _ A6.out).mono ?_
  rintro e w14 ⟨rfl, hb⟩
  refine ⟨_, rfl, ?_⟩
  have n0_ := Aside0.mk (blk_below (g := gb289) (o := .cells #[.int .u64 a0_0, .int .u64 a0_1] 24 (0, 0)) (by (with_reducible repeat (first | refine blk_drewN ?_ _ | refine blk_drew ?_ | refine blk_alloc ?_ _)); exact BK289.out) hb)
  have n1_ := Aside0.mk (blk_below (g := gb290) (o := .cells #[.int .u64 a1_0, .int .u64 a1_1] 24 (0, 0)) (by (with_reducible repeat (first | refine blk_drewN ?_ _ | refine blk_drew ?_ | refine blk_alloc ?_ _)); exact BK290.out) hb)
  have n2_ := Aside0.mk (blk_below (g := gb291) (o := .cells #[.int .u64 0, .int .u64 0] 24 (0, 0)) (by (with_reducible repeat (first | refine blk_drewN ?_ _ | refine blk_drew ?_ | refine blk_alloc ?_ _)); exact BK291.out) hb)
  have n3_ := Aside0.mk (below_step (by repeat (first | (with_reducible first | exact HB.out | apply below_alloc | apply pw_below_drewN | apply below_drew1 | refine below_set ?_ GE289.out | refine below_set ?_ GE290.out | refine below_set ?_ GE291.out) | exact HB.out)) hb)
  clear BK289
  clear BK290
  clear BK291
  clear HB
  have BK289 := n0_
  have BK290 := n1_
  have BK291 := n2_
  have HB := n3_
  clear n0_ n1_ n2_ n3_
  (try clear hb)
  (try clear hb2)
  (try clear hk)
  (try clear hi)
  refine hK.out _ _ ⟨(blk_cell BK289.out 0).trans rfl, (blk_cell BK289.out 1).trans rfl, (blk_cell BK290.out 0).trans rfl, (blk_cell BK290.out 1).trans rfl⟩ (fun hHeld => ?_)
  clear hK K
  refine norm_ (a' := ?_) ?_ ?_
  rotate_left
  · show Act.put _ (some 10) _ = _
    simp only [Act.put, List.setIfInBounds_toArray, List.set_cons_zero, List.set_cons_succ, i64_w, i32_w]
    rfl
  refine one_ (i := 6) (N := none) #[true, true, true, true, true, true, true] rfl rfl (by kernel_rfl) (by decide) (fun K hK => ?_)
  have hs15 : w14.cell? ⟨gb291, 0, none⟩ = some (.int .u64 0) := (blk_cell BK291.out 0).trans rfl
  have hfs15 := blk_frozen BK291.out 0
  have hns15_0 := NB289_291.out
  have hns15_1 := NB290_291.out
  have hms15_0 := NB291_289.out
  have hms15_1 := NB291_290.out
  have hs16 : w14.cell? ⟨gb291, 1, none⟩ = some (.int .u64 0) := (blk_cell BK291.out 1).trans rfl
  have hfs16 := blk_frozen BK291.out 1
  have hns16_0 := NB289_291.out
  have hns16_1 := NB290_291.out
  have hms16_0 := NB291_289.out
  have hms16_1 := NB291_290.out
  refine skip_ (w1 := ?_) (by rfl) rfl ?_ ?_
  rotate_left
  · go_simp
    rfl
  refine hK.out _ _ ⟨((cell_far (p := ⟨gb291, _, none⟩) NB289_291.out _).trans (((cell_far (p := ⟨gb291, _, none⟩) NB289_291.out _).trans (hHeld.1)))), ((cell_far (p := ⟨gb291, _, none⟩) NB289_291.out _).trans (((cell_far (p := ⟨gb291, _, none⟩) NB289_291.out _).trans (hHeld.2.1)))), ((cell_far (p := ⟨gb291, _, none⟩) NB290_291.out _).trans (((cell_far (p := ⟨gb291, _, none⟩) NB290_291.out _).trans (hHeld.2.2.1)))), ((cell_far (p := ⟨gb291, _, none⟩) NB290_291.out _).trans (((cell_far (p := ⟨gb291, _, none⟩) NB290_291.out _).trans (hHeld.2.2.2))))⟩ (fun hHeld => ?_)
  clear hK K
  refine done_ (by kernel_rfl) ?_
  try go_wp2
  refine bodyPost_ret (results_cell_row rfl _ _ gb291 24 #[.int .u64 t298, .int .u64 t299] (0, 0) _ rfl (by (with_reducible repeat (first | refine blk_drewN ?_ _ | refine blk_drew ?_ | refine blk_alloc ?_ _)); refine blk_put (cs := #[.int .u64 t298, .int .u64 0]) ?_ 1 _ rfl; (with_reducible repeat (first | refine blk_drewN ?_ _ | refine blk_drew ?_ | refine blk_alloc ?_ _)); refine blk_put (cs := #[.int .u64 0, .int .u64 0]) ?_ 0 _ rfl; (with_reducible repeat (first | refine blk_drewN ?_ _ | refine blk_drew ?_ | refine blk_alloc ?_ _)); exact BK291.out) Try.underlying24 rfl (by kernel_rfl)) rfl ?_
  exact ⟨by first | rfl | (simp [errW_none, errW_some] <;> rfl) | (simp [*, errW_none, errW_some] <;> rfl), by repeat (first | (with_reducible first | exact HB.out | apply below_alloc | apply pw_below_drewN | apply below_drew1 | refine below_set ?_ GE289.out | refine below_set ?_ GE290.out | refine below_set ?_ GE291.out) | exact HB.out)⟩


/-! ### spec_Plus: function 53 -/
mutual
def spec_Plus.l0 : Nat → List Int → List Int → List Int → Int → Int → Option (List Int)
  | 0, _, _, _, _, _ => none
  | k + 1, x0, x1, x5, x6, x7 => if x7 < (x0.length : Int) then (spec_Plus.j1 k x0 x1 x5 x6 x7 true) else (if x7 < (x1.length : Int) then (spec_Plus.j1 k x0 x1 x5 x6 x7 true) else (spec_Plus.j1 k x0 x1 x5 x6 x7 (decide (x6 > 0))))
def spec_Plus.j1 : Nat → List Int → List Int → List Int → Int → Int → Bool → Option (List Int)
  | 0, _, _, _, _, _, _ => none
  | k + 1, x0, x1, x5, x6, x7, x21 => if x21 = true then (if x7 < (x0.length : Int) then (if 0 ≤ x7 then (if x7 < (x1.length : Int) then (if x5.length < 17592186044416 then (spec_Plus.l0 k x0 x1 (x5 ++ [Go.bits .and .i64 (wrap64 ((wrap64 (x6 + (rd x0 x7))) + (rd x1 x7))) 65535]) ((wrap64 ((wrap64 (x6 + (rd x0 x7))) + (rd x1 x7))) / 65536) (wrap64 (x7 + 1))) else (none)) else (if x5.length < 17592186044416 then (spec_Plus.l0 k x0 x1 (x5 ++ [Go.bits .and .i64 (wrap64 (x6 + (rd x0 x7))) 65535]) ((wrap64 (x6 + (rd x0 x7))) / 65536) (wrap64 (x7 + 1))) else (none))) else (none)) else (if x7 < (x1.length : Int) then (if 0 ≤ x7 then (if x5.length < 17592186044416 then (spec_Plus.l0 k x0 x1 (x5 ++ [Go.bits .and .i64 (wrap64 (x6 + (rd x1 x7))) 65535]) ((wrap64 (x6 + (rd x1 x7))) / 65536) (wrap64 (x7 + 1))) else (none)) else (none)) else (if x5.length < 17592186044416 then (spec_Plus.l0 k x0 x1 (x5 ++ [Go.bits .and .i64 x6 65535]) (x6 / 65536) (wrap64 (x7 + 1))) else (none)))) else ((spec_trim.f k x5).bind fun t300 => (some t300))
end
def spec_Plus.f (k : Nat) (l0 : List Int) (l1 : List Int) : Option (List Int) := spec_Plus.l0 k l0 l1 ([] : List Int) 0 0
theorem spec_Plus.mono_l : ∀ k, (∀ y0 y1 y2 y3 y4, LeO (spec_Plus.l0 k y0 y1 y2 y3 y4) (spec_Plus.l0 (k + 1) y0 y1 y2 y3 y4)) ∧ (∀ y0 y1 y2 y3 y4 y5, LeO (spec_Plus.j1 k y0 y1 y2 y3 y4 y5) (spec_Plus.j1 (k + 1) y0 y1 y2 y3 y4 y5))
  | 0 => ⟨fun _ _ _ _ _ r h => by simp [spec_Plus.l0] at h, fun _ _ _ _ _ _ r h => by simp [spec_Plus.j1] at h⟩
  | k + 1 => by
    obtain ⟨ih0, ih1⟩ := spec_Plus.mono_l k
    refine ⟨?_, ?_⟩
    · intro y0 y1 y2 y3 y4
      unfold spec_Plus.l0
      repeat' first
      | (with_reducible exact ih0 _ _ _ _ _)
      | (with_reducible exact ih1 _ _ _ _ _ _)
      | (with_reducible exact spec_trim.mono _ _)
      | (with_reducible exact LeO.refl _)
      | (with_reducible exact LeO.none _)
      | (with_reducible refine LeO.ite ?_ ?_)
      | (with_reducible refine LeO.bind ?_ (fun _ => ?_))
      | exact ih0 _ _ _ _ _
      | exact ih1 _ _ _ _ _ _
      | exact spec_trim.mono _ _
      | exact LeO.none _
      | refine LeO.ite ?_ ?_
      | refine LeO.bind ?_ (fun _ => ?_)
    · intro y0 y1 y2 y3 y4 y5
      unfold spec_Plus.j1
      repeat' first
      | (with_reducible exact ih0 _ _ _ _ _)
      | (with_reducible exact ih1 _ _ _ _ _ _)
      | (with_reducible exact spec_trim.mono _ _)
      | (with_reducible exact LeO.refl _)
      | (with_reducible exact LeO.none _)
      | (with_reducible refine LeO.ite ?_ ?_)
      | (with_reducible refine LeO.bind ?_ (fun _ => ?_))
      | exact ih0 _ _ _ _ _
      | exact ih1 _ _ _ _ _ _
      | exact spec_trim.mono _ _
      | exact LeO.none _
      | refine LeO.ite ?_ ?_
      | refine LeO.bind ?_ (fun _ => ?_)
theorem spec_Plus.mono : ∀ a0 a1 k, LeO (spec_Plus.f k a0 a1) (spec_Plus.f (k + 1) a0 a1) := by
  intro a0 a1 k
  obtain ⟨ih0, ih1⟩ := spec_Plus.mono_l k
  unfold spec_Plus.f
  repeat' first
      | (with_reducible exact ih0 _ _ _ _ _)
      | (with_reducible exact ih1 _ _ _ _ _ _)
      | (with_reducible exact spec_trim.mono _ _)
      | (with_reducible exact LeO.refl _)
      | (with_reducible exact LeO.none _)
      | (with_reducible refine LeO.ite ?_ ?_)
      | (with_reducible refine LeO.bind ?_ (fun _ => ?_))
      | exact ih0 _ _ _ _ _
      | exact ih1 _ _ _ _ _ _
      | exact spec_trim.mono _ _
      | exact LeO.none _
      | refine LeO.ite ?_ ?_
      | refine LeO.bind ?_ (fun _ => ?_)
set_option maxHeartbeats 8000000 in
set_option maxRecDepth 100000 in
theorem spec_Plus.calls (k : Nat) (A0 : Option Addr) (c0 : Nat) (l0 : List Int) (A1 : Option Addr) (c1 : Nat) (l1 : List Int) (r : List Int) (w : World) (hr0 : Kd.C (Kd.int .i64) w A0 l0.length l0) (hc0 : l0.length ≤ c0) (hr1 : Kd.C (Kd.int .i64) w A1 l1.length l1) (hc1 : l1.length ≤ c1) (h : spec_Plus.f k l0 l1 = some r) :
    Calls Try.prog 53 #[.slice A0 l0.length c0, .slice A1 l1.length c1] w fun e w' => ∃ v0_ : Value, e = .returned (v0_) ∧ Kd.V (Kd.int .i64) 3 w' w.heap.size (fun k_ => (w.heap.size ≤ k_)) v0_ r ∧ Below w.heap.size w w' := by
  have HR0 := Aside0.mk hr0
  have HC0 := Aside0.mk hc0
  clear hr0 hc0
  have HR1 := Aside0.mk hr1
  have HC1 := Aside0.mk hc1
  clear hr1 hc1
  have HB := Aside0.mk (Below.refl w.heap.size w)
  have H : (spec_Plus.l0 k l0 l1 ([] : List Int) 0 0) = some r := h
  clear h
  have H' := Aside0.mk H
  clear H
  go_enter Try.func53, Try.ntmps53
  go_wp2
  go_loopg [5, 6, 7] k (fun kq v5 v6 v7 w' => ∃ (x5_1 : List Int) (x6_1 : Int) (x7_1 : Int), v6 = .int .i64 x6_1 ∧ v7 = .int .i64 x7_1 ∧ Aside0 (spec_Plus.l0 kq l0 l1 x5_1 x6_1 x7_1 = some r) ∧ Aside0 (kq ≤ k) ∧ Aside0 (Kd.R (Kd.int .i64) 3 w' w.heap.size (fun k_ => (w.heap.size ≤ k_)) v5 x5_1) ∧ Aside0 (Below w.heap.size w w'))
  case atStart => exact ⟨(([] : List Int)), (0), (0), (by first | rfl | (simp; done) | (simp [*]; done)), (by first | rfl | (simp; done) | (simp [*]; done)), H', ⟨Nat.le_refl _⟩, ⟨by first | exact Kd.R_nil _ _ _ _ _ | exact Kd.N_nil _ _ _ _ _ | exact Kd.V_nil _ _ _ _ _ | exact Kd.Q_nil _ _ _ _ _ | exact Kd.S_nil _ _ _ _ _⟩, ⟨by repeat (first | (with_reducible first | exact HB.out | apply below_alloc | apply pw_below_drewN | apply below_drew1) | exact HB.out)⟩⟩
  case round =>
    clear H'
    try clear c1
    try clear p2
    obtain ⟨x5_1, x6_1, x7_1, rfl, rfl, HA, HK1, HO_5, HB⟩ := hrel
    cases gk with
    | zero => exact absurd HA.out (by simp [spec_Plus.l0])
    | succ k1 =>
      have H := HA.out
      clear HA
      simp only [spec_Plus.l0] at H
      have HC3 := Aside0.mk H
      clear H
      go_upto_region 4 with (fail)
      go_cut [21] (fun v21 wc => ∃ (kq : Nat) (x21_2 : Bool), v21 = .bool x21_2 ∧ Aside0 (spec_Plus.j1 kq l0 l1 x5_1 x6_1 x7_1 x21_2 = some r) ∧ Aside0 (kq ≤ k1) ∧ Aside0 (Kd.R (Kd.int .i64) 3 wc w.heap.size (fun k_ => (w.heap.size ≤ k_)) u5 x5_1) ∧ Aside0 (Below w.heap.size w wc))
      case first =>
        have H := HC3.out
        clear HC3
        by_cases c4 : x7_1 < (l0.length : Int)
        · rw [if_pos c4] at H
          have c4b0 : decide (x7_1 < (l0.length : Int)) = true := decide_eq_true c4
          clear c4
          (first | rw [c4b0] | (simp only [i64_w, i32_w]; rw [c4b0]) | skip)
          have H' := Aside0.mk H
          clear H
          go_wp2
          go_meet
          case rel => exact ⟨_, (true), (by first | rfl | (simp; done) | (simp [*]; done)), H', ⟨by have := HK1.out; first | omega | exact Nat.le_refl _⟩, ⟨by (with_reducible repeat (first | apply Kd.R_alloc | apply Kd.R_drewN | apply Kd.R_drew)); exact HO_5.out⟩, ⟨by repeat (first | (with_reducible first | exact HB.out | apply below_alloc | apply pw_below_drewN | apply below_drew1) | exact HB.out)⟩⟩
        · rw [if_neg c4] at H
          have c4b0 : decide (x7_1 < (l0.length : Int)) = false := decide_eq_false c4
          clear c4
          (first | rw [c4b0] | (simp only [i64_w, i32_w]; rw [c4b0]) | skip)
          by_cases c5 : x7_1 < (l1.length : Int)
          · rw [if_pos c5] at H
            have c5b0 : decide (x7_1 < (l1.length : Int)) = true := decide_eq_true c5
            clear c5
            have H' := Aside0.mk H
            clear H
            go_wp2
            go_meet
            case rel => exact ⟨_, (true), (by first | rfl | (simp; done) | (simp [*]; done)), H', ⟨by have := HK1.out; first | omega | exact Nat.le_refl _⟩, ⟨by (with_reducible repeat (first | apply Kd.R_alloc | apply Kd.R_drewN | apply Kd.R_drew)); exact HO_5.out⟩, ⟨by repeat (first | (with_reducible first | exact HB.out | apply below_alloc | apply pw_below_drewN | apply below_drew1) | exact HB.out)⟩⟩
          · rw [if_neg c5] at H
            have c5b0 : decide (x7_1 < (l1.length : Int)) = false := decide_eq_false c5
            clear c5
            have H' := Aside0.mk H
            clear H
            go_wp2
            go_meet
            case rel => exact ⟨_, (decide (x6_1 > 0)), (by first | rfl | (simp; done) | (simp [*]; done)), H', ⟨by have := HK1.out; first | omega | exact Nat.le_refl _⟩, ⟨by (with_reducible repeat (first | apply Kd.R_alloc | apply Kd.R_drewN | apply Kd.R_drew)); exact HO_5.out⟩, ⟨by repeat (first | (with_reducible first | exact HB.out | apply below_alloc | apply pw_below_drewN | apply below_drew1) | exact HB.out)⟩⟩
      case rest =>
        clear HC3
        try clear c1
        try clear p2
        try clear c4
        try clear c4b0
        try clear c5
        try clear c5b0
        try clear p2
        obtain ⟨kq, x21_2, rfl, HA, HJ2, HO_5, HB⟩ := hcut
        cases kq with
        | zero => exact absurd HA.out (by simp [spec_Plus.j1])
        | succ kj2 =>
          have H := HA.out
          clear HA
          simp only [spec_Plus.j1] at H
          by_cases c6 : x21_2 = true
          · subst c6
            have H1 : (if x7_1 < (l0.length : Int) then (if 0 ≤ x7_1 then (if x7_1 < (l1.length : Int) then (if x5_1.length < 17592186044416 then (spec_Plus.l0 kj2 l0 l1 (x5_1 ++ [Go.bits .and .i64 (wrap64 ((wrap64 (x6_1 + (rd l0 x7_1))) + (rd l1 x7_1))) 65535]) ((wrap64 ((wrap64 (x6_1 + (rd l0 x7_1))) + (rd l1 x7_1))) / 65536) (wrap64 (x7_1 + 1))) else (none)) else (if x5_1.length < 17592186044416 then (spec_Plus.l0 kj2 l0 l1 (x5_1 ++ [Go.bits .and .i64 (wrap64 (x6_1 + (rd l0 x7_1))) 65535]) ((wrap64 (x6_1 + (rd l0 x7_1))) / 65536) (wrap64 (x7_1 + 1))) else (none))) else (none)) else (if x7_1 < (l1.length : Int) then (if 0 ≤ x7_1 then (if x5_1.length < 17592186044416 then (spec_Plus.l0 kj2 l0 l1 (x5_1 ++ [Go.bits .and .i64 (wrap64 (x6_1 + (rd l1 x7_1))) 65535]) ((wrap64 (x6_1 + (rd l1 x7_1))) / 65536) (wrap64 (x7_1 + 1))) else (none)) else (none)) else (if x5_1.length < 17592186044416 then (spec_Plus.l0 kj2 l0 l1 (x5_1 ++ [Go.bits .and .i64 x6_1 65535]) (x6_1 / 65536) (wrap64 (x7_1 + 1))) else (none)))) = some r := by rw [if_pos rfl] at H; exact H
            clear H
            have H := H1
            clear H1
            by_cases c7 : x7_1 < (l0.length : Int)
            · rw [if_pos c7] at H
              have c7b0 : decide (x7_1 < (l0.length : Int)) = true := decide_eq_true c7
              clear c7
              by_cases c8 : 0 ≤ x7_1
              · rw [if_pos c8] at H
                have c8b0 : decide (0 ≤ x7_1) = true := decide_eq_true c8
                clear c8
                by_cases c9 : x7_1 < (l1.length : Int)
                · rw [if_pos c9] at H
                  have c9b0 : decide (x7_1 < (l1.length : Int)) = true := decide_eq_true c9
                  clear c9
                  by_cases c10 : x5_1.length < 17592186044416
                  · rw [if_pos c10] at H
                    have LMc10 := Aside0.mk c10
                    clear c10
                    obtain ⟨y305, hy305⟩ : ∃ y_ : List Int, y_ = (x5_1 ++ [Go.bits .and .i64 (wrap64 ((wrap64 (x6_1 + (rd l0 x7_1))) + (rd l1 x7_1))) 65535]) := ⟨_, rfl⟩
                    replace H : (spec_Plus.l0 kj2 l0 l1 y305 ((wrap64 ((wrap64 (x6_1 + (rd l0 x7_1))) + (rd l1 x7_1))) / 65536) (wrap64 (x7_1 + 1))) = some r := by first | (rw [hy305]; with_reducible exact H) | (have H2_ := (Option.bind_some _ _).symm.trans H; rw [hy305]; with_reducible exact H2_) | (have H2_ := (Option.bind_some _ _).symm.trans H; with_reducible exact H2_) | with_reducible exact H | (rw [hy305]; exact H) | exact H
                    have Ny305 := Aside0.mk hy305
                    clear hy305
                    have H' := Aside0.mk H
                    clear H
                    have p303 : 0 ≤ (x7_1 : Int) := of_decide_eq_true (by first | (with_reducible assumption) | assumption)
                    have q303 : x7_1 < (l0.length : Int) := of_decide_eq_true (by first | (with_reducible assumption) | assumption)
                    obtain ⟨ad303, e303, hx303_0⟩ := Kd.at_int HR0.out x7_1 p303 q303
                    cases e303
                    replace hx303_0 := (HB.out.cell (World.block_lt_of_cell? w _ hx303_0)).trans hx303_0
                    replace p303 := eq_true p303
                    replace q303 := eq_true q303
                    have p304 : 0 ≤ (x7_1 : Int) := of_decide_eq_true (by first | (with_reducible assumption) | assumption)
                    have q304 : x7_1 < (l1.length : Int) := of_decide_eq_true (by first | (with_reducible assumption) | assumption)
                    obtain ⟨ad304, e304, hx304_0⟩ := Kd.at_int HR1.out x7_1 p304 q304
                    cases e304
                    replace hx304_0 := (HB.out.cell (World.block_lt_of_cell? w _ hx304_0)).trans hx304_0
                    replace p304 := eq_true p304
                    replace q304 := eq_true q304
                    go_wp2_with (first | ((with_reducible refine gate_builtin (b := .append) (xs := #[.tmp 44, .tmp 47]) rfl ?_); (try (refine gate_guard (by rfl) ?_; dsimp only)); at_builtin; refine Kd.R_append (Kd.int .i64) (w0 := w) w.heap.size rfl (.tmp 44) (.tmp 47) 27 3 (.int .i64 0) 8 rfl Try.underlying27 info3 rfl (by decide) (by omega) u5 x5_1 (Go.bits .and .i64 (wrap64 ((wrap64 (x6_1 + (rd l0 x7_1))) + (rd l1 x7_1))) 65535) [.int .i64 (Go.bits .and .i64 (wrap64 ((wrap64 (x6_1 + (rd l0 x7_1))) + (rd l1 x7_1))) 65535)] (fun k_ => (w.heap.size ≤ k_)) (fun _ => False) rfl rfl ?aP (fun _ hk => hk.elim) ?aF ?aO ?aB ?aS ?aL ?_; (case aP => exact rfl); (case aB => exact (by repeat (first | (with_reducible first | exact HB.out | apply below_alloc | apply pw_below_drewN | apply below_drew1) | exact HB.out))); (case aF => exact (fun k_ hk => (Nat.le_trans (below_size (by repeat (first | (with_reducible first | exact HB.out | apply below_alloc | apply pw_below_drewN | apply below_drew1) | exact HB.out))) hk))); (case aO => exact (by (with_reducible repeat (first | apply Kd.R_alloc | apply Kd.R_drewN | apply Kd.R_drew)); exact HO_5.out)); (case aS => exact (below_size (by repeat (first | (with_reducible first | exact HB.out | apply below_alloc | apply pw_below_drewN | apply below_drew1) | exact HB.out)))); (case aL => have := LMc10.out; omega); intro v306 w11 ho hb hg hat; rw [← Ny305.out] at ho; have n0_ := Aside0.mk (hb); have n1_ := Aside0.mk (ho); clear HB; clear HO_5; have HB := n0_; have HO307 := n1_; clear n0_ n1_; clear ho hb hg hat))
                    go_roundg kj2
                    case measure => have := HK1.out; have := HJ2.out; omega
                    case rel => exact ⟨(y305), ((wrap64 ((wrap64 (x6_1 + (rd l0 x7_1))) + (rd l1 x7_1))) / 65536), (wrap64 (x7_1 + 1)), (by first | rfl | (simp; done) | (simp [*]; done)), (by first | rfl | (simp; done) | (simp [*]; done)), H', ⟨by have := HK1.out; have := HJ2.out; omega⟩, ⟨by (with_reducible repeat (first | apply Kd.R_alloc | apply Kd.R_drewN | apply Kd.R_drew)); exact HO307.out⟩, ⟨by repeat (first | (with_reducible first | exact HB.out | apply below_alloc | apply pw_below_drewN | apply below_drew1) | exact HB.out)⟩⟩
                  · rw [if_neg c10] at H
                    exact absurd H (by simp)
                · rw [if_neg c9] at H
                  have c9b0 : decide (x7_1 < (l1.length : Int)) = false := decide_eq_false c9
                  clear c9
                  by_cases c12 : x5_1.length < 17592186044416
                  · rw [if_pos c12] at H
                    have LMc12 := Aside0.mk c12
                    clear c12
                    obtain ⟨y308, hy308⟩ : ∃ y_ : List Int, y_ = (x5_1 ++ [Go.bits .and .i64 (wrap64 (x6_1 + (rd l0 x7_1))) 65535]) := ⟨_, rfl⟩
                    replace H : (spec_Plus.l0 kj2 l0 l1 y308 ((wrap64 (x6_1 + (rd l0 x7_1))) / 65536) (wrap64 (x7_1 + 1))) = some r := by first | (rw [hy308]; with_reducible exact H) | (have H2_ := (Option.bind_some _ _).symm.trans H; rw [hy308]; with_reducible exact H2_) | (have H2_ := (Option.bind_some _ _).symm.trans H; with_reducible exact H2_) | with_reducible exact H | (rw [hy308]; exact H) | exact H
                    have Ny308 := Aside0.mk hy308
                    clear hy308
                    have H' := Aside0.mk H
                    clear H
                    have p303 : 0 ≤ (x7_1 : Int) := of_decide_eq_true (by first | (with_reducible assumption) | assumption)
                    have q303 : x7_1 < (l0.length : Int) := of_decide_eq_true (by first | (with_reducible assumption) | assumption)
                    obtain ⟨ad303, e303, hx303_0⟩ := Kd.at_int HR0.out x7_1 p303 q303
                    cases e303
                    replace hx303_0 := (HB.out.cell (World.block_lt_of_cell? w _ hx303_0)).trans hx303_0
                    replace p303 := eq_true p303
                    replace q303 := eq_true q303
                    go_wp2_with (first | ((with_reducible refine gate_builtin (b := .append) (xs := #[.tmp 44, .tmp 47]) rfl ?_); (try (refine gate_guard (by rfl) ?_; dsimp only)); at_builtin; refine Kd.R_append (Kd.int .i64) (w0 := w) w.heap.size rfl (.tmp 44) (.tmp 47) 27 3 (.int .i64 0) 8 rfl Try.underlying27 info3 rfl (by decide) (by omega) u5 x5_1 (Go.bits .and .i64 (wrap64 (x6_1 + (rd l0 x7_1))) 65535) [.int .i64 (Go.bits .and .i64 (wrap64 (x6_1 + (rd l0 x7_1))) 65535)] (fun k_ => (w.heap.size ≤ k_)) (fun _ => False) rfl rfl ?aP (fun _ hk => hk.elim) ?aF ?aO ?aB ?aS ?aL ?_; (case aP => exact rfl); (case aB => exact (by repeat (first | (with_reducible first | exact HB.out | apply below_alloc | apply pw_below_drewN | apply below_drew1) | exact HB.out))); (case aF => exact (fun k_ hk => (Nat.le_trans (below_size (by repeat (first | (with_reducible first | exact HB.out | apply below_alloc | apply pw_below_drewN | apply below_drew1) | exact HB.out))) hk))); (case aO => exact (by (with_reducible repeat (first | apply Kd.R_alloc | apply Kd.R_drewN | apply Kd.R_drew)); exact HO_5.out)); (case aS => exact (below_size (by repeat (first | (with_reducible first | exact HB.out | apply below_alloc | apply pw_below_drewN | apply below_drew1) | exact HB.out)))); (case aL => have := LMc12.out; omega); intro v309 w13 ho hb hg hat; rw [← Ny308.out] at ho; have n0_ := Aside0.mk (hb); have n1_ := Aside0.mk (ho); clear HB; clear HO_5; have HB := n0_; have HO310 := n1_; clear n0_ n1_; clear ho hb hg hat))
                    go_roundg kj2
                    case measure => have := HK1.out; have := HJ2.out; omega
                    case rel => exact ⟨(y308), ((wrap64 (x6_1 + (rd l0 x7_1))) / 65536), (wrap64 (x7_1 + 1)), (by first | rfl | (simp; done) | (simp [*]; done)), (by first | rfl | (simp; done) | (simp [*]; done)), H', ⟨by have := HK1.out; have := HJ2.out; omega⟩, ⟨by (with_reducible repeat (first | apply Kd.R_alloc | apply Kd.R_drewN | apply Kd.R_drew)); exact HO310.out⟩, ⟨by repeat (first | (with_reducible first | exact HB.out | apply below_alloc | apply pw_below_drewN | apply below_drew1) | exact HB.out)⟩⟩
                  · rw [if_neg c12] at H
                    exact absurd H (by simp)
              · rw [if_neg c8] at H
                exact absurd H (by simp)
            · rw [if_neg c7] at H
              have c7b0 : decide (x7_1 < (l0.length : Int)) = false := decide_eq_false c7
              clear c7
              by_cases c14 : x7_1 < (l1.length : Int)
              · rw [if_pos c14] at H
                have c14b0 : decide (x7_1 < (l1.length : Int)) = true := decide_eq_true c14
                clear c14
                by_cases c15 : 0 ≤ x7_1
                · rw [if_pos c15] at H
                  have c15b0 : decide (0 ≤ x7_1) = true := decide_eq_true c15
                  clear c15
                  by_cases c16 : x5_1.length < 17592186044416
                  · rw [if_pos c16] at H
                    have LMc16 := Aside0.mk c16
                    clear c16
                    obtain ⟨y312, hy312⟩ : ∃ y_ : List Int, y_ = (x5_1 ++ [Go.bits .and .i64 (wrap64 (x6_1 + (rd l1 x7_1))) 65535]) := ⟨_, rfl⟩
                    replace H : (spec_Plus.l0 kj2 l0 l1 y312 ((wrap64 (x6_1 + (rd l1 x7_1))) / 65536) (wrap64 (x7_1 + 1))) = some r := by first | (rw [hy312]; with_reducible exact H) | (have H2_ := (Option.bind_some _ _).symm.trans H; rw [hy312]; with_reducible exact H2_) | (have H2_ := (Option.bind_some _ _).symm.trans H; with_reducible exact H2_) | with_reducible exact H | (rw [hy312]; exact H) | exact H
                    have Ny312 := Aside0.mk hy312
                    clear hy312
                    have H' := Aside0.mk H
                    clear H
                    have p311 : 0 ≤ (x7_1 : Int) := of_decide_eq_true (by first | (with_reducible assumption) | assumption)
                    have q311 : x7_1 < (l1.length : Int) := of_decide_eq_true (by first | (with_reducible assumption) | assumption)
                    obtain ⟨ad311, e311, hx311_0⟩ := Kd.at_int HR1.out x7_1 p311 q311
                    cases e311
                    replace hx311_0 := (HB.out.cell (World.block_lt_of_cell? w _ hx311_0)).trans hx311_0
                    replace p311 := eq_true p311
                    replace q311 := eq_true q311
                    go_wp2_with (first | ((with_reducible refine gate_builtin (b := .append) (xs := #[.tmp 44, .tmp 47]) rfl ?_); (try (refine gate_guard (by rfl) ?_; dsimp only)); at_builtin; refine Kd.R_append (Kd.int .i64) (w0 := w) w.heap.size rfl (.tmp 44) (.tmp 47) 27 3 (.int .i64 0) 8 rfl Try.underlying27 info3 rfl (by decide) (by omega) u5 x5_1 (Go.bits .and .i64 (wrap64 (x6_1 + (rd l1 x7_1))) 65535) [.int .i64 (Go.bits .and .i64 (wrap64 (x6_1 + (rd l1 x7_1))) 65535)] (fun k_ => (w.heap.size ≤ k_)) (fun _ => False) rfl rfl ?aP (fun _ hk => hk.elim) ?aF ?aO ?aB ?aS ?aL ?_; (case aP => exact rfl); (case aB => exact (by repeat (first | (with_reducible first | exact HB.out | apply below_alloc | apply pw_below_drewN | apply below_drew1) | exact HB.out))); (case aF => exact (fun k_ hk => (Nat.le_trans (below_size (by repeat (first | (with_reducible first | exact HB.out | apply below_alloc | apply pw_below_drewN | apply below_drew1) | exact HB.out))) hk))); (case aO => exact (by (with_reducible repeat (first | apply Kd.R_alloc | apply Kd.R_drewN | apply Kd.R_drew)); exact HO_5.out)); (case aS => exact (below_size (by repeat (first | (with_reducible first | exact HB.out | apply below_alloc | apply pw_below_drewN | apply below_drew1) | exact HB.out)))); (case aL => have := LMc16.out; omega); intro v313 w17 ho hb hg hat; rw [← Ny312.out] at ho; have n0_ := Aside0.mk (hb); have n1_ := Aside0.mk (ho); clear HB; clear HO_5; have HB := n0_; have HO314 := n1_; clear n0_ n1_; clear ho hb hg hat))
                    go_roundg kj2
                    case measure => have := HK1.out; have := HJ2.out; omega
                    case rel => exact ⟨(y312), ((wrap64 (x6_1 + (rd l1 x7_1))) / 65536), (wrap64 (x7_1 + 1)), (by first | rfl | (simp; done) | (simp [*]; done)), (by first | rfl | (simp; done) | (simp [*]; done)), H', ⟨by have := HK1.out; have := HJ2.out; omega⟩, ⟨by (with_reducible repeat (first | apply Kd.R_alloc | apply Kd.R_drewN | apply Kd.R_drew)); exact HO314.out⟩, ⟨by repeat (first | (with_reducible first | exact HB.out | apply below_alloc | apply pw_below_drewN | apply below_drew1) | exact HB.out)⟩⟩
                  · rw [if_neg c16] at H
                    exact absurd H (by simp)
                · rw [if_neg c15] at H
                  exact absurd H (by simp)
              · rw [if_neg c14] at H
                have c14b0 : decide (x7_1 < (l1.length : Int)) = false := decide_eq_false c14
                clear c14
                by_cases c18 : x5_1.length < 17592186044416
                · rw [if_pos c18] at H
                  have LMc18 := Aside0.mk c18
                  clear c18
                  obtain ⟨y315, hy315⟩ : ∃ y_ : List Int, y_ = (x5_1 ++ [Go.bits .and .i64 x6_1 65535]) := ⟨_, rfl⟩
                  replace H : (spec_Plus.l0 kj2 l0 l1 y315 (x6_1 / 65536) (wrap64 (x7_1 + 1))) = some r := by first | (rw [hy315]; with_reducible exact H) | (have H2_ := (Option.bind_some _ _).symm.trans H; rw [hy315]; with_reducible exact H2_) | (have H2_ := (Option.bind_some _ _).symm.trans H; with_reducible exact H2_) | with_reducible exact H | (rw [hy315]; exact H) | exact H
                  have Ny315 := Aside0.mk hy315
                  clear hy315
                  have H' := Aside0.mk H
                  clear H
                  go_wp2_with (first | ((with_reducible refine gate_builtin (b := .append) (xs := #[.tmp 44, .tmp 47]) rfl ?_); (try (refine gate_guard (by rfl) ?_; dsimp only)); at_builtin; refine Kd.R_append (Kd.int .i64) (w0 := w) w.heap.size rfl (.tmp 44) (.tmp 47) 27 3 (.int .i64 0) 8 rfl Try.underlying27 info3 rfl (by decide) (by omega) u5 x5_1 (Go.bits .and .i64 x6_1 65535) [.int .i64 (Go.bits .and .i64 x6_1 65535)] (fun k_ => (w.heap.size ≤ k_)) (fun _ => False) rfl rfl ?aP (fun _ hk => hk.elim) ?aF ?aO ?aB ?aS ?aL ?_; (case aP => exact rfl); (case aB => exact (by repeat (first | (with_reducible first | exact HB.out | apply below_alloc | apply pw_below_drewN | apply below_drew1) | exact HB.out))); (case aF => exact (fun k_ hk => (Nat.le_trans (below_size (by repeat (first | (with_reducible first | exact HB.out | apply below_alloc | apply pw_below_drewN | apply below_drew1) | exact HB.out))) hk))); (case aO => exact (by (with_reducible repeat (first | apply Kd.R_alloc | apply Kd.R_drewN | apply Kd.R_drew)); exact HO_5.out)); (case aS => exact (below_size (by repeat (first | (with_reducible first | exact HB.out | apply below_alloc | apply pw_below_drewN | apply below_drew1) | exact HB.out)))); (case aL => have := LMc18.out; omega); intro v316 w19 ho hb hg hat; rw [← Ny315.out] at ho; have n0_ := Aside0.mk (hb); have n1_ := Aside0.mk (ho); clear HB; clear HO_5; have HB := n0_; have HO317 := n1_; clear n0_ n1_; clear ho hb hg hat))
                  go_roundg kj2
                  case measure => have := HK1.out; have := HJ2.out; omega
                  case rel => exact ⟨(y315), (x6_1 / 65536), (wrap64 (x7_1 + 1)), (by first | rfl | (simp; done) | (simp [*]; done)), (by first | rfl | (simp; done) | (simp [*]; done)), H', ⟨by have := HK1.out; have := HJ2.out; omega⟩, ⟨by (with_reducible repeat (first | apply Kd.R_alloc | apply Kd.R_drewN | apply Kd.R_drew)); exact HO317.out⟩, ⟨by repeat (first | (with_reducible first | exact HB.out | apply below_alloc | apply pw_below_drewN | apply below_drew1) | exact HB.out)⟩⟩
                · rw [if_neg c18] at H
                  exact absurd H (by simp)
          · replace c6 := Bool.eq_false_iff.mpr c6
            subst c6
            have H1 : ((spec_trim.f kj2 x5_1).bind fun t300 => (some t300)) = some r := by rw [if_neg (show ¬ (false = true) by decide)] at H; exact H
            clear H
            have H := H1
            clear H1
            replace H := Option.bind_eq_some_iff.mp H
            obtain ⟨t300, A200, H⟩ := H
            replace H : (some t300) = some r := H
            have A20 := Aside0.mk A200
            clear A200
            obtain rfl := Option.some.inj H
            obtain ⟨Ao21, co21, eo21⟩ := Kd.R_slice HO_5.out
            subst eo21
            go_wp2_with (first | ((with_reducible refine gate_callee (f := 89) rfl ?_); refine goesL_ (some 52) rfl rfl Try.func89 (by kernel_rfl) rfl #[.slice Ao21 x5_1.length co21] rfl (by (try simp only [List.map_toArray, List.map_cons, List.map_nil]); first | done | rfl | (simp only [List.length_drop, List.length_take]; rfl)) ?_; (with_reducible refine (spec_trim.calls kj2 (fun k_ => some k_ = (.slice Ao21 x5_1.length co21 : Value).ownBlock) _ _ x5_1 t300 _ ?side1 A20.out).mono ?_); (case side1 => exact Kd.R_V (Kd.R_tight rfl (HO_5.out))); rintro e w22 ⟨v301, rfl, ho0, hb⟩; refine ⟨_, rfl, ?_⟩; have n0_ := Aside0.mk (Kd.R_below (by (with_reducible repeat (first | apply Kd.R_alloc | apply Kd.R_drewN | apply Kd.R_drew)); exact HO_5.out) hb); have n1_ := Aside0.mk (Kd.V_lower (Kd.V_mono (ok' := fun k_ => (w.heap.size ≤ k_)) ho0 (fun k_ hk_ => Or.elim hk_ (fun hs_ => ((HO_5.out).1 k_ hs_.symm)) (fun hn_ => (Nat.le_trans (below_size (by repeat (first | (with_reducible first | exact HB.out | apply below_alloc | apply pw_below_drewN | apply below_drew1) | exact HB.out))) hn_)))) (below_size (by repeat (first | (with_reducible first | exact HB.out | apply below_alloc | apply pw_below_drewN | apply below_drew1) | exact HB.out)))); have n2_ := Aside0.mk (below_step (by repeat (first | (with_reducible first | exact HB.out | apply below_alloc | apply pw_below_drewN | apply below_drew1) | exact HB.out)) hb); clear HO_5; clear HB; have HO_5 := n0_; have HO302 := n1_; have HB := n2_; clear n0_ n1_ n2_; (try clear hb); (try clear hb2); (try clear hk); (try clear hi); (try clear ho0)))
            go_ret
            exact ⟨_, by first | rfl | (simp [errW_none, errW_some] <;> rfl) | (simp [*, errW_none, errW_some] <;> rfl), by (with_reducible repeat (first | apply Kd.V_alloc | apply Kd.V_drewN | apply Kd.V_drew)); exact HO302.out, by repeat (first | (with_reducible first | exact HB.out | apply below_alloc | apply pw_below_drewN | apply below_drew1) | exact HB.out)⟩


end Go.Proofs.Ytiifnofghicnaaa.PAll
