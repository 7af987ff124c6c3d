/- Printed by the kit's print.py, called for several laws at once: functions as plain Lean, and the walks' contracts. -/
import Derived.Test.YtiifnofghicnaaaQAllx0
import Derived.Test.YtiifnofghicnaaaQAllx1
import Derived.Test.YtiifnofghicnaaaQAllx2
import Derived.Test.YtiifnofghicnaaaQAllx14
import Derived.Test.YtiifnofghicnaaaQAllx17
namespace Go.Proofs.Ytiifnofghicnaaa.PAll
open Go.RowKit Go.Proofs.YtiifnofghicnaaaW.PrintWords Go.Proofs.YtiifnofghicnaaaW.PrintLast Go.Proofs.YtiifnofghicnaaaW.PrintMore
attribute [local go_sem] max2_int min2_int max_two min_two max_three min_three max_four min_four   -- for this text's walks alone
set_option linter.unusedVariables false
set_option linter.unusedSimpArgs false

/-! ### impl_WideMulWrap: function 65 -/
def impl_WideMulWrap.f (a0_0 : Int) (a0_1 : Int) (a1_0 : Int) (a1_1 : Int) : Option (Int × Int) := (impl_Wide_u.f a0_0 a0_1).bind fun bt523 => ((impl_Wide_u.f a1_0 a1_1).bind fun bt525 => ((uint128_Uint128_MulWrap.f bt523.1 bt523.2 bt525.1 bt525.2).bind fun bt527 => ((impl_wide.f bt527.1 bt527.2).bind fun bt529 => (some (bt529.1, bt529.2)))))
set_option maxHeartbeats 8000000 in
set_option maxRecDepth 100000 in
theorem impl_WideMulWrap.calls (a0_0 : Int) (a0_1 : Int) (a1_0 : Int) (a1_1 : Int) (r1 : Int) (r2 : Int) (w : World) (h : impl_WideMulWrap.f a0_0 a0_1 a1_0 a1_1 = some (r1, r2)) :
    Calls Try.prog 65 #[.agg #[.int .u64 a0_0, .int .u64 a0_1], .agg #[.int .u64 a1_0, .int .u64 a1_1]] w fun e w' => e = .returned (.agg #[.int .u64 r1, .int .u64 r2]) ∧ Below w.heap.size w w' := by
  have hu24 := Try.underlying24
  have HB := Aside0.mk (Below.refl w.heap.size w)
  have H : ((impl_Wide_u.f a0_0 a0_1).bind fun bt523 => ((impl_Wide_u.f a1_0 a1_1).bind fun bt525 => ((uint128_Uint128_MulWrap.f bt523.1 bt523.2 bt525.1 bt525.2).bind fun bt527 => ((impl_wide.f bt527.1 bt527.2).bind fun bt529 => (some (bt529.1, bt529.2)))))) = some (r1, r2) := h
  clear h
  replace H := Option.bind_eq_some_iff.mp H
  obtain ⟨⟨t523, t524⟩, A30, H⟩ := H
  replace H : ((impl_Wide_u.f a1_0 a1_1).bind fun bt525 => ((uint128_Uint128_MulWrap.f t523 t524 bt525.1 bt525.2).bind fun bt527 => ((impl_wide.f bt527.1 bt527.2).bind fun bt529 => (some (bt529.1, bt529.2))))) = some (r1, r2) := H
  have A3 := Aside0.mk A30
  clear A30
  replace H := Option.bind_eq_some_iff.mp H
  obtain ⟨⟨t525, t526⟩, A40, H⟩ := H
  replace H : ((uint128_Uint128_MulWrap.f t523 t524 t525 t526).bind fun bt527 => ((impl_wide.f bt527.1 bt527.2).bind fun bt529 => (some (bt529.1, bt529.2)))) = some (r1, r2) := H
  have A4 := Aside0.mk A40
  clear A40
  replace H := Option.bind_eq_some_iff.mp H
  obtain ⟨⟨t527, t528⟩, A50, H⟩ := H
  replace H : ((impl_wide.f t527 t528).bind fun bt529 => (some (bt529.1, bt529.2))) = some (r1, r2) := H
  have A5 := Aside0.mk A50
  clear A50
  replace H := Option.bind_eq_some_iff.mp H
  obtain ⟨⟨t529, t530⟩, A60, H⟩ := H
  replace H : (some (t529, t530)) = some (r1, r2) := H
  have A6 := Aside0.mk A60
  clear A60
  simp only [Option.some.injEq, Prod.mk.injEq] at H
  obtain ⟨rfl, rfl⟩ := H
  go_enter Try.func65, Try.ntmps65
  try go_wp2_with (first | ((with_reducible refine gate_dst (N := 2) rfl ?_); refine box_event ?hg (N := 2) ?hd (cs := #[.int .u64 a0_0, .int .u64 a0_1]) (t := 24) ?hr ?_; (case hd => rfl); (case hg => rfl); (case hr => first | (go_simp; done) | (go_simp; rfl)); intro gb520 hg w7 hbox hb; have n0_ := Aside0.mk (below_step (by repeat (first | (with_reducible first | exact HB.out | apply below_alloc | apply pw_below_drewN | apply below_drew1) | exact HB.out)) hb); have n1_ := Aside0.mk (hbox); have n2_ := Aside0.mk ((by rw [hg]; exact (below_size (by repeat (first | (with_reducible first | exact HB.out | apply below_alloc | apply pw_below_drewN | apply below_drew1) | exact HB.out))) : w.heap.size ≤ gb520)); have n3_ := Aside0.mk ((by rw [hg]; exact (below_size (by repeat (first | (with_reducible first | exact HB.out | apply below_alloc | apply pw_below_drewN | apply below_drew1) | exact HB.out))) : w.heap.size ≤ gb520)); clear HB; have HB := n0_; have BK520 := n1_; have GW520 := n2_; have GE520 := n3_; clear n0_ n1_ n2_ n3_; clear hb hbox hg) | ((with_reducible refine gate_dst (N := 3) rfl ?_); refine box_event ?hg (N := 3) ?hd (cs := #[.int .u64 a1_0, .int .u64 a1_1]) (t := 24) ?hr ?_; (case hd => rfl); (case hg => rfl); (case hr => first | (go_simp; done) | (go_simp; rfl)); intro gb521 hg w8 hbox hb; have n0_ := Aside0.mk (blk_below (g := gb520) (o := .cells #[.int .u64 a0_0, .int .u64 a0_1] 24 (0, 0)) (by (with_reducible repeat (first | refine blk_drewN ?_ _ | refine blk_drew ?_ | refine blk_alloc ?_ _)); exact BK520.out) hb); have n1_ := Aside0.mk (below_step (by repeat (first | (with_reducible first | exact HB.out | apply below_alloc | apply pw_below_drewN | apply below_drew1 | refine below_set ?_ GE520.out) | exact HB.out)) hb); have n2_ := Aside0.mk (hbox); have n3_ := Aside0.mk ((by rw [hg]; exact (below_size (by repeat (first | (with_reducible first | exact HB.out | apply below_alloc | apply pw_below_drewN | apply below_drew1 | refine below_set ?_ GE520.out) | exact HB.out))) : w.heap.size ≤ gb521)); have n4_ := Aside0.mk ((by rw [hg]; exact (below_size (by repeat (first | (with_reducible first | exact HB.out | apply below_alloc | apply pw_below_drewN | apply below_drew1 | refine below_set ?_ GE520.out) | exact HB.out))) : w.heap.size ≤ gb521)); have n5_ := Aside0.mk ((by rw [hg]; exact Nat.ne_of_lt (blk_lt (g := gb520) (o := .cells #[.int .u64 a0_0, .int .u64 a0_1] 24 (0, 0)) (by (with_reducible repeat (first | refine blk_drewN ?_ _ | refine blk_drew ?_ | refine blk_alloc ?_ _)); exact BK520.out)) : gb520 ≠ gb521)); have n6_ := Aside0.mk ((by rw [hg]; exact Nat.ne_of_gt (blk_lt (g := gb520) (o := .cells #[.int .u64 a0_0, .int .u64 a0_1] 24 (0, 0)) (by (with_reducible repeat (first | refine blk_drewN ?_ _ | refine blk_drew ?_ | refine blk_alloc ?_ _)); exact BK520.out)) : gb521 ≠ gb520)); clear BK520; clear HB; have BK520 := n0_; have HB := n1_; have BK521 := n2_; have GW521 := n3_; have GE521 := n4_; have NB520_521 := n5_; have NB521_520 := n6_; clear n0_ n1_ n2_ n3_ n4_ n5_ n6_; clear hb hbox hg) | ((with_reducible refine gate_dst (N := 4) rfl ?_); refine box_event ?hg (N := 4) ?hd (cs := #[.int .u64 0, .int .u64 0]) (t := 24) ?hr ?_; (case hd => rfl); (case hg => rfl); (case hr => first | (go_simp; done) | (go_simp; rfl)); intro gb522 hg w9 hbox hb; have n0_ := Aside0.mk (blk_below (g := gb520) (o := .cells #[.int .u64 a0_0, .int .u64 a0_1] 24 (0, 0)) (by (with_reducible repeat (first | refine blk_drewN ?_ _ | refine blk_drew ?_ | refine blk_alloc ?_ _)); exact BK520.out) hb); have n1_ := Aside0.mk (blk_below (g := gb521) (o := .cells #[.int .u64 a1_0, .int .u64 a1_1] 24 (0, 0)) (by (with_reducible repeat (first | refine blk_drewN ?_ _ | refine blk_drew ?_ | refine blk_alloc ?_ _)); exact BK521.out) hb); have n2_ := Aside0.mk (below_step (by repeat (first | (with_reducible first | exact HB.out | apply below_alloc | apply pw_below_drewN | apply below_drew1 | refine below_set ?_ GE520.out | refine below_set ?_ GE521.out) | exact HB.out)) hb); have n3_ := Aside0.mk (hbox); have n4_ := Aside0.mk ((by rw [hg]; exact (below_size (by repeat (first | (with_reducible first | exact HB.out | apply below_alloc | apply pw_below_drewN | apply below_drew1 | refine below_set ?_ GE520.out | refine below_set ?_ GE521.out) | exact HB.out))) : w.heap.size ≤ gb522)); have n5_ := Aside0.mk ((by rw [hg]; exact (below_size (by repeat (first | (with_reducible first | exact HB.out | apply below_alloc | apply pw_below_drewN | apply below_drew1 | refine below_set ?_ GE520.out | refine below_set ?_ GE521.out) | exact HB.out))) : w.heap.size ≤ gb522)); have n6_ := Aside0.mk ((by rw [hg]; exact Nat.ne_of_lt (blk_lt (g := gb520) (o := .cells #[.int .u64 a0_0, .int .u64 a0_1] 24 (0, 0)) (by (with_reducible repeat (first | refine blk_drewN ?_ _ | refine blk_drew ?_ | refine blk_alloc ?_ _)); exact BK520.out)) : gb520 ≠ gb522)); have n7_ := Aside0.mk ((by rw [hg]; exact Nat.ne_of_gt (blk_lt (g := gb520) (o := .cells #[.int .u64 a0_0, .int .u64 a0_1] 24 (0, 0)) (by (with_reducible repeat (first | refine blk_drewN ?_ _ | refine blk_drew ?_ | refine blk_alloc ?_ _)); exact BK520.out)) : gb522 ≠ gb520)); have n8_ := Aside0.mk ((by rw [hg]; exact Nat.ne_of_lt (blk_lt (g := gb521) (o := .cells #[.int .u64 a1_0, .int .u64 a1_1] 24 (0, 0)) (by (with_reducible repeat (first | refine blk_drewN ?_ _ | refine blk_drew ?_ | refine blk_alloc ?_ _)); exact BK521.out)) : gb521 ≠ gb522)); have n9_ := Aside0.mk ((by rw [hg]; exact Nat.ne_of_gt (blk_lt (g := gb521) (o := .cells #[.int .u64 a1_0, .int .u64 a1_1] 24 (0, 0)) (by (with_reducible repeat (first | refine blk_drewN ?_ _ | refine blk_drew ?_ | refine blk_alloc ?_ _)); exact BK521.out)) : gb522 ≠ gb521)); clear BK520; clear BK521; clear HB; have BK520 := n0_; have BK521 := n1_; have HB := n2_; have BK522 := n3_; have GW522 := n4_; have GE522 := n5_; have NB520_522 := n6_; have NB522_520 := n7_; have NB521_522 := n8_; have NB522_521 := n9_; clear n0_ n1_ n2_ n3_ n4_ n5_ n6_ n7_ n8_ n9_; clear hb hbox hg))
  have n0_ := Aside0.mk (blk_drew BK520.out)
  have n1_ := Aside0.mk (blk_drew BK521.out)
  have n2_ := Aside0.mk (blk_drew BK522.out)
  have n3_ := Aside0.mk (below_drew1 HB.out)
  clear BK520
  clear BK521
  clear BK522
  clear HB
  have BK520 := n0_
  have BK521 := n1_
  have BK522 := n2_
  have HB := n3_
  clear n0_ n1_ n2_ n3_
  refine start_ (n := 7) (S := fun w' => w'.cell? ⟨gb520, 0, none⟩ = some (.int .u64 a0_0) ∧ w'.cell? ⟨gb520, 1, none⟩ = some (.int .u64 a0_1) ∧ w'.cell? ⟨gb521, 0, none⟩ = some (.int .u64 a1_0) ∧ w'.cell? ⟨gb521, 1, none⟩ = some (.int .u64 a1_1)) (ds := []) #[false, false, false, false, false, false, false] (by kernel_rfl) rfl rfl ⟨(blk_cell BK520.out 0).trans rfl, (blk_cell BK520.out 1).trans rfl, (blk_cell BK521.out 0).trans rfl, (blk_cell BK521.out 1).trans rfl⟩ (fun hHeld => ?_)
  generalize w9.drew = w10 at BK520 BK521 BK522 HB hHeld ⊢
  refine take_ (i := 0) (N := some 5) (v := ?_) (a' := ?_) #[true, false, false, false, false, false, false] rfl rfl (by kernel_rfl) (fun _ _ _ h => h) (Or.inl ⟨by rfl, ?_⟩) hHeld ?_ ?_
  rotate_left
  · rintro w' ⟨s0, s1, s2, s3⟩
    go_simp
    with_reducible rfl
  rotate_left
  · simp only [Act.put, List.setIfInBounds_toArray, List.set_cons_zero, List.set_cons_succ, i64_w, i32_w]
    rfl
  refine take_ (i := 2) (N := some 7) (v := ?_) (a' := ?_) #[true, false, true, false, false, false, false] rfl rfl (by kernel_rfl) (fun _ _ _ h => h) (Or.inl ⟨by rfl, ?_⟩) hHeld ?_ ?_
  rotate_left
  · rintro w' ⟨s0, s1, s2, s3⟩
    go_simp
    with_reducible rfl
  rotate_left
  · simp only [Act.put, List.setIfInBounds_toArray, List.set_cons_zero, List.set_cons_succ, i64_w, i32_w]
    rfl
  refine one_ (i := 1) (N := some 6) #[true, true, true, false, false, false, false] rfl rfl (by kernel_rfl) (by decide) (fun K hK => ?_)
  refine goes_ Try.func76 (by kernel_rfl) rfl #[.agg #[.int .u64 a0_0, .int .u64 a0_1]] (by rfl) rfl rfl (by (try simp only [List.map_toArray, List.map_cons, List.map_nil]); first | done | rfl | (simp only [List.length_drop, List.length_take]; rfl)) ?_
  with_reducible refine (impl_Wide_u.calls a0_0 a0_1 t523 t524 _ A3.out).mono ?_
  rintro e w11 ⟨rfl, hb⟩
  refine ⟨_, rfl, ?_⟩
  have n0_ := Aside0.mk (blk_below (g := gb520) (o := .cells #[.int .u64 a0_0, .int .u64 a0_1] 24 (0, 0)) (by (with_reducible repeat (first | refine blk_drewN ?_ _ | refine blk_drew ?_ | refine blk_alloc ?_ _)); exact BK520.out) hb)
  have n1_ := Aside0.mk (blk_below (g := gb521) (o := .cells #[.int .u64 a1_0, .int .u64 a1_1] 24 (0, 0)) (by (with_reducible repeat (first | refine blk_drewN ?_ _ | refine blk_drew ?_ | refine blk_alloc ?_ _)); exact BK521.out) hb)
  have n2_ := Aside0.mk (blk_below (g := gb522) (o := .cells #[.int .u64 0, .int .u64 0] 24 (0, 0)) (by (with_reducible repeat (first | refine blk_drewN ?_ _ | refine blk_drew ?_ | refine blk_alloc ?_ _)); exact BK522.out) hb)
  have n3_ := Aside0.mk (below_step (by repeat (first | (with_reducible first | exact HB.out | apply below_alloc | apply pw_below_drewN | apply below_drew1 | refine below_set ?_ GE520.out | refine below_set ?_ GE521.out | refine below_set ?_ GE522.out) | exact HB.out)) hb)
  clear BK520
  clear BK521
  clear BK522
  clear HB
  have BK520 := n0_
  have BK521 := n1_
  have BK522 := n2_
  have HB := n3_
  clear n0_ n1_ n2_ n3_
  (try clear hb)
  (try clear hb2)
  (try clear hk)
  (try clear hi)
  refine hK.out _ _ ⟨(blk_cell BK520.out 0).trans rfl, (blk_cell BK520.out 1).trans rfl, (blk_cell BK521.out 0).trans rfl, (blk_cell BK521.out 1).trans rfl⟩ (fun hHeld => ?_)
  clear hK K
  refine norm_ (a' := ?_) ?_ ?_
  rotate_left
  · show Act.put _ (some 6) _ = _
    simp only [Act.put, List.setIfInBounds_toArray, List.set_cons_zero, List.set_cons_succ, i64_w, i32_w]
    rfl
  refine one_ (i := 3) (N := some 8) #[true, true, true, true, false, false, false] rfl rfl (by kernel_rfl) (by decide) (fun K hK => ?_)
  refine goes_ Try.func76 (by kernel_rfl) rfl #[.agg #[.int .u64 a1_0, .int .u64 a1_1]] (by rfl) rfl rfl (by (try simp only [List.map_toArray, List.map_cons, List.map_nil]); first | done | rfl | (simp only [List.length_drop, List.length_take]; rfl)) ?_
  with_reducible refine (impl_Wide_u.calls a1_0 a1_1 t525 t526 _ A4.out).mono ?_
  rintro e w12 ⟨rfl, hb⟩
  refine ⟨_, rfl, ?_⟩
  have n0_ := Aside0.mk (blk_below (g := gb520) (o := .cells #[.int .u64 a0_0, .int .u64 a0_1] 24 (0, 0)) (by (with_reducible repeat (first | refine blk_drewN ?_ _ | refine blk_drew ?_ | refine blk_alloc ?_ _)); exact BK520.out) hb)
  have n1_ := Aside0.mk (blk_below (g := gb521) (o := .cells #[.int .u64 a1_0, .int .u64 a1_1] 24 (0, 0)) (by (with_reducible repeat (first | refine blk_drewN ?_ _ | refine blk_drew ?_ | refine blk_alloc ?_ _)); exact BK521.out) hb)
  have n2_ := Aside0.mk (blk_below (g := gb522) (o := .cells #[.int .u64 0, .int .u64 0] 24 (0, 0)) (by (with_reducible repeat (first | refine blk_drewN ?_ _ | refine blk_drew ?_ | refine blk_alloc ?_ _)); exact BK522.out) hb)
  have n3_ := Aside0.mk (below_step (by repeat (first | (with_reducible first | exact HB.out | apply below_alloc | apply pw_below_drewN | apply below_drew1 | refine below_set ?_ GE520.out | refine below_set ?_ GE521.out | refine below_set ?_ GE522.out) | exact HB.out)) hb)
  clear BK520
  clear BK521
  clear BK522
  clear HB
  have BK520 := n0_
  have BK521 := n1_
  have BK522 := n2_
  have HB := n3_
  clear n0_ n1_ n2_ n3_
  (try clear hb)
  (try clear hb2)
  (try clear hk)
  (try clear hi)
  refine hK.out _ _ ⟨(blk_cell BK520.out 0).trans rfl, (blk_cell BK520.out 1).trans rfl, (blk_cell BK521.out 0).trans rfl, (blk_cell BK521.out 1).trans rfl⟩ (fun hHeld => ?_)
  clear hK K
  refine norm_ (a' := ?_) ?_ ?_
  rotate_left
  · show Act.put _ (some 8) _ = _
    simp only [Act.put, List.setIfInBounds_toArray, List.set_cons_zero, List.set_cons_succ, i64_w, i32_w]
    rfl
  refine one_ (i := 4) (N := some 9) #[true, true, true, true, true, false, false] rfl rfl (by kernel_rfl) (by decide) (fun K hK => ?_)
  refine goes_ Try.func112 (by kernel_rfl) rfl #[.agg #[.int .u64 t523, .int .u64 t524], .agg #[.int .u64 t525, .int .u64 t526]] (by rfl) rfl rfl (by (try simp only [List.map_toArray, List.map_cons, List.map_nil]); first | done | rfl | (simp only [List.length_drop, List.length_take]; rfl)) ?_
  with_reducible refine (uint128_Uint128_MulWrap.calls t523 t524 t525 t526 t527 t528 _ A5.out).mono ?_
  rintro e w13 ⟨rfl, hb⟩
  refine ⟨_, rfl, ?_⟩
  have n0_ := Aside0.mk (blk_below (g := gb520) (o := .cells #[.int .u64 a0_0, .int .u64 a0_1] 24 (0, 0)) (by (with_reducible repeat (first | refine blk_drewN ?_ _ | refine blk_drew ?_ | refine blk_alloc ?_ _)); exact BK520.out) hb)
  have n1_ := Aside0.mk (blk_below (g := gb521) (o := .cells #[.int .u64 a1_0, .int .u64 a1_1] 24 (0, 0)) (by (with_reducible repeat (first | refine blk_drewN ?_ _ | refine blk_drew ?_ | refine blk_alloc ?_ _)); exact BK521.out) hb)
  have n2_ := Aside0.mk (blk_below (g := gb522) (o := .cells #[.int .u64 0, .int .u64 0] 24 (0, 0)) (by (with_reducible repeat (first | refine blk_drewN ?_ _ | refine blk_drew ?_ | refine blk_alloc ?_ _)); exact BK522.out) hb)
  have n3_ := Aside0.mk (below_step (by repeat (first | (with_reducible first | exact HB.out | apply below_alloc | apply pw_below_drewN | apply below_drew1 | refine below_set ?_ GE520.out | refine below_set ?_ GE521.out | refine below_set ?_ GE522.out) | exact HB.out)) hb)
  clear BK520
  clear BK521
  clear BK522
  clear HB
  have BK520 := n0_
  have BK521 := n1_
  have BK522 := n2_
  have HB := n3_
  clear n0_ n1_ n2_ n3_
  (try clear hb)
  (try clear hb2)
  (try clear hk)
  (try clear hi)
  refine hK.out _ _ ⟨(blk_cell BK520.out 0).trans rfl, (blk_cell BK520.out 1).trans rfl, (blk_cell BK521.out 0).trans rfl, (blk_cell BK521.out 1).trans rfl⟩ (fun hHeld => ?_)
  clear hK K
  refine norm_ (a' := ?_) ?_ ?_
  rotate_left
  · show Act.put _ (some 9) _ = _
    simp only [Act.put, List.setIfInBounds_toArray, List.set_cons_zero, List.set_cons_succ, i64_w, i32_w]
    rfl
  refine one_ (i := 5) (N := some 10) #[true, true, true, true, true, true, false] rfl rfl (by kernel_rfl) (by decide) (fun K hK => ?_)
  refine goes_ Try.func80 (by kernel_rfl) rfl #[.agg #[.int .u64 t527, .int .u64 t528]] (by rfl) rfl rfl (by (try simp only [List.map_toArray, List.map_cons, List.map_nil]); first | done | rfl | (simp only [List.length_drop, List.length_take]; rfl)) ?_
  with_reducible refine (impl_wide.calls t527 t528 t529 t530 _ A6.out).mono ?_
  rintro e w14 ⟨rfl, hb⟩
  refine ⟨_, rfl, ?_⟩
  have n0_ := Aside0.mk (blk_below (g := gb520) (o := .cells #[.int .u64 a0_0, .int .u64 a0_1] 24 (0, 0)) (by (with_reducible repeat (first | refine blk_drewN ?_ _ | refine blk_drew ?_ | refine blk_alloc ?_ _)); exact BK520.out) hb)
  have n1_ := Aside0.mk (blk_below (g := gb521) (o := .cells #[.int .u64 a1_0, .int .u64 a1_1] 24 (0, 0)) (by (with_reducible repeat (first | refine blk_drewN ?_ _ | refine blk_drew ?_ | refine blk_alloc ?_ _)); exact BK521.out) hb)
  have n2_ := Aside0.mk (blk_below (g := gb522) (o := .cells #[.int .u64 0, .int .u64 0] 24 (0, 0)) (by (with_reducible repeat (first | refine blk_drewN ?_ _ | refine blk_drew ?_ | refine blk_alloc ?_ _)); exact BK522.out) hb)
  have n3_ := Aside0.mk (below_step (by repeat (first | (with_reducible first | exact HB.out | apply below_alloc | apply pw_below_drewN | apply below_drew1 | refine below_set ?_ GE520.out | refine below_set ?_ GE521.out | refine below_set ?_ GE522.out) | exact HB.out)) hb)
  clear BK520
  clear BK521
  clear BK522
  clear HB
  have BK520 := n0_
  have BK521 := n1_
  have BK522 := n2_
  have HB := n3_
  clear n0_ n1_ n2_ n3_
  (try clear hb)
  (try clear hb2)
  (try clear hk)
  (try clear hi)
  refine hK.out _ _ ⟨(blk_cell BK520.out 0).trans rfl, (blk_cell BK520.out 1).trans rfl, (blk_cell BK521.out 0).trans rfl, (blk_cell BK521.out 1).trans rfl⟩ (fun hHeld => ?_)
  clear hK K
  refine norm_ (a' := ?_) ?_ ?_
  rotate_left
  · show Act.put _ (some 10) _ = _
    simp only [Act.put, List.setIfInBounds_toArray, List.set_cons_zero, List.set_cons_succ, i64_w, i32_w]
    rfl
  refine one_ (i := 6) (N := none) #[true, true, true, true, true, true, true] rfl rfl (by kernel_rfl) (by decide) (fun K hK => ?_)
  have hs15 : w14.cell? ⟨gb522, 0, none⟩ = some (.int .u64 0) := (blk_cell BK522.out 0).trans rfl
  have hfs15 := blk_frozen BK522.out 0
  have hns15_0 := NB520_522.out
  have hns15_1 := NB521_522.out
  have hms15_0 := NB522_520.out
  have hms15_1 := NB522_521.out
  have hs16 : w14.cell? ⟨gb522, 1, none⟩ = some (.int .u64 0) := (blk_cell BK522.out 1).trans rfl
  have hfs16 := blk_frozen BK522.out 1
  have hns16_0 := NB520_522.out
  have hns16_1 := NB521_522.out
  have hms16_0 := NB522_520.out
  have hms16_1 := NB522_521.out
  refine skip_ (w1 := ?_) (by rfl) rfl ?_ ?_
  rotate_left
  · go_simp
    rfl
  refine hK.out _ _ ⟨((cell_far (p := ⟨gb522, _, none⟩) NB520_522.out _).trans (((cell_far (p := ⟨gb522, _, none⟩) NB520_522.out _).trans (hHeld.1)))), ((cell_far (p := ⟨gb522, _, none⟩) NB520_522.out _).trans (((cell_far (p := ⟨gb522, _, none⟩) NB520_522.out _).trans (hHeld.2.1)))), ((cell_far (p := ⟨gb522, _, none⟩) NB521_522.out _).trans (((cell_far (p := ⟨gb522, _, none⟩) NB521_522.out _).trans (hHeld.2.2.1)))), ((cell_far (p := ⟨gb522, _, none⟩) NB521_522.out _).trans (((cell_far (p := ⟨gb522, _, none⟩) NB521_522.out _).trans (hHeld.2.2.2))))⟩ (fun hHeld => ?_)
  clear hK K
  refine done_ (by kernel_rfl) ?_
  try go_wp2
  refine bodyPost_ret (results_cell_row rfl _ _ gb522 24 #[.int .u64 t529, .int .u64 t530] (0, 0) _ rfl (by (with_reducible repeat (first | refine blk_drewN ?_ _ | refine blk_drew ?_ | refine blk_alloc ?_ _)); refine blk_put (cs := #[.int .u64 t529, .int .u64 0]) ?_ 1 _ rfl; (with_reducible repeat (first | refine blk_drewN ?_ _ | refine blk_drew ?_ | refine blk_alloc ?_ _)); refine blk_put (cs := #[.int .u64 0, .int .u64 0]) ?_ 0 _ rfl; (with_reducible repeat (first | refine blk_drewN ?_ _ | refine blk_drew ?_ | refine blk_alloc ?_ _)); exact BK522.out) Try.underlying24 rfl (by kernel_rfl)) rfl ?_
  exact ⟨by first | rfl | (simp [errW_none, errW_some] <;> rfl) | (simp [*, errW_none, errW_some] <;> rfl), by repeat (first | (with_reducible first | exact HB.out | apply below_alloc | apply pw_below_drewN | apply below_drew1 | refine below_set ?_ GE520.out | refine below_set ?_ GE521.out | refine below_set ?_ GE522.out) | exact HB.out)⟩


/-! ### uint128_Uint128_MulWrap64: function 113 -/
def mwHi64 (a b c : Nat) : Nat := (mHi a c + b * c) % 18446744073709551616
theorem mw64_hi (a b c : Nat) : IntKind.u64.wrap ((mHi a c : Int) + IntKind.u64.wrap ((b : Int) * (c : Int))) = (mwHi64 a b c : Int) := by
  simp only [IntKind.wrap_u64]
  unfold mwHi64
  have e1 : (b : Int) * (c : Int) = ((b * c : Nat) : Int) := by simp
  rw [e1]
  omega
theorem mw64_1 (a b c : Nat) : mLo a c = (a + b * 18446744073709551616) * c % 18446744073709551616 ∧ mwHi64 a b c = (a + b * 18446744073709551616) * c / 18446744073709551616 % 18446744073709551616 := by
  have e : (a + b * 18446744073709551616) * c = a * c + b * c * 18446744073709551616 := by grind
  rw [e]
  unfold mwHi64 mHi mLo
  generalize a * c = x
  generalize b * c = y
  omega
def uint128_Uint128_MulWrap64.f (a0_0 a0_1 a1 : Int) : Option (Int × Int) := if U64 a0_0 ∧ U64 a0_1 ∧ U64 a1 then some (halves (N128 a0_0 a0_1 * a1.toNat)) else none
set_option maxHeartbeats 2000000 in
set_option maxRecDepth 100000 in
theorem MulWrap64_nat (a b c : Nat) (ha : a < 18446744073709551616) (hb : b < 18446744073709551616) (hc : c < 18446744073709551616) (w : World) :
    Calls Try.prog 113 #[.agg #[.int .u64 a, .int .u64 b], .int .u64 c] w fun e w' => e = .returned (.agg #[.int .u64 (mLo a c : Int), .int .u64 (mwHi64 a b c : Int)]) ∧ Below w.heap.size w w' := by
  have m1 := Lib.hid (mul64_law a c ha hc)
  have h1 := Lib.hid (mw64_hi a b c)
  clear ha hb hc
  go_enter Try.func113, Try.ntmps113
  go_wp2_with fail
  refine (bits_Mul64.calls _ _ _ _ _ m1.out).mono ?_
  rintro e w1 ⟨rfl, ⟨⟨n1, rfl⟩⟩⟩
  go_wp2
  refine bodyPost_ret (v := .agg #[.int .u64 (mLo a c : Int), .int .u64 (mwHi64 a b c : Int)]) (by rw [← h1.out]; simp [results, Try.results113, go_sem]) rfl ⟨rfl, ?_⟩
  exact by repeat (first | exact Below.refl _ _ | apply pw_below_drewN | apply below_alloc | refine Below.setCell ?_ (by (try simp only [Nat.le_refl]); omega) _)
theorem uint128_Uint128_MulWrap64.calls (a0_0 : Int) (a0_1 : Int) (a1 : Int) (r1 : Int) (r2 : Int) (w : World) (h : uint128_Uint128_MulWrap64.f a0_0 a0_1 a1 = some (r1, r2)) :
    Calls Try.prog 113 #[.agg #[.int .u64 a0_0, .int .u64 a0_1], .int .u64 a1] w fun e w' => e = .returned (.agg #[.int .u64 r1, .int .u64 r2]) ∧ Below w.heap.size w w' := by
  unfold uint128_Uint128_MulWrap64.f at h
  split at h
  case isFalse => cases h
  rename_i hb
  obtain ⟨ka, kb, kc⟩ := hb
  obtain ⟨a, rfl, ha⟩ := ka.nat
  obtain ⟨b, rfl, hb⟩ := kb.nat
  obtain ⟨c, rfl, hc⟩ := kc.nat
  have e := Option.some.inj h
  simp only [halves, N128, Int.toNat_natCast, Prod.mk.injEq] at e
  rw [← (mw64_1 a b c).1, ← (mw64_1 a b c).2] at e
  obtain ⟨rfl, rfl⟩ := e
  exact MulWrap64_nat a b c ha hb hc w

/-! ### impl_WideMulWrap64: function 67 -/
def impl_WideMulWrap64.f (a0_0 : Int) (a0_1 : Int) (a1 : Int) : Option (Int × Int) := (impl_Wide_u.f a0_0 a0_1).bind fun bt545 => ((uint128_Uint128_MulWrap64.f bt545.1 bt545.2 a1).bind fun bt547 => ((impl_wide.f bt547.1 bt547.2).bind fun bt549 => (some (bt549.1, bt549.2))))
set_option maxHeartbeats 8000000 in
set_option maxRecDepth 100000 in
theorem impl_WideMulWrap64.calls (a0_0 : Int) (a0_1 : Int) (a1 : Int) (r1 : Int) (r2 : Int) (w : World) (h : impl_WideMulWrap64.f a0_0 a0_1 a1 = some (r1, r2)) :
    Calls Try.prog 67 #[.agg #[.int .u64 a0_0, .int .u64 a0_1], .int .u64 a1] w fun e w' => e = .returned (.agg #[.int .u64 r1, .int .u64 r2]) ∧ Below w.heap.size w w' := by
  have hu24 := Try.underlying24
  have HB := Aside0.mk (Below.refl w.heap.size w)
  have H : ((impl_Wide_u.f a0_0 a0_1).bind fun bt545 => ((uint128_Uint128_MulWrap64.f bt545.1 bt545.2 a1).bind fun bt547 => ((impl_wide.f bt547.1 bt547.2).bind fun bt549 => (some (bt549.1, bt549.2))))) = some (r1, r2) := h
  clear h
  replace H := Option.bind_eq_some_iff.mp H
  obtain ⟨⟨t545, t546⟩, A30, H⟩ := H
  replace H : ((uint128_Uint128_MulWrap64.f t545 t546 a1).bind fun bt547 => ((impl_wide.f bt547.1 bt547.2).bind fun bt549 => (some (bt549.1, bt549.2)))) = some (r1, r2) := H
  have A3 := Aside0.mk A30
  clear A30
  replace H := Option.bind_eq_some_iff.mp H
  obtain ⟨⟨t547, t548⟩, A40, H⟩ := H
  replace H : ((impl_wide.f t547 t548).bind fun bt549 => (some (bt549.1, bt549.2))) = some (r1, r2) := H
  have A4 := Aside0.mk A40
  clear A40
  replace H := Option.bind_eq_some_iff.mp H
  obtain ⟨⟨t549, t550⟩, A50, H⟩ := H
  replace H : (some (t549, t550)) = some (r1, r2) := H
  have A5 := Aside0.mk A50
  clear A50
  simp only [Option.some.injEq, Prod.mk.injEq] at H
  obtain ⟨rfl, rfl⟩ := H
  go_enter Try.func67, Try.ntmps67
  go_wp2_with (first | ((with_reducible refine gate_dst (N := 2) rfl ?_); refine box_event ?hg (N := 2) ?hd (cs := #[.int .u64 a0_0, .int .u64 a0_1]) (t := 24) ?hr ?_; (case hd => rfl); (case hg => rfl); (case hr => first | (go_simp; done) | (go_simp; rfl)); intro gb543 hg w6 hbox hb; have n0_ := Aside0.mk (below_step (by repeat (first | (with_reducible first | exact HB.out | apply below_alloc | apply pw_below_drewN | apply below_drew1) | exact HB.out)) hb); have n1_ := Aside0.mk (hbox); have n2_ := Aside0.mk ((by rw [hg]; exact (below_size (by repeat (first | (with_reducible first | exact HB.out | apply below_alloc | apply pw_below_drewN | apply below_drew1) | exact HB.out))) : w.heap.size ≤ gb543)); have n3_ := Aside0.mk ((by rw [hg]; exact (below_size (by repeat (first | (with_reducible first | exact HB.out | apply below_alloc | apply pw_below_drewN | apply below_drew1) | exact HB.out))) : w.heap.size ≤ gb543)); clear HB; have HB := n0_; have BK543 := n1_; have GW543 := n2_; have GE543 := n3_; clear n0_ n1_ n2_ n3_; clear hb hbox hg) | ((with_reducible refine gate_dst (N := 4) rfl ?_); refine box_event ?hg (N := 4) ?hd (cs := #[.int .u64 0, .int .u64 0]) (t := 24) ?hr ?_; (case hd => rfl); (case hg => rfl); (case hr => first | (go_simp; done) | (go_simp; rfl)); intro gb544 hg w7 hbox hb; have n0_ := Aside0.mk (blk_below (g := gb543) (o := .cells #[.int .u64 a0_0, .int .u64 a0_1] 24 (0, 0)) (by (with_reducible repeat (first | refine blk_drewN ?_ _ | refine blk_drew ?_ | refine blk_alloc ?_ _)); exact BK543.out) hb); have n1_ := Aside0.mk (below_step (by repeat (first | (with_reducible first | exact HB.out | apply below_alloc | apply pw_below_drewN | apply below_drew1 | refine below_set ?_ GE543.out) | exact HB.out)) hb); have n2_ := Aside0.mk (hbox); have n3_ := Aside0.mk ((by rw [hg]; exact (below_size (by repeat (first | (with_reducible first | exact HB.out | apply below_alloc | apply pw_below_drewN | apply below_drew1 | refine below_set ?_ GE543.out) | exact HB.out))) : w.heap.size ≤ gb544)); have n4_ := Aside0.mk ((by rw [hg]; exact (below_size (by repeat (first | (with_reducible first | exact HB.out | apply below_alloc | apply pw_below_drewN | apply below_drew1 | refine below_set ?_ GE543.out) | exact HB.out))) : w.heap.size ≤ gb544)); have n5_ := Aside0.mk ((by rw [hg]; exact Nat.ne_of_lt (blk_lt (g := gb543) (o := .cells #[.int .u64 a0_0, .int .u64 a0_1] 24 (0, 0)) (by (with_reducible repeat (first | refine blk_drewN ?_ _ | refine blk_drew ?_ | refine blk_alloc ?_ _)); exact BK543.out)) : gb543 ≠ gb544)); have n6_ := Aside0.mk ((by rw [hg]; exact Nat.ne_of_gt (blk_lt (g := gb543) (o := .cells #[.int .u64 a0_0, .int .u64 a0_1] 24 (0, 0)) (by (with_reducible repeat (first | refine blk_drewN ?_ _ | refine blk_drew ?_ | refine blk_alloc ?_ _)); exact BK543.out)) : gb544 ≠ gb543)); clear BK543; clear HB; have BK543 := n0_; have HB := n1_; have BK544 := n2_; have GW544 := n3_; have GE544 := n4_; have NB543_544 := n5_; have NB544_543 := n6_; clear n0_ n1_ n2_ n3_ n4_ n5_ n6_; clear hb hbox hg; have hnb8 := NB543_544.out; have hnc8 := NB544_543.out; have hcz9_0 : w7.cell? ⟨gb543, 0, none⟩ = some (.int .u64 a0_0) := (blk_cell BK543.out 0).trans rfl; have hcz9_1 : w7.cell? ⟨gb543, 1, none⟩ = some (.int .u64 a0_1) := (blk_cell BK543.out 1).trans rfl; have hfz9_0 := blk_frozen BK543.out 0; have hfz9_1 := blk_frozen BK543.out 1) | ((with_reducible refine gate_callee (f := 76) rfl ?_); refine goesL_ (some 6) rfl rfl Try.func76 (by kernel_rfl) rfl #[.agg #[.int .u64 a0_0, .int .u64 a0_1]] rfl (by (try simp only [List.map_toArray, List.map_cons, List.map_nil]); first | done | rfl | (simp only [List.length_drop, List.length_take]; rfl)) ?_; (with_reducible refine (impl_Wide_u.calls a0_0 a0_1 t545 t546 _ A3.out).mono ?_); rintro e w10 ⟨rfl, hb⟩; refine ⟨_, rfl, ?_⟩; have n0_ := Aside0.mk (blk_below (g := gb543) (o := .cells #[.int .u64 a0_0, .int .u64 a0_1] 24 (0, 0)) (by (with_reducible repeat (first | refine blk_drewN ?_ _ | refine blk_drew ?_ | refine blk_alloc ?_ _)); exact BK543.out) hb); have n1_ := Aside0.mk (blk_below (g := gb544) (o := .cells #[.int .u64 0, .int .u64 0] 24 (0, 0)) (by (with_reducible repeat (first | refine blk_drewN ?_ _ | refine blk_drew ?_ | refine blk_alloc ?_ _)); exact BK544.out) hb); have n2_ := Aside0.mk (below_step (by repeat (first | (with_reducible first | exact HB.out | apply below_alloc | apply pw_below_drewN | apply below_drew1 | refine below_set ?_ GE543.out | refine below_set ?_ GE544.out) | exact HB.out)) hb); clear BK543; clear BK544; clear HB; have BK543 := n0_; have BK544 := n1_; have HB := n2_; clear n0_ n1_ n2_; (try clear hb); (try clear hb2); (try clear hk); (try clear hi)) | ((with_reducible refine gate_callee (f := 113) rfl ?_); refine goesL_ (some 8) rfl rfl Try.func113 (by kernel_rfl) rfl #[.agg #[.int .u64 t545, .int .u64 t546], .int .u64 a1] rfl (by (try simp only [List.map_toArray, List.map_cons, List.map_nil]); first | done | rfl | (simp only [List.length_drop, List.length_take]; rfl)) ?_; (with_reducible refine (uint128_Uint128_MulWrap64.calls t545 t546 a1 t547 t548 _ A4.out).mono ?_); rintro e w11 ⟨rfl, hb⟩; refine ⟨_, rfl, ?_⟩; have n0_ := Aside0.mk (blk_below (g := gb543) (o := .cells #[.int .u64 a0_0, .int .u64 a0_1] 24 (0, 0)) (by (with_reducible repeat (first | refine blk_drewN ?_ _ | refine blk_drew ?_ | refine blk_alloc ?_ _)); exact BK543.out) hb); have n1_ := Aside0.mk (blk_below (g := gb544) (o := .cells #[.int .u64 0, .int .u64 0] 24 (0, 0)) (by (with_reducible repeat (first | refine blk_drewN ?_ _ | refine blk_drew ?_ | refine blk_alloc ?_ _)); exact BK544.out) hb); have n2_ := Aside0.mk (below_step (by repeat (first | (with_reducible first | exact HB.out | apply below_alloc | apply pw_below_drewN | apply below_drew1 | refine below_set ?_ GE543.out | refine below_set ?_ GE544.out) | exact HB.out)) hb); clear BK543; clear BK544; clear HB; have BK543 := n0_; have BK544 := n1_; have HB := n2_; clear n0_ n1_ n2_; (try clear hb); (try clear hb2); (try clear hk); (try clear hi)) | ((with_reducible refine gate_callee (f := 80) rfl ?_); refine goesL_ (some 9) rfl rfl Try.func80 (by kernel_rfl) rfl #[.agg #[.int .u64 t547, .int .u64 t548]] rfl (by (try simp only [List.map_toArray, List.map_cons, List.map_nil]); first | done | rfl | (simp only [List.length_drop, List.length_take]; rfl)) ?_; (with_reducible refine (impl_wide.calls t547 t548 t549 t550 _ A5.out).mono ?_); rintro e w12 ⟨rfl, hb⟩; refine ⟨_, rfl, ?_⟩; have n0_ := Aside0.mk (blk_below (g := gb543) (o := .cells #[.int .u64 a0_0, .int .u64 a0_1] 24 (0, 0)) (by (with_reducible repeat (first | refine blk_drewN ?_ _ | refine blk_drew ?_ | refine blk_alloc ?_ _)); exact BK543.out) hb); have n1_ := Aside0.mk (blk_below (g := gb544) (o := .cells #[.int .u64 0, .int .u64 0] 24 (0, 0)) (by (with_reducible repeat (first | refine blk_drewN ?_ _ | refine blk_drew ?_ | refine blk_alloc ?_ _)); exact BK544.out) hb); have n2_ := Aside0.mk (below_step (by repeat (first | (with_reducible first | exact HB.out | apply below_alloc | apply pw_below_drewN | apply below_drew1 | refine below_set ?_ GE543.out | refine below_set ?_ GE544.out) | exact HB.out)) hb); clear BK543; clear BK544; clear HB; have BK543 := n0_; have BK544 := n1_; have HB := n2_; clear n0_ n1_ n2_; (try clear hb); (try clear hb2); (try clear hk); (try clear hi); have hcz13_0 : w12.cell? ⟨gb544, 0, none⟩ = some (.int .u64 0) := (blk_cell BK544.out 0).trans rfl; have hcz13_1 : w12.cell? ⟨gb544, 1, none⟩ = some (.int .u64 0) := (blk_cell BK544.out 1).trans rfl; have hfz13_0 := blk_frozen BK544.out 0; have hfz13_1 := blk_frozen BK544.out 1))
  refine bodyPost_ret (results_cell_row rfl _ _ gb544 24 #[.int .u64 t549, .int .u64 t550] (0, 0) _ rfl (by (with_reducible repeat (first | refine blk_drewN ?_ _ | refine blk_drew ?_ | refine blk_alloc ?_ _)); refine blk_put (cs := #[.int .u64 t549, .int .u64 0]) ?_ 1 _ rfl; (with_reducible repeat (first | refine blk_drewN ?_ _ | refine blk_drew ?_ | refine blk_alloc ?_ _)); refine blk_put (cs := #[.int .u64 0, .int .u64 0]) ?_ 0 _ rfl; (with_reducible repeat (first | refine blk_drewN ?_ _ | refine blk_drew ?_ | refine blk_alloc ?_ _)); exact BK544.out) Try.underlying24 rfl (by kernel_rfl)) rfl ?_
  exact ⟨by first | rfl | (simp [errW_none, errW_some] <;> rfl) | (simp [*, errW_none, errW_some] <;> rfl), by repeat (first | (with_reducible first | exact HB.out | apply below_alloc | apply pw_below_drewN | apply below_drew1 | refine below_set ?_ GE543.out | refine below_set ?_ GE544.out) | exact HB.out)⟩


end Go.Proofs.Ytiifnofghicnaaa.PAll
