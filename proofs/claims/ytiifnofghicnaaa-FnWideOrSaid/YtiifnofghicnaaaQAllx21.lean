/- Printed by the kit's print.py, called for several laws at once: functions as plain Lean, and the walks' contracts. -/
import Derived.Test.YtiifnofghicnaaaQAllx0
import Derived.Test.YtiifnofghicnaaaQAllx1
import Derived.Test.YtiifnofghicnaaaQAllx2
import Derived.Test.YtiifnofghicnaaaQAllx10
namespace Go.Proofs.Ytiifnofghicnaaa.PAll
open Go.RowKit Go.Proofs.YtiifnofghicnaaaW.PrintWords Go.Proofs.YtiifnofghicnaaaW.PrintLast Go.Proofs.YtiifnofghicnaaaW.PrintMore
attribute [local go_sem] max2_int min2_int max_two min_two max_three min_three max_four min_four   -- for this text's walks alone
set_option linter.unusedVariables false
set_option linter.unusedSimpArgs false

attribute [local go_sem high] eqA24
/-! ### impl_WideOr: function 33 -/
def impl_WideOr.f (a0_0 : Int) (a0_1 : Int) (a1_0 : Int) (a1_1 : Int) : Option (Int × Int) := (impl_Wide_u.f a0_0 a0_1).bind fun bt168 => ((impl_Wide_u.f a1_0 a1_1).bind fun bt170 => ((uint128_Uint128_Or.f bt168.1 bt168.2 bt170.1 bt170.2).bind fun bt172 => ((impl_wide.f bt172.1 bt172.2).bind fun bt174 => (some (bt174.1, bt174.2)))))
set_option maxHeartbeats 8000000 in
set_option maxRecDepth 100000 in
theorem impl_WideOr.calls (a0_0 : Int) (a0_1 : Int) (a1_0 : Int) (a1_1 : Int) (r1 : Int) (r2 : Int) (w : World) (h : impl_WideOr.f a0_0 a0_1 a1_0 a1_1 = some (r1, r2)) :
    Calls Try.prog 33 #[.agg #[.int .u64 a0_0, .int .u64 a0_1], .agg #[.int .u64 a1_0, .int .u64 a1_1]] w fun e w' => e = .returned (.agg #[.int .u64 r1, .int .u64 r2]) ∧ Below w.heap.size w w' := by
  have hu24 := Try.underlying24
  have HB := Aside0.mk (Below.refl w.heap.size w)
  have H : ((impl_Wide_u.f a0_0 a0_1).bind fun bt168 => ((impl_Wide_u.f a1_0 a1_1).bind fun bt170 => ((uint128_Uint128_Or.f bt168.1 bt168.2 bt170.1 bt170.2).bind fun bt172 => ((impl_wide.f bt172.1 bt172.2).bind fun bt174 => (some (bt174.1, bt174.2)))))) = some (r1, r2) := h
  clear h
  replace H := Option.bind_eq_some_iff.mp H
  obtain ⟨⟨t168, t169⟩, A30, H⟩ := H
  replace H : ((impl_Wide_u.f a1_0 a1_1).bind fun bt170 => ((uint128_Uint128_Or.f t168 t169 bt170.1 bt170.2).bind fun bt172 => ((impl_wide.f bt172.1 bt172.2).bind fun bt174 => (some (bt174.1, bt174.2))))) = some (r1, r2) := H
  have A3 := Aside0.mk A30
  clear A30
  replace H := Option.bind_eq_some_iff.mp H
  obtain ⟨⟨t170, t171⟩, A40, H⟩ := H
  replace H : ((uint128_Uint128_Or.f t168 t169 t170 t171).bind fun bt172 => ((impl_wide.f bt172.1 bt172.2).bind fun bt174 => (some (bt174.1, bt174.2)))) = some (r1, r2) := H
  have A4 := Aside0.mk A40
  clear A40
  replace H := Option.bind_eq_some_iff.mp H
  obtain ⟨⟨t172, t173⟩, A50, H⟩ := H
  replace H : ((impl_wide.f t172 t173).bind fun bt174 => (some (bt174.1, bt174.2))) = some (r1, r2) := H
  have A5 := Aside0.mk A50
  clear A50
  replace H := Option.bind_eq_some_iff.mp H
  obtain ⟨⟨t174, t175⟩, A60, H⟩ := H
  replace H : (some (t174, t175)) = some (r1, r2) := H
  have A6 := Aside0.mk A60
  clear A60
  simp only [Option.some.injEq, Prod.mk.injEq] at H
  obtain ⟨rfl, rfl⟩ := H
  go_enter Try.func33, Try.ntmps33
  try go_wp2_with (first | ((with_reducible refine gate_dst (N := 2) rfl ?_); refine box_event ?hg (N := 2) ?hd (cs := #[.int .u64 a0_0, .int .u64 a0_1]) (t := 24) ?hr ?_; (case hd => rfl); (case hg => rfl); (case hr => first | (go_simp; done) | (go_simp; rfl)); intro gb165 hg w7 hbox hb; have n0_ := Aside0.mk (below_step (by repeat (first | (with_reducible first | exact HB.out | apply below_alloc | apply pw_below_drewN | apply below_drew1) | exact HB.out)) hb); have n1_ := Aside0.mk (hbox); have n2_ := Aside0.mk ((by rw [hg]; exact (below_size (by repeat (first | (with_reducible first | exact HB.out | apply below_alloc | apply pw_below_drewN | apply below_drew1) | exact HB.out))) : w.heap.size ≤ gb165)); have n3_ := Aside0.mk ((by rw [hg]; exact (below_size (by repeat (first | (with_reducible first | exact HB.out | apply below_alloc | apply pw_below_drewN | apply below_drew1) | exact HB.out))) : w.heap.size ≤ gb165)); clear HB; have HB := n0_; have BK165 := n1_; have GW165 := n2_; have GE165 := n3_; clear n0_ n1_ n2_ n3_; clear hb hbox hg) | ((with_reducible refine gate_dst (N := 3) rfl ?_); refine box_event ?hg (N := 3) ?hd (cs := #[.int .u64 a1_0, .int .u64 a1_1]) (t := 24) ?hr ?_; (case hd => rfl); (case hg => rfl); (case hr => first | (go_simp; done) | (go_simp; rfl)); intro gb166 hg w8 hbox hb; have n0_ := Aside0.mk (blk_below (g := gb165) (o := .cells #[.int .u64 a0_0, .int .u64 a0_1] 24 (0, 0)) (by (with_reducible repeat (first | refine blk_drewN ?_ _ | refine blk_drew ?_ | refine blk_alloc ?_ _)); exact BK165.out) hb); have n1_ := Aside0.mk (below_step (by repeat (first | (with_reducible first | exact HB.out | apply below_alloc | apply pw_below_drewN | apply below_drew1 | refine below_set ?_ GE165.out) | exact HB.out)) hb); have n2_ := Aside0.mk (hbox); have n3_ := Aside0.mk ((by rw [hg]; exact (below_size (by repeat (first | (with_reducible first | exact HB.out | apply below_alloc | apply pw_below_drewN | apply below_drew1 | refine below_set ?_ GE165.out) | exact HB.out))) : w.heap.size ≤ gb166)); have n4_ := Aside0.mk ((by rw [hg]; exact (below_size (by repeat (first | (with_reducible first | exact HB.out | apply below_alloc | apply pw_below_drewN | apply below_drew1 | refine below_set ?_ GE165.out) | exact HB.out))) : w.heap.size ≤ gb166)); have n5_ := Aside0.mk ((by rw [hg]; exact Nat.ne_of_lt (blk_lt (g := gb165) (o := .cells #[.int .u64 a0_0, .int .u64 a0_1] 24 (0, 0)) (by (with_reducible repeat (first | refine blk_drewN ?_ _ | refine blk_drew ?_ | refine blk_alloc ?_ _)); exact BK165.out)) : gb165 ≠ gb166)); have n6_ := Aside0.mk ((by rw [hg]; exact Nat.ne_of_gt (blk_lt (g := gb165) (o := .cells #[.int .u64 a0_0, .int .u64 a0_1] 24 (0, 0)) (by (with_reducible repeat (first | refine blk_drewN ?_ _ | refine blk_drew ?_ | refine blk_alloc ?_ _)); exact BK165.out)) : gb166 ≠ gb165)); clear BK165; clear HB; have BK165 := n0_; have HB := n1_; have BK166 := n2_; have GW166 := n3_; have GE166 := n4_; have NB165_166 := n5_; have NB166_165 := n6_; clear n0_ n1_ n2_ n3_ n4_ n5_ n6_; clear hb hbox hg) | ((with_reducible refine gate_dst (N := 4) rfl ?_); refine box_event ?hg (N := 4) ?hd (cs := #[.int .u64 0, .int .u64 0]) (t := 24) ?hr ?_; (case hd => rfl); (case hg => rfl); (case hr => first | (go_simp; done) | (go_simp; rfl)); intro gb167 hg w9 hbox hb; have n0_ := Aside0.mk (blk_below (g := gb165) (o := .cells #[.int .u64 a0_0, .int .u64 a0_1] 24 (0, 0)) (by (with_reducible repeat (first | refine blk_drewN ?_ _ | refine blk_drew ?_ | refine blk_alloc ?_ _)); exact BK165.out) hb); have n1_ := Aside0.mk (blk_below (g := gb166) (o := .cells #[.int .u64 a1_0, .int .u64 a1_1] 24 (0, 0)) (by (with_reducible repeat (first | refine blk_drewN ?_ _ | refine blk_drew ?_ | refine blk_alloc ?_ _)); exact BK166.out) hb); have n2_ := Aside0.mk (below_step (by repeat (first | (with_reducible first | exact HB.out | apply below_alloc | apply pw_below_drewN | apply below_drew1 | refine below_set ?_ GE165.out | refine below_set ?_ GE166.out) | exact HB.out)) hb); have n3_ := Aside0.mk (hbox); have n4_ := Aside0.mk ((by rw [hg]; exact (below_size (by repeat (first | (with_reducible first | exact HB.out | apply below_alloc | apply pw_below_drewN | apply below_drew1 | refine below_set ?_ GE165.out | refine below_set ?_ GE166.out) | exact HB.out))) : w.heap.size ≤ gb167)); have n5_ := Aside0.mk ((by rw [hg]; exact (below_size (by repeat (first | (with_reducible first | exact HB.out | apply below_alloc | apply pw_below_drewN | apply below_drew1 | refine below_set ?_ GE165.out | refine below_set ?_ GE166.out) | exact HB.out))) : w.heap.size ≤ gb167)); have n6_ := Aside0.mk ((by rw [hg]; exact Nat.ne_of_lt (blk_lt (g := gb165) (o := .cells #[.int .u64 a0_0, .int .u64 a0_1] 24 (0, 0)) (by (with_reducible repeat (first | refine blk_drewN ?_ _ | refine blk_drew ?_ | refine blk_alloc ?_ _)); exact BK165.out)) : gb165 ≠ gb167)); have n7_ := Aside0.mk ((by rw [hg]; exact Nat.ne_of_gt (blk_lt (g := gb165) (o := .cells #[.int .u64 a0_0, .int .u64 a0_1] 24 (0, 0)) (by (with_reducible repeat (first | refine blk_drewN ?_ _ | refine blk_drew ?_ | refine blk_alloc ?_ _)); exact BK165.out)) : gb167 ≠ gb165)); have n8_ := Aside0.mk ((by rw [hg]; exact Nat.ne_of_lt (blk_lt (g := gb166) (o := .cells #[.int .u64 a1_0, .int .u64 a1_1] 24 (0, 0)) (by (with_reducible repeat (first | refine blk_drewN ?_ _ | refine blk_drew ?_ | refine blk_alloc ?_ _)); exact BK166.out)) : gb166 ≠ gb167)); have n9_ := Aside0.mk ((by rw [hg]; exact Nat.ne_of_gt (blk_lt (g := gb166) (o := .cells #[.int .u64 a1_0, .int .u64 a1_1] 24 (0, 0)) (by (with_reducible repeat (first | refine blk_drewN ?_ _ | refine blk_drew ?_ | refine blk_alloc ?_ _)); exact BK166.out)) : gb167 ≠ gb166)); clear BK165; clear BK166; clear HB; have BK165 := n0_; have BK166 := n1_; have HB := n2_; have BK167 := n3_; have GW167 := n4_; have GE167 := n5_; have NB165_167 := n6_; have NB167_165 := n7_; have NB166_167 := n8_; have NB167_166 := n9_; clear n0_ n1_ n2_ n3_ n4_ n5_ n6_ n7_ n8_ n9_; clear hb hbox hg))
  have n0_ := Aside0.mk (blk_drew BK165.out)
  have n1_ := Aside0.mk (blk_drew BK166.out)
  have n2_ := Aside0.mk (blk_drew BK167.out)
  have n3_ := Aside0.mk (below_drew1 HB.out)
  clear BK165
  clear BK166
  clear BK167
  clear HB
  have BK165 := n0_
  have BK166 := n1_
  have BK167 := n2_
  have HB := n3_
  clear n0_ n1_ n2_ n3_
  refine start_ (n := 7) (S := fun w' => w'.cell? ⟨gb165, 0, none⟩ = some (.int .u64 a0_0) ∧ w'.cell? ⟨gb165, 1, none⟩ = some (.int .u64 a0_1) ∧ w'.cell? ⟨gb166, 0, none⟩ = some (.int .u64 a1_0) ∧ w'.cell? ⟨gb166, 1, none⟩ = some (.int .u64 a1_1)) (ds := []) #[false, false, false, false, false, false, false] (by kernel_rfl) rfl rfl ⟨(blk_cell BK165.out 0).trans rfl, (blk_cell BK165.out 1).trans rfl, (blk_cell BK166.out 0).trans rfl, (blk_cell BK166.out 1).trans rfl⟩ (fun hHeld => ?_)
  generalize w9.drew = w10 at BK165 BK166 BK167 HB hHeld ⊢
  refine take_ (i := 0) (N := some 5) (v := ?_) (a' := ?_) #[true, false, false, false, false, false, false] rfl rfl (by kernel_rfl) (fun _ _ _ h => h) (Or.inl ⟨by rfl, ?_⟩) hHeld ?_ ?_
  rotate_left
  · rintro w' ⟨s0, s1, s2, s3⟩
    go_simp
    with_reducible rfl
  rotate_left
  · simp only [Act.put, List.setIfInBounds_toArray, List.set_cons_zero, List.set_cons_succ, i64_w, i32_w]
    rfl
  refine take_ (i := 2) (N := some 7) (v := ?_) (a' := ?_) #[true, false, true, false, false, false, false] rfl rfl (by kernel_rfl) (fun _ _ _ h => h) (Or.inl ⟨by rfl, ?_⟩) hHeld ?_ ?_
  rotate_left
  · rintro w' ⟨s0, s1, s2, s3⟩
    go_simp
    with_reducible rfl
  rotate_left
  · simp only [Act.put, List.setIfInBounds_toArray, List.set_cons_zero, List.set_cons_succ, i64_w, i32_w]
    rfl
  refine one_ (i := 1) (N := some 6) #[true, true, true, false, false, false, false] rfl rfl (by kernel_rfl) (by decide) (fun K hK => ?_)
  refine goes_ Try.func76 (by kernel_rfl) rfl #[.agg #[.int .u64 a0_0, .int .u64 a0_1]] (by rfl) rfl rfl (by (try simp only [List.map_toArray, List.map_cons, List.map_nil]); first | done | rfl | (simp only [List.length_drop, List.length_take]; rfl)) ?_
  with_reducible refine (impl_Wide_u.calls a0_0 a0_1 t168 t169 _ A3.out).mono ?_
  rintro e w11 ⟨rfl, hb⟩
  refine ⟨_, rfl, ?_⟩
  have n0_ := Aside0.mk (blk_below (g := gb165) (o := .cells #[.int .u64 a0_0, .int .u64 a0_1] 24 (0, 0)) (by (with_reducible repeat (first | refine blk_drewN ?_ _ | refine blk_drew ?_ | refine blk_alloc ?_ _)); exact BK165.out) hb)
  have n1_ := Aside0.mk (blk_below (g := gb166) (o := .cells #[.int .u64 a1_0, .int .u64 a1_1] 24 (0, 0)) (by (with_reducible repeat (first | refine blk_drewN ?_ _ | refine blk_drew ?_ | refine blk_alloc ?_ _)); exact BK166.out) hb)
  have n2_ := Aside0.mk (blk_below (g := gb167) (o := .cells #[.int .u64 0, .int .u64 0] 24 (0, 0)) (by (with_reducible repeat (first | refine blk_drewN ?_ _ | refine blk_drew ?_ | refine blk_alloc ?_ _)); exact BK167.out) hb)
  have n3_ := Aside0.mk (below_step (by repeat (first | (with_reducible first | exact HB.out | apply below_alloc | apply pw_below_drewN | apply below_drew1 | refine below_set ?_ GE165.out | refine below_set ?_ GE166.out | refine below_set ?_ GE167.out) | exact HB.out)) hb)
  clear BK165
  clear BK166
  clear BK167
  clear HB
  have BK165 := n0_
  have BK166 := n1_
  have BK167 := n2_
  have HB := n3_
  clear n0_ n1_ n2_ n3_
  (try clear hb)
  (try clear hb2)
  (try clear hk)
  (try clear hi)
  refine hK.out _ _ ⟨(blk_cell BK165.out 0).trans rfl, (blk_cell BK165.out 1).trans rfl, (blk_cell BK166.out 0).trans rfl, (blk_cell BK166.out 1).trans rfl⟩ (fun hHeld => ?_)
  clear hK K
  refine norm_ (a' := ?_) ?_ ?_
  rotate_left
  · show Act.put _ (some 6) _ = _
    simp only [Act.put, List.setIfInBounds_toArray, List.set_cons_zero, List.set_cons_succ, i64_w, i32_w]
    rfl
  refine one_ (i := 3) (N := some 8) #[true, true, true, true, false, false, false] rfl rfl (by kernel_rfl) (by decide) (fun K hK => ?_)
  refine goes_ Try.func76 (by kernel_rfl) rfl #[.agg #[.int .u64 a1_0, .int .u64 a1_1]] (by rfl) rfl rfl (by (try simp only [List.map_toArray, List.map_cons, List.map_nil]); first | done | rfl | (simp only [List.length_drop, List.length_take]; rfl)) ?_
  with_reducible refine (impl_Wide_u.calls a1_0 a1_1 t170 t171 _ A4.out).mono ?_
  rintro e w12 ⟨rfl, hb⟩
  refine ⟨_, rfl, ?_⟩
  have n0_ := Aside0.mk (blk_below (g := gb165) (o := .cells #[.int .u64 a0_0, .int .u64 a0_1] 24 (0, 0)) (by (with_reducible repeat (first | refine blk_drewN ?_ _ | refine blk_drew ?_ | refine blk_alloc ?_ _)); exact BK165.out) hb)
  have n1_ := Aside0.mk (blk_below (g := gb166) (o := .cells #[.int .u64 a1_0, .int .u64 a1_1] 24 (0, 0)) (by (with_reducible repeat (first | refine blk_drewN ?_ _ | refine blk_drew ?_ | refine blk_alloc ?_ _)); exact BK166.out) hb)
  have n2_ := Aside0.mk (blk_below (g := gb167) (o := .cells #[.int .u64 0, .int .u64 0] 24 (0, 0)) (by (with_reducible repeat (first | refine blk_drewN ?_ _ | refine blk_drew ?_ | refine blk_alloc ?_ _)); exact BK167.out) hb)
  have n3_ := Aside0.mk (below_step (by repeat (first | (with_reducible first | exact HB.out | apply below_alloc | apply pw_below_drewN | apply below_drew1 | refine below_set ?_ GE165.out | refine below_set ?_ GE166.out | refine below_set ?_ GE167.out) | exact HB.out)) hb)
  clear BK165
  clear BK166
  clear BK167
  clear HB
  have BK165 := n0_
  have BK166 := n1_
  have BK167 := n2_
  have HB := n3_
  clear n0_ n1_ n2_ n3_
  (try clear hb)
  (try clear hb2)
  (try clear hk)
  (try clear hi)
  refine hK.out _ _ ⟨(blk_cell BK165.out 0).trans rfl, (blk_cell BK165.out 1).trans rfl, (blk_cell BK166.out 0).trans rfl, (blk_cell BK166.out 1).trans rfl⟩ (fun hHeld => ?_)
  clear hK K
  refine norm_ (a' := ?_) ?_ ?_
  rotate_left
  · show Act.put _ (some 8) _ = _
    simp only [Act.put, List.setIfInBounds_toArray, List.set_cons_zero, List.set_cons_succ, i64_w, i32_w]
    rfl
  refine one_ (i := 4) (N := some 9) #[true, true, true, true, true, false, false] rfl rfl (by kernel_rfl) (by decide) (fun K hK => ?_)
  refine goes_ Try.func84 (by kernel_rfl) rfl #[.agg #[.int .u64 t168, .int .u64 t169], .agg #[.int .u64 t170, .int .u64 t171]] (by rfl) rfl rfl (by (try simp only [List.map_toArray, List.map_cons, List.map_nil]); first | done | rfl | (simp only [List.length_drop, List.length_take]; rfl)) ?_
  with_reducible refine (uint128_Uint128_Or.calls t168 t169 t170 t171 t172 t173 _ A5.out).mono ?_
  rintro e w13 ⟨rfl, hb⟩
  refine ⟨_, rfl, ?_⟩
  have n0_ := Aside0.mk (blk_below (g := gb165) (o := .cells #[.int .u64 a0_0, .int .u64 a0_1] 24 (0, 0)) (by (with_reducible repeat (first | refine blk_drewN ?_ _ | refine blk_drew ?_ | refine blk_alloc ?_ _)); exact BK165.out) hb)
  have n1_ := Aside0.mk (blk_below (g := gb166) (o := .cells #[.int .u64 a1_0, .int .u64 a1_1] 24 (0, 0)) (by (with_reducible repeat (first | refine blk_drewN ?_ _ | refine blk_drew ?_ | refine blk_alloc ?_ _)); exact BK166.out) hb)
  have n2_ := Aside0.mk (blk_below (g := gb167) (o := .cells #[.int .u64 0, .int .u64 0] 24 (0, 0)) (by (with_reducible repeat (first | refine blk_drewN ?_ _ | refine blk_drew ?_ | refine blk_alloc ?_ _)); exact BK167.out) hb)
  have n3_ := Aside0.mk (below_step (by repeat (first | (with_reducible first | exact HB.out | apply below_alloc | apply pw_below_drewN | apply below_drew1 | refine below_set ?_ GE165.out | refine below_set ?_ GE166.out | refine below_set ?_ GE167.out) | exact HB.out)) hb)
  clear BK165
  clear BK166
  clear BK167
  clear HB
  have BK165 := n0_
  have BK166 := n1_
  have BK167 := n2_
  have HB := n3_
  clear n0_ n1_ n2_ n3_
  (try clear hb)
  (try clear hb2)
  (try clear hk)
  (try clear hi)
  refine hK.out _ _ ⟨(blk_cell BK165.out 0).trans rfl, (blk_cell BK165.out 1).trans rfl, (blk_cell BK166.out 0).trans rfl, (blk_cell BK166.out 1).trans rfl⟩ (fun hHeld => ?_)
  clear hK K
  refine norm_ (a' := ?_) ?_ ?_
  rotate_left
  · show Act.put _ (some 9) _ = _
    simp only [Act.put, List.setIfInBounds_toArray, List.set_cons_zero, List.set_cons_succ, i64_w, i32_w]
    rfl
  refine one_ (i := 5) (N := some 10) #[true, true, true, true, true, true, false] rfl rfl (by kernel_rfl) (by decide) (fun K hK => ?_)
  refine goes_ Try.func80 (by kernel_rfl) rfl #[.agg #[.int .u64 t172, .int .u64 t173]] (by rfl) rfl rfl (by (try simp only [List.map_toArray, List.map_cons, List.map_nil]); first | done | rfl | (simp only [List.length_drop, List.length_take]; rfl)) ?_
  with_reducible refine (impl_wide.calls t172 t173 t174 t175 _ A6.out).mono ?_
  rintro e w14 ⟨rfl, hb⟩
  refine ⟨_, rfl, ?_⟩
  have n0_ := Aside0.mk (blk_below (g := gb165) (o := .cells #[.int .u64 a0_0, .int .u64 a0_1] 24 (0, 0)) (by (with_reducible repeat (first | refine blk_drewN ?_ _ | refine blk_drew ?_ | refine blk_alloc ?_ _)); exact BK165.out) hb)
  have n1_ := Aside0.mk (blk_below (g := gb166) (o := .cells #[.int .u64 a1_0, .int .u64 a1_1] 24 (0, 0)) (by (with_reducible repeat (first | refine blk_drewN ?_ _ | refine blk_drew ?_ | refine blk_alloc ?_ _)); exact BK166.out) hb)
  have n2_ := Aside0.mk (blk_below (g := gb167) (o := .cells #[.int .u64 0, .int .u64 0] 24 (0, 0)) (by (with_reducible repeat (first | refine blk_drewN ?_ _ | refine blk_drew ?_ | refine blk_alloc ?_ _)); exact BK167.out) hb)
  have n3_ := Aside0.mk (below_step (by repeat (first | (with_reducible first | exact HB.out | apply below_alloc | apply pw_below_drewN | apply below_drew1 | refine below_set ?_ GE165.out | refine below_set ?_ GE166.out | refine below_set ?_ GE167.out) | exact HB.out)) hb)
  clear BK165
  clear BK166
  clear BK167
  clear HB
  have BK165 := n0_
  have BK166 := n1_
  have BK167 := n2_
  have HB := n3_
  clear n0_ n1_ n2_ n3_
  (try clear hb)
  (try clear hb2)
  (try clear hk)
  (try clear hi)
  refine hK.out _ _ ⟨(blk_cell BK165.out 0).trans rfl, (blk_cell BK165.out 1).trans rfl, (blk_cell BK166.out 0).trans rfl, (blk_cell BK166.out 1).trans rfl⟩ (fun hHeld => ?_)
  clear hK K
  refine norm_ (a' := ?_) ?_ ?_
  rotate_left
  · show Act.put _ (some 10) _ = _
    simp only [Act.put, List.setIfInBounds_toArray, List.set_cons_zero, List.set_cons_succ, i64_w, i32_w]
    rfl
  refine one_ (i := 6) (N := none) #[true, true, true, true, true, true, true] rfl rfl (by kernel_rfl) (by decide) (fun K hK => ?_)
  have hs15 : w14.cell? ⟨gb167, 0, none⟩ = some (.int .u64 0) := (blk_cell BK167.out 0).trans rfl
  have hfs15 := blk_frozen BK167.out 0
  have hns15_0 := NB165_167.out
  have hns15_1 := NB166_167.out
  have hms15_0 := NB167_165.out
  have hms15_1 := NB167_166.out
  have hs16 : w14.cell? ⟨gb167, 1, none⟩ = some (.int .u64 0) := (blk_cell BK167.out 1).trans rfl
  have hfs16 := blk_frozen BK167.out 1
  have hns16_0 := NB165_167.out
  have hns16_1 := NB166_167.out
  have hms16_0 := NB167_165.out
  have hms16_1 := NB167_166.out
  refine skip_ (w1 := ?_) (by rfl) rfl ?_ ?_
  rotate_left
  · go_simp
    rfl
  refine hK.out _ _ ⟨((cell_far (p := ⟨gb167, _, none⟩) NB165_167.out _).trans (((cell_far (p := ⟨gb167, _, none⟩) NB165_167.out _).trans (hHeld.1)))), ((cell_far (p := ⟨gb167, _, none⟩) NB165_167.out _).trans (((cell_far (p := ⟨gb167, _, none⟩) NB165_167.out _).trans (hHeld.2.1)))), ((cell_far (p := ⟨gb167, _, none⟩) NB166_167.out _).trans (((cell_far (p := ⟨gb167, _, none⟩) NB166_167.out _).trans (hHeld.2.2.1)))), ((cell_far (p := ⟨gb167, _, none⟩) NB166_167.out _).trans (((cell_far (p := ⟨gb167, _, none⟩) NB166_167.out _).trans (hHeld.2.2.2))))⟩ (fun hHeld => ?_)
  clear hK K
  refine done_ (by kernel_rfl) ?_
  try go_wp2
  refine bodyPost_ret (results_cell_row rfl _ _ gb167 24 #[.int .u64 t174, .int .u64 t175] (0, 0) _ rfl (by (with_reducible repeat (first | refine blk_drewN ?_ _ | refine blk_drew ?_ | refine blk_alloc ?_ _)); refine blk_put (cs := #[.int .u64 t174, .int .u64 0]) ?_ 1 _ rfl; (with_reducible repeat (first | refine blk_drewN ?_ _ | refine blk_drew ?_ | refine blk_alloc ?_ _)); refine blk_put (cs := #[.int .u64 0, .int .u64 0]) ?_ 0 _ rfl; (with_reducible repeat (first | refine blk_drewN ?_ _ | refine blk_drew ?_ | refine blk_alloc ?_ _)); exact BK167.out) Try.underlying24 rfl (by kernel_rfl)) rfl ?_
  exact ⟨by first | rfl | (simp [errW_none, errW_some] <;> rfl) | (simp [*, errW_none, errW_some] <;> rfl), by repeat (first | (with_reducible first | exact HB.out | apply below_alloc | apply pw_below_drewN | apply below_drew1 | refine below_set ?_ GE165.out | refine below_set ?_ GE166.out | refine below_set ?_ GE167.out) | exact HB.out)⟩


/-! ### uint128_Uint128_Or64: function 85 -/
def uint128_Uint128_Or64.f (a0_0 : Int) (a0_1 : Int) (a1 : Int) : Option (Int × Int) := some (Go.bits .or .u64 a0_0 a1, Go.bits .or .u64 a0_1 0)
set_option maxHeartbeats 8000000 in
set_option maxRecDepth 100000 in
theorem uint128_Uint128_Or64.calls (a0_0 : Int) (a0_1 : Int) (a1 : Int) (r1 : Int) (r2 : Int) (w : World) (h : uint128_Uint128_Or64.f a0_0 a0_1 a1 = some (r1, r2)) :
    Calls Try.prog 85 #[.agg #[.int .u64 a0_0, .int .u64 a0_1], .int .u64 a1] w fun e w' => e = .returned (.agg #[.int .u64 r1, .int .u64 r2]) ∧ Below w.heap.size w w' := by
  have hu59 := Try.underlying59
  have HB := Aside0.mk (Below.refl w.heap.size w)
  have H : (some (Go.bits .or .u64 a0_0 a1, Go.bits .or .u64 a0_1 0)) = some (r1, r2) := h
  clear h
  simp only [Option.some.injEq, Prod.mk.injEq] at H
  obtain ⟨rfl, rfl⟩ := H
  go_enter Try.func85, Try.ntmps85
  go_wp2_with (first | ((with_reducible refine gate_dst (N := 2) rfl ?_); refine box_event ?hg (N := 2) ?hd (cs := #[.int .u64 a0_0, .int .u64 a0_1]) (t := 59) ?hr ?_; (case hd => rfl); (case hg => rfl); (case hr => first | (go_simp; done) | (go_simp; rfl)); intro gb176 hg w3 hbox hb; have n0_ := Aside0.mk (below_step (by repeat (first | (with_reducible first | exact HB.out | apply below_alloc | apply pw_below_drewN | apply below_drew1) | exact HB.out)) hb); have n1_ := Aside0.mk (hbox); have n2_ := Aside0.mk ((by rw [hg]; exact (below_size (by repeat (first | (with_reducible first | exact HB.out | apply below_alloc | apply pw_below_drewN | apply below_drew1) | exact HB.out))) : w.heap.size ≤ gb176)); have n3_ := Aside0.mk ((by rw [hg]; exact (below_size (by repeat (first | (with_reducible first | exact HB.out | apply below_alloc | apply pw_below_drewN | apply below_drew1) | exact HB.out))) : w.heap.size ≤ gb176)); clear HB; have HB := n0_; have BK176 := n1_; have GW176 := n2_; have GE176 := n3_; clear n0_ n1_ n2_ n3_; clear hb hbox hg) | ((with_reducible refine gate_dst (N := 4) rfl ?_); refine box_event ?hg (N := 4) ?hd (cs := #[.int .u64 0, .int .u64 0]) (t := 59) ?hr ?_; (case hd => rfl); (case hg => rfl); (case hr => first | (go_simp; done) | (go_simp; rfl)); intro gb177 hg w4 hbox hb; have n0_ := Aside0.mk (blk_below (g := gb176) (o := .cells #[.int .u64 a0_0, .int .u64 a0_1] 59 (0, 0)) (by (with_reducible repeat (first | refine blk_drewN ?_ _ | refine blk_drew ?_ | refine blk_alloc ?_ _)); exact BK176.out) hb); have n1_ := Aside0.mk (below_step (by repeat (first | (with_reducible first | exact HB.out | apply below_alloc | apply pw_below_drewN | apply below_drew1 | refine below_set ?_ GE176.out) | exact HB.out)) hb); have n2_ := Aside0.mk (hbox); have n3_ := Aside0.mk ((by rw [hg]; exact (below_size (by repeat (first | (with_reducible first | exact HB.out | apply below_alloc | apply pw_below_drewN | apply below_drew1 | refine below_set ?_ GE176.out) | exact HB.out))) : w.heap.size ≤ gb177)); have n4_ := Aside0.mk ((by rw [hg]; exact (below_size (by repeat (first | (with_reducible first | exact HB.out | apply below_alloc | apply pw_below_drewN | apply below_drew1 | refine below_set ?_ GE176.out) | exact HB.out))) : w.heap.size ≤ gb177)); have n5_ := Aside0.mk ((by rw [hg]; exact Nat.ne_of_lt (blk_lt (g := gb176) (o := .cells #[.int .u64 a0_0, .int .u64 a0_1] 59 (0, 0)) (by (with_reducible repeat (first | refine blk_drewN ?_ _ | refine blk_drew ?_ | refine blk_alloc ?_ _)); exact BK176.out)) : gb176 ≠ gb177)); have n6_ := Aside0.mk ((by rw [hg]; exact Nat.ne_of_gt (blk_lt (g := gb176) (o := .cells #[.int .u64 a0_0, .int .u64 a0_1] 59 (0, 0)) (by (with_reducible repeat (first | refine blk_drewN ?_ _ | refine blk_drew ?_ | refine blk_alloc ?_ _)); exact BK176.out)) : gb177 ≠ gb176)); clear BK176; clear HB; have BK176 := n0_; have HB := n1_; have BK177 := n2_; have GW177 := n3_; have GE177 := n4_; have NB176_177 := n5_; have NB177_176 := n6_; clear n0_ n1_ n2_ n3_ n4_ n5_ n6_; clear hb hbox hg; have hnb5 := NB176_177.out; have hnc5 := NB177_176.out; have hcz6_0 : w4.cell? ⟨gb176, 0, none⟩ = some (.int .u64 a0_0) := (blk_cell BK176.out 0).trans rfl; have hcz6_1 : w4.cell? ⟨gb176, 1, none⟩ = some (.int .u64 a0_1) := (blk_cell BK176.out 1).trans rfl; have hfz6_0 := blk_frozen BK176.out 0; have hfz6_1 := blk_frozen BK176.out 1; have hcz7_0 : w4.cell? ⟨gb177, 0, none⟩ = some (.int .u64 0) := (blk_cell BK177.out 0).trans rfl; have hcz7_1 : w4.cell? ⟨gb177, 1, none⟩ = some (.int .u64 0) := (blk_cell BK177.out 1).trans rfl; have hfz7_0 := blk_frozen BK177.out 0; have hfz7_1 := blk_frozen BK177.out 1))
  refine bodyPost_ret (results_cell_row rfl _ _ gb177 59 #[.int .u64 (Go.bits .or .u64 a0_0 a1), .int .u64 (Go.bits .or .u64 a0_1 0)] (0, 0) _ rfl (by (with_reducible repeat (first | refine blk_drewN ?_ _ | refine blk_drew ?_ | refine blk_alloc ?_ _)); refine blk_put (cs := #[.int .u64 (Go.bits .or .u64 a0_0 a1), .int .u64 0]) ?_ 1 _ rfl; (with_reducible repeat (first | refine blk_drewN ?_ _ | refine blk_drew ?_ | refine blk_alloc ?_ _)); refine blk_put (cs := #[.int .u64 0, .int .u64 0]) ?_ 0 _ rfl; (with_reducible repeat (first | refine blk_drewN ?_ _ | refine blk_drew ?_ | refine blk_alloc ?_ _)); exact BK177.out) Try.underlying59 rfl (by kernel_rfl)) rfl ?_
  exact ⟨by first | rfl | (simp [errW_none, errW_some] <;> rfl) | (simp [*, errW_none, errW_some] <;> rfl), by repeat (first | (with_reducible first | exact HB.out | apply below_alloc | apply pw_below_drewN | apply below_drew1 | refine below_set ?_ GE176.out | refine below_set ?_ GE177.out) | exact HB.out)⟩


/-! ### impl_WideOr64: function 34 -/
def impl_WideOr64.f (a0_0 : Int) (a0_1 : Int) (a1 : Int) : Option (Int × Int) := (impl_Wide_u.f a0_0 a0_1).bind fun bt180 => ((uint128_Uint128_Or64.f bt180.1 bt180.2 a1).bind fun bt182 => ((impl_wide.f bt182.1 bt182.2).bind fun bt184 => (some (bt184.1, bt184.2))))
set_option maxHeartbeats 8000000 in
set_option maxRecDepth 100000 in
theorem impl_WideOr64.calls (a0_0 : Int) (a0_1 : Int) (a1 : Int) (r1 : Int) (r2 : Int) (w : World) (h : impl_WideOr64.f a0_0 a0_1 a1 = some (r1, r2)) :
    Calls Try.prog 34 #[.agg #[.int .u64 a0_0, .int .u64 a0_1], .int .u64 a1] w fun e w' => e = .returned (.agg #[.int .u64 r1, .int .u64 r2]) ∧ Below w.heap.size w w' := by
  have hu24 := Try.underlying24
  have HB := Aside0.mk (Below.refl w.heap.size w)
  have H : ((impl_Wide_u.f a0_0 a0_1).bind fun bt180 => ((uint128_Uint128_Or64.f bt180.1 bt180.2 a1).bind fun bt182 => ((impl_wide.f bt182.1 bt182.2).bind fun bt184 => (some (bt184.1, bt184.2))))) = some (r1, r2) := h
  clear h
  replace H := Option.bind_eq_some_iff.mp H
  obtain ⟨⟨t180, t181⟩, A30, H⟩ := H
  replace H : ((uint128_Uint128_Or64.f t180 t181 a1).bind fun bt182 => ((impl_wide.f bt182.1 bt182.2).bind fun bt184 => (some (bt184.1, bt184.2)))) = some (r1, r2) := H
  have A3 := Aside0.mk A30
  clear A30
  replace H := Option.bind_eq_some_iff.mp H
  obtain ⟨⟨t182, t183⟩, A40, H⟩ := H
  replace H : ((impl_wide.f t182 t183).bind fun bt184 => (some (bt184.1, bt184.2))) = some (r1, r2) := H
  have A4 := Aside0.mk A40
  clear A40
  replace H := Option.bind_eq_some_iff.mp H
  obtain ⟨⟨t184, t185⟩, A50, H⟩ := H
  replace H : (some (t184, t185)) = some (r1, r2) := H
  have A5 := Aside0.mk A50
  clear A50
  simp only [Option.some.injEq, Prod.mk.injEq] at H
  obtain ⟨rfl, rfl⟩ := H
  go_enter Try.func34, Try.ntmps34
  go_wp2_with (first | ((with_reducible refine gate_dst (N := 2) rfl ?_); refine box_event ?hg (N := 2) ?hd (cs := #[.int .u64 a0_0, .int .u64 a0_1]) (t := 24) ?hr ?_; (case hd => rfl); (case hg => rfl); (case hr => first | (go_simp; done) | (go_simp; rfl)); intro gb178 hg w6 hbox hb; have n0_ := Aside0.mk (below_step (by repeat (first | (with_reducible first | exact HB.out | apply below_alloc | apply pw_below_drewN | apply below_drew1) | exact HB.out)) hb); have n1_ := Aside0.mk (hbox); have n2_ := Aside0.mk ((by rw [hg]; exact (below_size (by repeat (first | (with_reducible first | exact HB.out | apply below_alloc | apply pw_below_drewN | apply below_drew1) | exact HB.out))) : w.heap.size ≤ gb178)); have n3_ := Aside0.mk ((by rw [hg]; exact (below_size (by repeat (first | (with_reducible first | exact HB.out | apply below_alloc | apply pw_below_drewN | apply below_drew1) | exact HB.out))) : w.heap.size ≤ gb178)); clear HB; have HB := n0_; have BK178 := n1_; have GW178 := n2_; have GE178 := n3_; clear n0_ n1_ n2_ n3_; clear hb hbox hg) | ((with_reducible refine gate_dst (N := 4) rfl ?_); refine box_event ?hg (N := 4) ?hd (cs := #[.int .u64 0, .int .u64 0]) (t := 24) ?hr ?_; (case hd => rfl); (case hg => rfl); (case hr => first | (go_simp; done) | (go_simp; rfl)); intro gb179 hg w7 hbox hb; have n0_ := Aside0.mk (blk_below (g := gb178) (o := .cells #[.int .u64 a0_0, .int .u64 a0_1] 24 (0, 0)) (by (with_reducible repeat (first | refine blk_drewN ?_ _ | refine blk_drew ?_ | refine blk_alloc ?_ _)); exact BK178.out) hb); have n1_ := Aside0.mk (below_step (by repeat (first | (with_reducible first | exact HB.out | apply below_alloc | apply pw_below_drewN | apply below_drew1 | refine below_set ?_ GE178.out) | exact HB.out)) hb); have n2_ := Aside0.mk (hbox); have n3_ := Aside0.mk ((by rw [hg]; exact (below_size (by repeat (first | (with_reducible first | exact HB.out | apply below_alloc | apply pw_below_drewN | apply below_drew1 | refine below_set ?_ GE178.out) | exact HB.out))) : w.heap.size ≤ gb179)); have n4_ := Aside0.mk ((by rw [hg]; exact (below_size (by repeat (first | (with_reducible first | exact HB.out | apply below_alloc | apply pw_below_drewN | apply below_drew1 | refine below_set ?_ GE178.out) | exact HB.out))) : w.heap.size ≤ gb179)); have n5_ := Aside0.mk ((by rw [hg]; exact Nat.ne_of_lt (blk_lt (g := gb178) (o := .cells #[.int .u64 a0_0, .int .u64 a0_1] 24 (0, 0)) (by (with_reducible repeat (first | refine blk_drewN ?_ _ | refine blk_drew ?_ | refine blk_alloc ?_ _)); exact BK178.out)) : gb178 ≠ gb179)); have n6_ := Aside0.mk ((by rw [hg]; exact Nat.ne_of_gt (blk_lt (g := gb178) (o := .cells #[.int .u64 a0_0, .int .u64 a0_1] 24 (0, 0)) (by (with_reducible repeat (first | refine blk_drewN ?_ _ | refine blk_drew ?_ | refine blk_alloc ?_ _)); exact BK178.out)) : gb179 ≠ gb178)); clear BK178; clear HB; have BK178 := n0_; have HB := n1_; have BK179 := n2_; have GW179 := n3_; have GE179 := n4_; have NB178_179 := n5_; have NB179_178 := n6_; clear n0_ n1_ n2_ n3_ n4_ n5_ n6_; clear hb hbox hg; have hnb8 := NB178_179.out; have hnc8 := NB179_178.out; have hcz9_0 : w7.cell? ⟨gb178, 0, none⟩ = some (.int .u64 a0_0) := (blk_cell BK178.out 0).trans rfl; have hcz9_1 : w7.cell? ⟨gb178, 1, none⟩ = some (.int .u64 a0_1) := (blk_cell BK178.out 1).trans rfl; have hfz9_0 := blk_frozen BK178.out 0; have hfz9_1 := blk_frozen BK178.out 1) | ((with_reducible refine gate_callee (f := 76) rfl ?_); refine goesL_ (some 6) rfl rfl Try.func76 (by kernel_rfl) rfl #[.agg #[.int .u64 a0_0, .int .u64 a0_1]] rfl (by (try simp only [List.map_toArray, List.map_cons, List.map_nil]); first | done | rfl | (simp only [List.length_drop, List.length_take]; rfl)) ?_; (with_reducible refine (impl_Wide_u.calls a0_0 a0_1 t180 t181 _ A3.out).mono ?_); rintro e w10 ⟨rfl, hb⟩; refine ⟨_, rfl, ?_⟩; have n0_ := Aside0.mk (blk_below (g := gb178) (o := .cells #[.int .u64 a0_0, .int .u64 a0_1] 24 (0, 0)) (by (with_reducible repeat (first | refine blk_drewN ?_ _ | refine blk_drew ?_ | refine blk_alloc ?_ _)); exact BK178.out) hb); have n1_ := Aside0.mk (blk_below (g := gb179) (o := .cells #[.int .u64 0, .int .u64 0] 24 (0, 0)) (by (with_reducible repeat (first | refine blk_drewN ?_ _ | refine blk_drew ?_ | refine blk_alloc ?_ _)); exact BK179.out) hb); have n2_ := Aside0.mk (below_step (by repeat (first | (with_reducible first | exact HB.out | apply below_alloc | apply pw_below_drewN | apply below_drew1 | refine below_set ?_ GE178.out | refine below_set ?_ GE179.out) | exact HB.out)) hb); clear BK178; clear BK179; clear HB; have BK178 := n0_; have BK179 := n1_; have HB := n2_; clear n0_ n1_ n2_; (try clear hb); (try clear hb2); (try clear hk); (try clear hi)) | ((with_reducible refine gate_callee (f := 85) rfl ?_); refine goesL_ (some 8) rfl rfl Try.func85 (by kernel_rfl) rfl #[.agg #[.int .u64 t180, .int .u64 t181], .int .u64 a1] rfl (by (try simp only [List.map_toArray, List.map_cons, List.map_nil]); first | done | rfl | (simp only [List.length_drop, List.length_take]; rfl)) ?_; (with_reducible refine (uint128_Uint128_Or64.calls t180 t181 a1 t182 t183 _ A4.out).mono ?_); rintro e w11 ⟨rfl, hb⟩; refine ⟨_, rfl, ?_⟩; have n0_ := Aside0.mk (blk_below (g := gb178) (o := .cells #[.int .u64 a0_0, .int .u64 a0_1] 24 (0, 0)) (by (with_reducible repeat (first | refine blk_drewN ?_ _ | refine blk_drew ?_ | refine blk_alloc ?_ _)); exact BK178.out) hb); have n1_ := Aside0.mk (blk_below (g := gb179) (o := .cells #[.int .u64 0, .int .u64 0] 24 (0, 0)) (by (with_reducible repeat (first | refine blk_drewN ?_ _ | refine blk_drew ?_ | refine blk_alloc ?_ _)); exact BK179.out) hb); have n2_ := Aside0.mk (below_step (by repeat (first | (with_reducible first | exact HB.out | apply below_alloc | apply pw_below_drewN | apply below_drew1 | refine below_set ?_ GE178.out | refine below_set ?_ GE179.out) | exact HB.out)) hb); clear BK178; clear BK179; clear HB; have BK178 := n0_; have BK179 := n1_; have HB := n2_; clear n0_ n1_ n2_; (try clear hb); (try clear hb2); (try clear hk); (try clear hi)) | ((with_reducible refine gate_callee (f := 80) rfl ?_); refine goesL_ (some 9) rfl rfl Try.func80 (by kernel_rfl) rfl #[.agg #[.int .u64 t182, .int .u64 t183]] rfl (by (try simp only [List.map_toArray, List.map_cons, List.map_nil]); first | done | rfl | (simp only [List.length_drop, List.length_take]; rfl)) ?_; (with_reducible refine (impl_wide.calls t182 t183 t184 t185 _ A5.out).mono ?_); rintro e w12 ⟨rfl, hb⟩; refine ⟨_, rfl, ?_⟩; have n0_ := Aside0.mk (blk_below (g := gb178) (o := .cells #[.int .u64 a0_0, .int .u64 a0_1] 24 (0, 0)) (by (with_reducible repeat (first | refine blk_drewN ?_ _ | refine blk_drew ?_ | refine blk_alloc ?_ _)); exact BK178.out) hb); have n1_ := Aside0.mk (blk_below (g := gb179) (o := .cells #[.int .u64 0, .int .u64 0] 24 (0, 0)) (by (with_reducible repeat (first | refine blk_drewN ?_ _ | refine blk_drew ?_ | refine blk_alloc ?_ _)); exact BK179.out) hb); have n2_ := Aside0.mk (below_step (by repeat (first | (with_reducible first | exact HB.out | apply below_alloc | apply pw_below_drewN | apply below_drew1 | refine below_set ?_ GE178.out | refine below_set ?_ GE179.out) | exact HB.out)) hb); clear BK178; clear BK179; clear HB; have BK178 := n0_; have BK179 := n1_; have HB := n2_; clear n0_ n1_ n2_; (try clear hb); (try clear hb2); (try clear hk); (try clear hi); have hcz13_0 : w12.cell? ⟨gb179, 0, none⟩ = some (.int .u64 0) := (blk_cell BK179.out 0).trans rfl; have hcz13_1 : w12.cell? ⟨gb179, 1, none⟩ = some (.int .u64 0) := (blk_cell BK179.out 1).trans rfl; have hfz13_0 := blk_frozen BK179.out 0; have hfz13_1 := blk_frozen BK179.out 1))
  refine bodyPost_ret (results_cell_row rfl _ _ gb179 24 #[.int .u64 t184, .int .u64 t185] (0, 0) _ rfl (by (with_reducible repeat (first | refine blk_drewN ?_ _ | refine blk_drew ?_ | refine blk_alloc ?_ _)); refine blk_put (cs := #[.int .u64 t184, .int .u64 0]) ?_ 1 _ rfl; (with_reducible repeat (first | refine blk_drewN ?_ _ | refine blk_drew ?_ | refine blk_alloc ?_ _)); refine blk_put (cs := #[.int .u64 0, .int .u64 0]) ?_ 0 _ rfl; (with_reducible repeat (first | refine blk_drewN ?_ _ | refine blk_drew ?_ | refine blk_alloc ?_ _)); exact BK179.out) Try.underlying24 rfl (by kernel_rfl)) rfl ?_
  exact ⟨by first | rfl | (simp [errW_none, errW_some] <;> rfl) | (simp [*, errW_none, errW_some] <;> rfl), by repeat (first | (with_reducible first | exact HB.out | apply below_alloc | apply pw_below_drewN | apply below_drew1 | refine below_set ?_ GE178.out | refine below_set ?_ GE179.out) | exact HB.out)⟩


-- NOT PRINTED: function 5 (laws_FnWideOr)

end Go.Proofs.Ytiifnofghicnaaa.PAll
