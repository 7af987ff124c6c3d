/- Printed by the kit's print.py, called for several laws at once: functions as plain Lean, and the walks' contracts. -/
import Derived.Test.YtiifnofghicnaaaDoorQAllx0
import Derived.Test.YtiifnofghicnaaaDoorQAllx1
import Derived.Test.YtiifnofghicnaaaDoorQAllx5
import Derived.Test.YtiifnofghicnaaaDoorQAllx8
import Derived.Test.YtiifnofghicnaaaDoorQAllx9
namespace Go.Proofs.YtiifnofghicnaaaDoor.PAll
open Go.RowKit Go.Proofs.YtiifnofghicnaaaDoorW.PrintWords Go.Proofs.YtiifnofghicnaaaDoorW.PrintLast Go.Proofs.YtiifnofghicnaaaDoorW.PrintMore
attribute [local go_sem] max2_int min2_int max_two min_two max_three min_three max_four min_four   -- for this text's walks alone
set_option linter.unusedVariables false
set_option linter.unusedSimpArgs false
/-! ### uint128_Uint128_Div: function 66 -/
def uint128_Uint128_Div.f (k : Nat) (a0_0 : Int) (a0_1 : Int) (a1_0 : Int) (a1_1 : Int) : Option (Int × Int) := (uint128_Uint128_QuoRem.f k a0_0 a0_1 a1_0 a1_1).bind fun bt459 => (some (bt459.1, bt459.2.1))
theorem uint128_Uint128_Div.mono : ∀ a0 a1 a2 a3 k, LeO (uint128_Uint128_Div.f k a0 a1 a2 a3) (uint128_Uint128_Div.f (k + 1) a0 a1 a2 a3) := by
  intro a0 a1 a2 a3 k
  unfold uint128_Uint128_Div.f
  repeat' first
      | (with_reducible exact uint128_Uint128_QuoRem.mono _ _ _ _ _)
      | (with_reducible exact LeO.refl _)
      | (with_reducible exact LeO.none _)
      | (with_reducible refine LeO.ite ?_ ?_)
      | (with_reducible refine LeO.bind ?_ (fun _ => ?_))
      | exact uint128_Uint128_QuoRem.mono _ _ _ _ _
      | exact LeO.none _
      | refine LeO.ite ?_ ?_
      | refine LeO.bind ?_ (fun _ => ?_)
set_option maxHeartbeats 8000000 in
set_option maxRecDepth 100000 in
theorem uint128_Uint128_Div.calls (k : Nat) (a0_0 : Int) (a0_1 : Int) (a1_0 : Int) (a1_1 : Int) (r1 : Int) (r2 : Int) (w : World) (h : uint128_Uint128_Div.f k a0_0 a0_1 a1_0 a1_1 = some (r1, r2)) :
    Calls Tryd.prog 66 #[.agg #[.int .u64 a0_0, .int .u64 a0_1], .agg #[.int .u64 a1_0, .int .u64 a1_1]] w fun e w' => e = .returned (.agg #[.int .u64 r1, .int .u64 r2]) ∧ Below w.heap.size w w' := by
  have hu65 := Tryd.underlying65
  have HB := Aside0.mk (Below.refl w.heap.size w)
  have H : ((uint128_Uint128_QuoRem.f k a0_0 a0_1 a1_0 a1_1).bind fun bt459 => (some (bt459.1, bt459.2.1))) = some (r1, r2) := h
  clear h
  replace H := Option.bind_eq_some_iff.mp H
  obtain ⟨⟨t459, t460, t461, t462⟩, A30, H⟩ := H
  replace H : (some (t459, t460)) = some (r1, r2) := H
  have A3 := Aside0.mk A30
  clear A30
  simp only [Option.some.injEq, Prod.mk.injEq] at H
  obtain ⟨rfl, rfl⟩ := H
  go_enter Tryd.func66, Tryd.ntmps66
  go_wp2_with (first | ((with_reducible refine gate_dst (N := 2) rfl ?_); refine box_event ?hg (N := 2) ?hd (cs := #[.int .u64 a0_0, .int .u64 a0_1]) (t := 65) ?hr ?_; (case hd => rfl); (case hg => rfl); (case hr => first | (go_simp; done) | (go_simp; rfl)); intro gb456 hg w4 hbox hb; have n0_ := Aside0.mk (below_step HB.out hb); have n1_ := Aside0.mk (hbox); have n2_ := Aside0.mk ((by rw [hg]; exact (below_size HB.out) : w.heap.size ≤ gb456)); have n3_ := Aside0.mk ((by rw [hg]; exact (below_size HB.out) : w.heap.size ≤ gb456)); clear HB; have HB := n0_; have BK456 := n1_; have GW456 := n2_; have GE456 := n3_; clear n0_ n1_ n2_ n3_; clear hb hbox hg) | ((with_reducible refine gate_dst (N := 3) rfl ?_); refine box_event ?hg (N := 3) ?hd (cs := #[.int .u64 a1_0, .int .u64 a1_1]) (t := 65) ?hr ?_; (case hd => rfl); (case hg => rfl); (case hr => first | (go_simp; done) | (go_simp; rfl)); intro gb457 hg w5 hbox hb; have n0_ := Aside0.mk (blk_below (g := gb456) (o := .cells #[.int .u64 a0_0, .int .u64 a0_1] 65 (0, 0)) (by exact BK456.out) hb); have n1_ := Aside0.mk (below_step HB.out hb); have n2_ := Aside0.mk (hbox); have n3_ := Aside0.mk ((by rw [hg]; exact (below_size HB.out) : w.heap.size ≤ gb457)); have n4_ := Aside0.mk ((by rw [hg]; exact (below_size HB.out) : w.heap.size ≤ gb457)); have n5_ := Aside0.mk ((by rw [hg]; exact Nat.ne_of_lt (blk_lt (g := gb456) (o := .cells #[.int .u64 a0_0, .int .u64 a0_1] 65 (0, 0)) (by exact BK456.out)) : gb456 ≠ gb457)); have n6_ := Aside0.mk ((by rw [hg]; exact Nat.ne_of_gt (blk_lt (g := gb456) (o := .cells #[.int .u64 a0_0, .int .u64 a0_1] 65 (0, 0)) (by exact BK456.out)) : gb457 ≠ gb456)); clear BK456; clear HB; have BK456 := n0_; have HB := n1_; have BK457 := n2_; have GW457 := n3_; have GE457 := n4_; have NB456_457 := n5_; have NB457_456 := n6_; clear n0_ n1_ n2_ n3_ n4_ n5_ n6_; clear hb hbox hg) | ((with_reducible refine gate_dst (N := 4) rfl ?_); refine box_event ?hg (N := 4) ?hd (cs := #[.int .u64 0, .int .u64 0]) (t := 65) ?hr ?_; (case hd => rfl); (case hg => rfl); (case hr => first | (go_simp; done) | (go_simp; rfl)); intro gb458 hg w6 hbox hb; have n0_ := Aside0.mk (blk_below (g := gb456) (o := .cells #[.int .u64 a0_0, .int .u64 a0_1] 65 (0, 0)) (by exact BK456.out) hb); have n1_ := Aside0.mk (blk_below (g := gb457) (o := .cells #[.int .u64 a1_0, .int .u64 a1_1] 65 (0, 0)) (by exact BK457.out) hb); have n2_ := Aside0.mk (below_step HB.out hb); have n3_ := Aside0.mk (hbox); have n4_ := Aside0.mk ((by rw [hg]; exact (below_size HB.out) : w.heap.size ≤ gb458)); have n5_ := Aside0.mk ((by rw [hg]; exact (below_size HB.out) : w.heap.size ≤ gb458)); have n6_ := Aside0.mk ((by rw [hg]; exact Nat.ne_of_lt (blk_lt (g := gb456) (o := .cells #[.int .u64 a0_0, .int .u64 a0_1] 65 (0, 0)) (by exact BK456.out)) : gb456 ≠ gb458)); have n7_ := Aside0.mk ((by rw [hg]; exact Nat.ne_of_gt (blk_lt (g := gb456) (o := .cells #[.int .u64 a0_0, .int .u64 a0_1] 65 (0, 0)) (by exact BK456.out)) : gb458 ≠ gb456)); have n8_ := Aside0.mk ((by rw [hg]; exact Nat.ne_of_lt (blk_lt (g := gb457) (o := .cells #[.int .u64 a1_0, .int .u64 a1_1] 65 (0, 0)) (by exact BK457.out)) : gb457 ≠ gb458)); have n9_ := Aside0.mk ((by rw [hg]; exact Nat.ne_of_gt (blk_lt (g := gb457) (o := .cells #[.int .u64 a1_0, .int .u64 a1_1] 65 (0, 0)) (by exact BK457.out)) : gb458 ≠ gb457)); clear BK456; clear BK457; clear HB; have BK456 := n0_; have BK457 := n1_; have HB := n2_; have BK458 := n3_; have GW458 := n4_; have GE458 := n5_; have NB456_458 := n6_; have NB458_456 := n7_; have NB457_458 := n8_; have NB458_457 := n9_; clear n0_ n1_ n2_ n3_ n4_ n5_ n6_ n7_ n8_ n9_; clear hb hbox hg; have hnb7 := NB456_457.out; have hnc7 := NB457_456.out; have hnb8 := NB456_458.out; have hnc8 := NB458_456.out; have hcz9_0 : w6.cell? ⟨gb456, 0, none⟩ = some (.int .u64 a0_0) := (blk_cell BK456.out 0).trans rfl; have hcz9_1 : w6.cell? ⟨gb456, 1, none⟩ = some (.int .u64 a0_1) := (blk_cell BK456.out 1).trans rfl; have hfz9_0 := blk_frozen BK456.out 0; have hfz9_1 := blk_frozen BK456.out 1; have hnb10 := NB457_458.out; have hnc10 := NB458_457.out; have hcz11_0 : w6.cell? ⟨gb457, 0, none⟩ = some (.int .u64 a1_0) := (blk_cell BK457.out 0).trans rfl; have hcz11_1 : w6.cell? ⟨gb457, 1, none⟩ = some (.int .u64 a1_1) := (blk_cell BK457.out 1).trans rfl; have hfz11_0 := blk_frozen BK457.out 0; have hfz11_1 := blk_frozen BK457.out 1) | ((with_reducible refine gate_callee (f := 64) rfl ?_); refine goesL_ (some 10) rfl rfl Tryd.func64 (by kernel_rfl) rfl #[.agg #[.int .u64 a0_0, .int .u64 a0_1], .agg #[.int .u64 a1_0, .int .u64 a1_1]] rfl (by (try simp only [List.map_toArray, List.map_cons, List.map_nil]); first | done | rfl | (simp only [List.length_drop, List.length_take]; rfl)) ?_; (with_reducible refine (uint128_Uint128_QuoRem.calls k a0_0 a0_1 a1_0 a1_1 t459 t460 t461 t462 _ A3.out).mono ?_); rintro e w12 ⟨rfl, hb⟩; refine ⟨_, rfl, ?_⟩; have n0_ := Aside0.mk (blk_below (g := gb456) (o := .cells #[.int .u64 a0_0, .int .u64 a0_1] 65 (0, 0)) (by exact BK456.out) hb); have n1_ := Aside0.mk (blk_below (g := gb457) (o := .cells #[.int .u64 a1_0, .int .u64 a1_1] 65 (0, 0)) (by exact BK457.out) hb); have n2_ := Aside0.mk (blk_below (g := gb458) (o := .cells #[.int .u64 0, .int .u64 0] 65 (0, 0)) (by exact BK458.out) hb); have n3_ := Aside0.mk (below_step HB.out hb); clear BK456; clear BK457; clear BK458; clear HB; have BK456 := n0_; have BK457 := n1_; have BK458 := n2_; have HB := n3_; clear n0_ n1_ n2_ n3_; (try clear hb); (try clear hb2); (try clear hk); (try clear hi)) | ((with_reducible refine gate_dst (N := 5) rfl ?_); refine box_event ?hg (N := 5) ?hd (cs := #[.int .u64 0, .int .u64 0]) (t := 65) ?hr ?_; (case hd => rfl); (case hg => rfl); (case hr => first | (go_simp; done) | (go_simp; rfl)); intro gb463 hg w13 hbox hb; have n0_ := Aside0.mk (blk_below (g := gb456) (o := .cells #[.int .u64 a0_0, .int .u64 a0_1] 65 (0, 0)) (by exact BK456.out) hb); have n1_ := Aside0.mk (blk_below (g := gb457) (o := .cells #[.int .u64 a1_0, .int .u64 a1_1] 65 (0, 0)) (by exact BK457.out) hb); have n2_ := Aside0.mk (blk_below (g := gb458) (o := .cells #[.int .u64 0, .int .u64 0] 65 (0, 0)) (by exact BK458.out) hb); have n3_ := Aside0.mk (below_step HB.out hb); have n4_ := Aside0.mk (hbox); have n5_ := Aside0.mk ((by rw [hg]; exact (below_size HB.out) : w.heap.size ≤ gb463)); have n6_ := Aside0.mk ((by rw [hg]; exact (below_size HB.out) : w.heap.size ≤ gb463)); have n7_ := Aside0.mk ((by rw [hg]; exact Nat.ne_of_lt (blk_lt (g := gb456) (o := .cells #[.int .u64 a0_0, .int .u64 a0_1] 65 (0, 0)) (by exact BK456.out)) : gb456 ≠ gb463)); have n8_ := Aside0.mk ((by rw [hg]; exact Nat.ne_of_gt (blk_lt (g := gb456) (o := .cells #[.int .u64 a0_0, .int .u64 a0_1] 65 (0, 0)) (by exact BK456.out)) : gb463 ≠ gb456)); have n9_ := Aside0.mk ((by rw [hg]; exact Nat.ne_of_lt (blk_lt (g := gb457) (o := .cells #[.int .u64 a1_0, .int .u64 a1_1] 65 (0, 0)) (by exact BK457.out)) : gb457 ≠ gb463)); have n10_ := Aside0.mk ((by rw [hg]; exact Nat.ne_of_gt (blk_lt (g := gb457) (o := .cells #[.int .u64 a1_0, .int .u64 a1_1] 65 (0, 0)) (by exact BK457.out)) : gb463 ≠ gb457)); have n11_ := Aside0.mk ((by rw [hg]; exact Nat.ne_of_lt (blk_lt (g := gb458) (o := .cells #[.int .u64 0, .int .u64 0] 65 (0, 0)) (by exact BK458.out)) : gb458 ≠ gb463)); have n12_ := Aside0.mk ((by rw [hg]; exact Nat.ne_of_gt (blk_lt (g := gb458) (o := .cells #[.int .u64 0, .int .u64 0] 65 (0, 0)) (by exact BK458.out)) : gb463 ≠ gb458)); clear BK456; clear BK457; clear BK458; clear HB; have BK456 := n0_; have BK457 := n1_; have BK458 := n2_; have HB := n3_; have BK463 := n4_; have GW463 := n5_; have GE463 := n6_; have NB456_463 := n7_; have NB463_456 := n8_; have NB457_463 := n9_; have NB463_457 := n10_; have NB458_463 := n11_; have NB463_458 := n12_; clear n0_ n1_ n2_ n3_ n4_ n5_ n6_ n7_ n8_ n9_ n10_ n11_ n12_; clear hb hbox hg) | ((with_reducible refine gate_dst (N := 6) rfl ?_); refine box_event ?hg (N := 6) ?hd (cs := #[.int .u64 0, .int .u64 0]) (t := 65) ?hr ?_; (case hd => rfl); (case hg => rfl); (case hr => first | (go_simp; done) | (go_simp; rfl)); intro gb464 hg w14 hbox hb; have n0_ := Aside0.mk (blk_below (g := gb456) (o := .cells #[.int .u64 a0_0, .int .u64 a0_1] 65 (0, 0)) (by exact BK456.out) hb); have n1_ := Aside0.mk (blk_below (g := gb457) (o := .cells #[.int .u64 a1_0, .int .u64 a1_1] 65 (0, 0)) (by exact BK457.out) hb); have n2_ := Aside0.mk (blk_below (g := gb458) (o := .cells #[.int .u64 0, .int .u64 0] 65 (0, 0)) (by exact BK458.out) hb); have n3_ := Aside0.mk (blk_below (g := gb463) (o := .cells #[.int .u64 0, .int .u64 0] 65 (0, 0)) (by exact BK463.out) hb); have n4_ := Aside0.mk (below_step HB.out hb); have n5_ := Aside0.mk (hbox); have n6_ := Aside0.mk ((by rw [hg]; exact (below_size HB.out) : w.heap.size ≤ gb464)); have n7_ := Aside0.mk ((by rw [hg]; exact (below_size HB.out) : w.heap.size ≤ gb464)); have n8_ := Aside0.mk ((by rw [hg]; exact Nat.ne_of_lt (blk_lt (g := gb456) (o := .cells #[.int .u64 a0_0, .int .u64 a0_1] 65 (0, 0)) (by exact BK456.out)) : gb456 ≠ gb464)); have n9_ := Aside0.mk ((by rw [hg]; exact Nat.ne_of_gt (blk_lt (g := gb456) (o := .cells #[.int .u64 a0_0, .int .u64 a0_1] 65 (0, 0)) (by exact BK456.out)) : gb464 ≠ gb456)); have n10_ := Aside0.mk ((by rw [hg]; exact Nat.ne_of_lt (blk_lt (g := gb457) (o := .cells #[.int .u64 a1_0, .int .u64 a1_1] 65 (0, 0)) (by exact BK457.out)) : gb457 ≠ gb464)); have n11_ := Aside0.mk ((by rw [hg]; exact Nat.ne_of_gt (blk_lt (g := gb457) (o := .cells #[.int .u64 a1_0, .int .u64 a1_1] 65 (0, 0)) (by exact BK457.out)) : gb464 ≠ gb457)); have n12_ := Aside0.mk ((by rw [hg]; exact Nat.ne_of_lt (blk_lt (g := gb458) (o := .cells #[.int .u64 0, .int .u64 0] 65 (0, 0)) (by exact BK458.out)) : gb458 ≠ gb464)); have n13_ := Aside0.mk ((by rw [hg]; exact Nat.ne_of_gt (blk_lt (g := gb458) (o := .cells #[.int .u64 0, .int .u64 0] 65 (0, 0)) (by exact BK458.out)) : gb464 ≠ gb458)); have n14_ := Aside0.mk ((by rw [hg]; exact Nat.ne_of_lt (blk_lt (g := gb463) (o := .cells #[.int .u64 0, .int .u64 0] 65 (0, 0)) (by exact BK463.out)) : gb463 ≠ gb464)); have n15_ := Aside0.mk ((by rw [hg]; exact Nat.ne_of_gt (blk_lt (g := gb463) (o := .cells #[.int .u64 0, .int .u64 0] 65 (0, 0)) (by exact BK463.out)) : gb464 ≠ gb463)); clear BK456; clear BK457; clear BK458; clear BK463; clear HB; have BK456 := n0_; have BK457 := n1_; have BK458 := n2_; have BK463 := n3_; have HB := n4_; have BK464 := n5_; have GW464 := n6_; have GE464 := n7_; have NB456_464 := n8_; have NB464_456 := n9_; have NB457_464 := n10_; have NB464_457 := n11_; have NB458_464 := n12_; have NB464_458 := n13_; have NB463_464 := n14_; have NB464_463 := n15_; clear n0_ n1_ n2_ n3_ n4_ n5_ n6_ n7_ n8_ n9_ n10_ n11_ n12_ n13_ n14_ n15_; clear hb hbox hg; have hnb15 := NB463_456.out; have hnc15 := NB456_463.out; have hnb16 := NB463_457.out; have hnc16 := NB457_463.out; have hnb17 := NB463_458.out; have hnc17 := NB458_463.out; have hnb18 := NB463_464.out; have hnc18 := NB464_463.out; have hcz19_0 : w14.cell? ⟨gb463, 0, none⟩ = some (.int .u64 0) := (blk_cell BK463.out 0).trans rfl; have hcz19_1 : w14.cell? ⟨gb463, 1, none⟩ = some (.int .u64 0) := (blk_cell BK463.out 1).trans rfl; have hfz19_0 := blk_frozen BK463.out 0; have hfz19_1 := blk_frozen BK463.out 1; have hnb20 := NB464_456.out; have hnc20 := NB456_464.out; have hnb21 := NB464_457.out; have hnc21 := NB457_464.out; have hnb22 := NB464_458.out; have hnc22 := NB458_464.out; have hcz23_0 : w14.cell? ⟨gb464, 0, none⟩ = some (.int .u64 0) := (blk_cell BK464.out 0).trans rfl; have hcz23_1 : w14.cell? ⟨gb464, 1, none⟩ = some (.int .u64 0) := (blk_cell BK464.out 1).trans rfl; have hfz23_0 := blk_frozen BK464.out 0; have hfz23_1 := blk_frozen BK464.out 1; have hcz24_0 : w14.cell? ⟨gb458, 0, none⟩ = some (.int .u64 0) := (blk_cell BK458.out 0).trans rfl; have hcz24_1 : w14.cell? ⟨gb458, 1, none⟩ = some (.int .u64 0) := (blk_cell BK458.out 1).trans rfl; have hfz24_0 := blk_frozen BK458.out 0; have hfz24_1 := blk_frozen BK458.out 1))
  refine bodyPost_ret (results_cell_row rfl _ _ gb458 65 #[.int .u64 t459, .int .u64 t460] (0, 0) _ rfl (by (with_reducible repeat (first | refine blk_drewN ?_ _ | refine blk_drew ?_ | refine blk_alloc ?_ _)); refine blk_put (cs := #[.int .u64 t459, .int .u64 0]) ?_ 1 _ rfl; (with_reducible repeat (first | refine blk_drewN ?_ _ | refine blk_drew ?_ | refine blk_alloc ?_ _)); refine blk_put (cs := #[.int .u64 0, .int .u64 0]) ?_ 0 _ rfl; (with_reducible repeat (first | refine blk_drewN ?_ _ | refine blk_drew ?_ | refine blk_alloc ?_ _)); refine blk_far ?_ NB458_464.out _; (with_reducible repeat (first | refine blk_drewN ?_ _ | refine blk_drew ?_ | refine blk_alloc ?_ _)); refine blk_far ?_ NB458_464.out _; (with_reducible repeat (first | refine blk_drewN ?_ _ | refine blk_drew ?_ | refine blk_alloc ?_ _)); refine blk_far ?_ NB458_463.out _; (with_reducible repeat (first | refine blk_drewN ?_ _ | refine blk_drew ?_ | refine blk_alloc ?_ _)); refine blk_far ?_ NB458_463.out _; (with_reducible repeat (first | refine blk_drewN ?_ _ | refine blk_drew ?_ | refine blk_alloc ?_ _)); exact BK458.out) Tryd.underlying65 rfl (by kernel_rfl)) rfl ?_
  exact ⟨by first | rfl | (simp [errW_none, errW_some] <;> rfl) | (simp [*, errW_none, errW_some] <;> rfl), by repeat (first | (with_reducible first | exact HB.out | apply below_alloc | apply pw_below_drewN | apply below_drew1 | refine below_set ?_ GE456.out | refine below_set ?_ GE457.out | refine below_set ?_ GE458.out | refine below_set ?_ GE463.out | refine below_set ?_ GE464.out) | exact HB.out)⟩
set_option maxHeartbeats 1000000 in
set_option maxRecDepth 100000 in
theorem uint128_Uint128_Div.panics (a b c d : Int) (w : World) (hb : decide (b < 0) = false) (hc : c = 0) (hd : d = 0) (HZ : GlobE w) :
    Calls Tryd.prog 66 #[.agg #[.int .u64 a, .int .u64 b], .agg #[.int .u64 c, .int .u64 d]] w fun e w' => (∃ pv, e = .panicked [{ v := .iface 104 pv, recovered := false }]) ∧ Below w.heap.size w w' := by
  subst hc hd
  have HE := Lib.hid HZ
  have HBB := Lib.hid hb
  clear HZ hb
  go_enter Tryd.func66, Tryd.ntmps66
  go_wp2_with fail
  have B0 : Below w.heap.size w (((w.alloc (.cells #[.int .u64 a, .int .u64 b] 65)).alloc (.cells #[.int .u64 0, .int .u64 0] 65)).alloc (.cells #[.int .u64 0, .int .u64 0] 65)) := (((Below.refl w.heap.size w).alloc (Nat.le_refl _) _).alloc (by simp) _).alloc (by simp; omega) _
  refine (QuoRem_panics a b _ HBB.out (GlobE.below HE.out B0)).mono ?_
  rintro e W2 ⟨⟨pv, rfl⟩, hb2⟩
  exact ⟨rfl, ⟨_, rfl⟩, B0.trans (hb2.mono B0.size)⟩
/-! ### impl_WideDiv: function 33 -/
set_option maxHeartbeats 1000000 in
set_option maxRecDepth 100000 in
theorem tried_panics_e (fid : Nat) (caps : Array Value) (w : World)
    (hcf : ∀ (args : Array Value) (w : World), (callFunc fid args).run Tryd.prog w = .ok (.enter fid args) w)
    (hcl : Hid (∀ W : World, Below w.heap.size w W → Calls Tryd.prog fid caps W fun e W' => (∃ pv, e = .panicked [{ v := .iface 104 pv, recovered := false }]) ∧ Below W.heap.size W W')) :
    Calls Tryd.prog 55 #[.func (.func fid) #[] caps] w fun e w' => e = .returned (.tuple #[.agg #[.int .u64 0, .int .u64 0], .bool false]) ∧ Below w.heap.size w w' := by
  have hmf : ∀ (fn : Fn) (first cap : Array Value) (w : World), (Instr.makeFunc fn first cap).run Tryd.prog w = .ok (.func fn first cap) w := fun _ _ _ _ => rfl
  go_enter_defers Tryd.func55, Tryd.ntmps55
  go_wp2_with fail
  refine (hcl.out _ (((Below.refl w.heap.size w).alloc (Nat.le_refl _) _).alloc (by simp) _)).mono ?_
  rintro e w1 ⟨⟨pv, rfl⟩, hb⟩
  have g0 : w1.heap[w.heap.size]? = some (.cells #[.int .u64 0, .int .u64 0] 24 (0, 0)) := (hb.block _ (by simp; omega)).trans (blk_alloc (MapKept.heap_alloc w _).1 _)
  have g1 : w1.heap[w.heap.size + 1]? = some (.cells #[.bool false] 4 (0, 0)) := (hb.block _ (by simp)).trans (by have := (MapKept.heap_alloc (w.alloc (Obj.cells #[Value.int IntKind.u64 0, Value.int IntKind.u64 0] 24)) (Obj.cells #[Value.bool false] 4)).1; simpa using this)
  have B : Below w.heap.size w w1 := (((Below.refl w.heap.size w).alloc (Nat.le_refl _) _).alloc (by simp) _).trans (hb.mono (by simp; omega))
  refine leaves_cons (f := 105) (args := #[.pointer (some ⟨w.heap.size, 0, none⟩), .pointer (some ⟨w.heap.size + 1, 0, none⟩)]) (by simp) (by simp [go_sem]) ?_
  refine (tried_catch w.heap.size 0 0 false 104 pv [] w1 g0 g1).mono ?_
  rintro e u' w2 ⟨rfl, rfl, k0, k1, hb2⟩
  refine ⟨.tuple #[.agg #[.int .u64 0, .int .u64 0], .bool false], ?_, rfl, B.trans hb2⟩
  have d0 := (blk_cell k0 0).trans (show _ = some (.int .u64 0) from rfl)
  have d1 := (blk_cell k0 1).trans (show _ = some (.int .u64 0) from rfl)
  have d2 := (blk_cell k1 0).trans (show _ = some (.bool false) from rfl)
  clear k0 k1
  simp [results, Tryd.results55, go_sem, d0, d1, d2]
set_option maxHeartbeats 1000000 in
set_option maxRecDepth 100000 in
theorem WideDiv_1ret (k : Nat) (a b c d : Int) (r1 r2 : Int) (p q : Nat) (w : World) (h : uint128_Uint128_Div.f k a b c d = some (r1, r2)) (lp : p < w.heap.size) (lq : q < w.heap.size)
    (p0 : w.cell? ⟨p, 0, none⟩ = some (.int .u64 a)) (p1 : w.cell? ⟨p, 1, none⟩ = some (.int .u64 b)) (q0 : w.cell? ⟨q, 0, none⟩ = some (.int .u64 c)) (q1 : w.cell? ⟨q, 1, none⟩ = some (.int .u64 d)) :
    Calls Tryd.prog 65 #[.pointer (some ⟨p, 0, none⟩), .pointer (some ⟨q, 0, none⟩)] w fun e w' => e = .returned (.agg #[.int .u64 r1, .int .u64 r2]) ∧ Below w.heap.size w w' := by
  have HH := Lib.hid h
  clear h
  go_enter Tryd.func65, Tryd.ntmps65
  go_wp2_with fail
  obtain ⟨w0, w1, f0, f1, lz, BB⟩ := alloc2_facts w 24 (.int .u64 0) (.int .u64 0)
  replace p0 := (BB.cell (p := ⟨p, 0, none⟩) (by exact lp)).trans p0
  replace p1 := (BB.cell (p := ⟨p, 1, none⟩) (by exact lp)).trans p1
  replace q0 := (BB.cell (p := ⟨q, 0, none⟩) (by exact lq)).trans q0
  replace q1 := (BB.cell (p := ⟨q, 1, none⟩) (by exact lq)).trans q1
  generalize w.alloc (.cells #[.int .u64 0, .int .u64 0] 24) = W0 at *
  refine start_ (n := 7) (S := fun w' => w'.cell? ⟨p, 0, none⟩ = some (.int .u64 a) ∧ w'.cell? ⟨p, 1, none⟩ = some (.int .u64 b) ∧ w'.cell? ⟨q, 0, none⟩ = some (.int .u64 c) ∧ w'.cell? ⟨q, 1, none⟩ = some (.int .u64 d)) (ds := []) #[false, false, false, false, false, false, false] (by kernel_rfl) rfl rfl ⟨p0, p1, q0, q1⟩ (fun hHeld => ?_)
  replace BB := BB.drew
  replace p0 : W0.drew.cell? ⟨p, 0, none⟩ = some (.int .u64 a) := p0
  replace p1 : W0.drew.cell? ⟨p, 1, none⟩ = some (.int .u64 b) := p1
  replace q0 : W0.drew.cell? ⟨q, 0, none⟩ = some (.int .u64 c) := q0
  replace q1 : W0.drew.cell? ⟨q, 1, none⟩ = some (.int .u64 d) := q1
  replace w0 : W0.drew.cell? ⟨w.heap.size, 0, none⟩ = some (.int .u64 0) := w0
  replace w1 : W0.drew.cell? ⟨w.heap.size, 1, none⟩ = some (.int .u64 0) := w1
  replace f0 : W0.drew.frozen? ⟨w.heap.size, 0, none⟩ = false := f0
  replace f1 : W0.drew.frozen? ⟨w.heap.size, 1, none⟩ = false := f1
  replace lz : w.heap.size < W0.drew.heap.size := lz
  generalize W0.drew = W1 at BB p0 p1 q0 q1 w0 w1 f0 f1 lz hHeld ⊢
  refine take_ (i := 0) (N := some 3) (v := ?_) (a' := ?_) #[true, false, false, false, false, false, false] rfl rfl (by kernel_rfl) (fun _ _ _ h => h) (Or.inl ⟨by rfl, ?_⟩) hHeld ?_ ?_
  rotate_left
  · rintro w' ⟨s0, s1, s2, s3⟩
    go_simp
    with_reducible rfl
  rotate_left
  · simp only [Act.put, List.setIfInBounds_toArray, List.set_cons_zero, List.set_cons_succ, i64_w, i32_w]
    rfl
  refine take_ (i := 2) (N := some 5) (v := ?_) (a' := ?_) #[true, false, true, false, false, false, false] rfl rfl (by kernel_rfl) (fun _ _ _ h => h) (Or.inl ⟨by rfl, ?_⟩) hHeld ?_ ?_
  rotate_left
  · rintro w' ⟨s0, s1, s2, s3⟩
    go_simp
    with_reducible rfl
  rotate_left
  · simp only [Act.put, List.setIfInBounds_toArray, List.set_cons_zero, List.set_cons_succ, i64_w, i32_w]
    rfl
  refine one_ (i := 1) (N := some 4) #[true, true, true, false, false, false, false] rfl rfl (by kernel_rfl) (by decide) (fun K hK => ?_)
  refine goes_ Tryd.func46 (by kernel_rfl) rfl #[.agg #[.int .u64 a, .int .u64 b]] (by rfl) rfl rfl (by (try simp only [List.map_toArray, List.map_cons, List.map_nil]); first | done | rfl) ?_
  refine (impl_Wide_u.calls a b a b _ rfl).mono ?_
  rintro e W2 ⟨rfl, hb⟩
  refine ⟨_, rfl, ?_⟩
  replace p0 := (hb.cell (p := ⟨p, 0, none⟩) (Nat.lt_trans lp lz)).trans p0
  replace p1 := (hb.cell (p := ⟨p, 1, none⟩) (Nat.lt_trans lp lz)).trans p1
  replace q0 := (hb.cell (p := ⟨q, 0, none⟩) (Nat.lt_trans lq lz)).trans q0
  replace q1 := (hb.cell (p := ⟨q, 1, none⟩) (Nat.lt_trans lq lz)).trans q1
  replace w0 := (hb.cell (p := ⟨w.heap.size, 0, none⟩) lz).trans w0
  replace w1 := (hb.cell (p := ⟨w.heap.size, 1, none⟩) lz).trans w1
  replace f0 := (hb.frozen (p := ⟨w.heap.size, 0, none⟩) lz).trans f0
  replace f1 := (hb.frozen (p := ⟨w.heap.size, 1, none⟩) lz).trans f1
  replace BB := BB.trans (hb.mono (Nat.le_of_lt lz))
  replace lz := Nat.lt_of_lt_of_le lz hb.size
  clear hb
  refine hK.out _ _ ⟨p0, p1, q0, q1⟩ (fun hHeld => ?_)
  clear hK K
  refine norm_ (a' := ?_) ?_ ?_
  rotate_left
  · show Act.put _ (some 4) _ = _
    simp only [Act.put, List.setIfInBounds_toArray, List.set_cons_zero, List.set_cons_succ, i64_w, i32_w]
    rfl
  refine one_ (i := 3) (N := some 6) #[true, true, true, true, false, false, false] rfl rfl (by kernel_rfl) (by decide) (fun K hK => ?_)
  refine goes_ Tryd.func46 (by kernel_rfl) rfl #[.agg #[.int .u64 c, .int .u64 d]] (by rfl) rfl rfl (by (try simp only [List.map_toArray, List.map_cons, List.map_nil]); first | done | rfl) ?_
  refine (impl_Wide_u.calls c d c d _ rfl).mono ?_
  rintro e W2 ⟨rfl, hb⟩
  refine ⟨_, rfl, ?_⟩
  replace p0 := (hb.cell (p := ⟨p, 0, none⟩) (Nat.lt_trans lp lz)).trans p0
  replace p1 := (hb.cell (p := ⟨p, 1, none⟩) (Nat.lt_trans lp lz)).trans p1
  replace q0 := (hb.cell (p := ⟨q, 0, none⟩) (Nat.lt_trans lq lz)).trans q0
  replace q1 := (hb.cell (p := ⟨q, 1, none⟩) (Nat.lt_trans lq lz)).trans q1
  replace w0 := (hb.cell (p := ⟨w.heap.size, 0, none⟩) lz).trans w0
  replace w1 := (hb.cell (p := ⟨w.heap.size, 1, none⟩) lz).trans w1
  replace f0 := (hb.frozen (p := ⟨w.heap.size, 0, none⟩) lz).trans f0
  replace f1 := (hb.frozen (p := ⟨w.heap.size, 1, none⟩) lz).trans f1
  replace BB := BB.trans (hb.mono (Nat.le_of_lt lz))
  replace lz := Nat.lt_of_lt_of_le lz hb.size
  clear hb
  refine hK.out _ _ ⟨p0, p1, q0, q1⟩ (fun hHeld => ?_)
  clear hK K
  refine norm_ (a' := ?_) ?_ ?_
  rotate_left
  · show Act.put _ (some 6) _ = _
    simp only [Act.put, List.setIfInBounds_toArray, List.set_cons_zero, List.set_cons_succ, i64_w, i32_w]
    rfl
  refine one_ (i := 4) (N := some 7) #[true, true, true, true, true, false, false] rfl rfl (by kernel_rfl) (by decide) (fun K hK => ?_)
  refine goes_ Tryd.func66 (by kernel_rfl) rfl #[.agg #[.int .u64 a, .int .u64 b], .agg #[.int .u64 c, .int .u64 d]] (by rfl) rfl rfl (by (try simp only [List.map_toArray, List.map_cons, List.map_nil]); first | done | rfl) ?_
  refine (uint128_Uint128_Div.calls k a b c d r1 r2 _ HH.out).mono ?_
  rintro e W2 ⟨rfl, hb⟩
  refine ⟨_, rfl, ?_⟩
  replace p0 := (hb.cell (p := ⟨p, 0, none⟩) (Nat.lt_trans lp lz)).trans p0
  replace p1 := (hb.cell (p := ⟨p, 1, none⟩) (Nat.lt_trans lp lz)).trans p1
  replace q0 := (hb.cell (p := ⟨q, 0, none⟩) (Nat.lt_trans lq lz)).trans q0
  replace q1 := (hb.cell (p := ⟨q, 1, none⟩) (Nat.lt_trans lq lz)).trans q1
  replace w0 := (hb.cell (p := ⟨w.heap.size, 0, none⟩) lz).trans w0
  replace w1 := (hb.cell (p := ⟨w.heap.size, 1, none⟩) lz).trans w1
  replace f0 := (hb.frozen (p := ⟨w.heap.size, 0, none⟩) lz).trans f0
  replace f1 := (hb.frozen (p := ⟨w.heap.size, 1, none⟩) lz).trans f1
  replace BB := BB.trans (hb.mono (Nat.le_of_lt lz))
  replace lz := Nat.lt_of_lt_of_le lz hb.size
  clear hb
  refine hK.out _ _ ⟨p0, p1, q0, q1⟩ (fun hHeld => ?_)
  clear hK K
  refine norm_ (a' := ?_) ?_ ?_
  rotate_left
  · show Act.put _ (some 7) _ = _
    simp only [Act.put, List.setIfInBounds_toArray, List.set_cons_zero, List.set_cons_succ, i64_w, i32_w]
    rfl
  refine one_ (i := 5) (N := some 8) #[true, true, true, true, true, true, false] rfl rfl (by kernel_rfl) (by decide) (fun K hK => ?_)
  refine goes_ Tryd.func40 (by kernel_rfl) rfl #[.agg #[.int .u64 r1, .int .u64 r2]] (by rfl) rfl rfl (by (try simp only [List.map_toArray, List.map_cons, List.map_nil]); first | done | rfl) ?_
  refine (impl_wide.calls r1 r2 r1 r2 _ rfl).mono ?_
  rintro e W2 ⟨rfl, hb⟩
  refine ⟨_, rfl, ?_⟩
  replace p0 := (hb.cell (p := ⟨p, 0, none⟩) (Nat.lt_trans lp lz)).trans p0
  replace p1 := (hb.cell (p := ⟨p, 1, none⟩) (Nat.lt_trans lp lz)).trans p1
  replace q0 := (hb.cell (p := ⟨q, 0, none⟩) (Nat.lt_trans lq lz)).trans q0
  replace q1 := (hb.cell (p := ⟨q, 1, none⟩) (Nat.lt_trans lq lz)).trans q1
  replace w0 := (hb.cell (p := ⟨w.heap.size, 0, none⟩) lz).trans w0
  replace w1 := (hb.cell (p := ⟨w.heap.size, 1, none⟩) lz).trans w1
  replace f0 := (hb.frozen (p := ⟨w.heap.size, 0, none⟩) lz).trans f0
  replace f1 := (hb.frozen (p := ⟨w.heap.size, 1, none⟩) lz).trans f1
  replace BB := BB.trans (hb.mono (Nat.le_of_lt lz))
  replace lz := Nat.lt_of_lt_of_le lz hb.size
  clear hb
  refine hK.out _ _ ⟨p0, p1, q0, q1⟩ (fun hHeld => ?_)
  clear hK K
  refine norm_ (a' := ?_) ?_ ?_
  rotate_left
  · show Act.put _ (some 8) _ = _
    simp only [Act.put, List.setIfInBounds_toArray, List.set_cons_zero, List.set_cons_succ, i64_w, i32_w]
    rfl
  refine one_ (i := 6) (N := none) #[true, true, true, true, true, true, true] rfl rfl (by kernel_rfl) (by decide) (fun K hK => ?_)
  refine skip_ (w1 := ?_) (by rfl) rfl ?_ ?_
  rotate_left
  · go_simp
    rfl
  refine hK.out _ _ ⟨(cell_far (p := ⟨w.heap.size, 1, none⟩) (by exact Nat.ne_of_lt lp) _).trans ((cell_far (p := ⟨w.heap.size, 0, none⟩) (by exact Nat.ne_of_lt lp) _).trans p0), (cell_far (p := ⟨w.heap.size, 1, none⟩) (by exact Nat.ne_of_lt lp) _).trans ((cell_far (p := ⟨w.heap.size, 0, none⟩) (by exact Nat.ne_of_lt lp) _).trans p1), (cell_far (p := ⟨w.heap.size, 1, none⟩) (by exact Nat.ne_of_lt lq) _).trans ((cell_far (p := ⟨w.heap.size, 0, none⟩) (by exact Nat.ne_of_lt lq) _).trans q0), (cell_far (p := ⟨w.heap.size, 1, none⟩) (by exact Nat.ne_of_lt lq) _).trans ((cell_far (p := ⟨w.heap.size, 0, none⟩) (by exact Nat.ne_of_lt lq) _).trans q1)⟩ (fun hHeld => ?_)
  clear hK K
  refine done_ (by kernel_rfl) ?_
  go_wp2
  refine bodyPost_ret (v := .agg #[.int .u64 r1, .int .u64 r2]) (by simp [results, Tryd.results65, go_sem, w0, w1]) rfl ⟨rfl, (BB.setCell (p := ⟨w.heap.size, 0, none⟩) (Nat.le_refl _) _).setCell (p := ⟨w.heap.size, 1, none⟩) (Nat.le_refl _) _⟩
set_option maxHeartbeats 1000000 in
set_option maxRecDepth 100000 in
theorem WideDiv_1pan (a b c d : Int) (p q : Nat) (w : World) (hu : decide (b < 0) = false) (hc0 : c = 0) (hd0 : d = 0) (h : GlobE w) (lp : p < w.heap.size) (lq : q < w.heap.size)
    (p0 : w.cell? ⟨p, 0, none⟩ = some (.int .u64 a)) (p1 : w.cell? ⟨p, 1, none⟩ = some (.int .u64 b)) (q0 : w.cell? ⟨q, 0, none⟩ = some (.int .u64 c)) (q1 : w.cell? ⟨q, 1, none⟩ = some (.int .u64 d)) :
    Calls Tryd.prog 65 #[.pointer (some ⟨p, 0, none⟩), .pointer (some ⟨q, 0, none⟩)] w fun e w' => (∃ pv, e = .panicked [{ v := .iface 104 pv, recovered := false }]) ∧ Below w.heap.size w w' := by
  have HH := Lib.hid hu
  have HN := Lib.hid h
  have HC := Lib.hid hc0
  have HD := Lib.hid hd0
  clear hu h hc0 hd0
  go_enter Tryd.func65, Tryd.ntmps65
  go_wp2_with fail
  obtain ⟨w0, w1, f0, f1, lz, BB⟩ := alloc2_facts w 24 (.int .u64 0) (.int .u64 0)
  replace p0 := (BB.cell (p := ⟨p, 0, none⟩) (by exact lp)).trans p0
  replace p1 := (BB.cell (p := ⟨p, 1, none⟩) (by exact lp)).trans p1
  replace q0 := (BB.cell (p := ⟨q, 0, none⟩) (by exact lq)).trans q0
  replace q1 := (BB.cell (p := ⟨q, 1, none⟩) (by exact lq)).trans q1
  generalize w.alloc (.cells #[.int .u64 0, .int .u64 0] 24) = W0 at *
  refine start_ (n := 7) (S := fun w' => w'.cell? ⟨p, 0, none⟩ = some (.int .u64 a) ∧ w'.cell? ⟨p, 1, none⟩ = some (.int .u64 b) ∧ w'.cell? ⟨q, 0, none⟩ = some (.int .u64 c) ∧ w'.cell? ⟨q, 1, none⟩ = some (.int .u64 d)) (ds := []) #[false, false, false, false, false, false, false] (by kernel_rfl) rfl rfl ⟨p0, p1, q0, q1⟩ (fun hHeld => ?_)
  replace BB := BB.drew
  replace p0 : W0.drew.cell? ⟨p, 0, none⟩ = some (.int .u64 a) := p0
  replace p1 : W0.drew.cell? ⟨p, 1, none⟩ = some (.int .u64 b) := p1
  replace q0 : W0.drew.cell? ⟨q, 0, none⟩ = some (.int .u64 c) := q0
  replace q1 : W0.drew.cell? ⟨q, 1, none⟩ = some (.int .u64 d) := q1
  replace w0 : W0.drew.cell? ⟨w.heap.size, 0, none⟩ = some (.int .u64 0) := w0
  replace w1 : W0.drew.cell? ⟨w.heap.size, 1, none⟩ = some (.int .u64 0) := w1
  replace f0 : W0.drew.frozen? ⟨w.heap.size, 0, none⟩ = false := f0
  replace f1 : W0.drew.frozen? ⟨w.heap.size, 1, none⟩ = false := f1
  replace lz : w.heap.size < W0.drew.heap.size := lz
  generalize W0.drew = W1 at BB p0 p1 q0 q1 w0 w1 f0 f1 lz hHeld ⊢
  refine take_ (i := 0) (N := some 3) (v := ?_) (a' := ?_) #[true, false, false, false, false, false, false] rfl rfl (by kernel_rfl) (fun _ _ _ h => h) (Or.inl ⟨by rfl, ?_⟩) hHeld ?_ ?_
  rotate_left
  · rintro w' ⟨s0, s1, s2, s3⟩
    go_simp
    with_reducible rfl
  rotate_left
  · simp only [Act.put, List.setIfInBounds_toArray, List.set_cons_zero, List.set_cons_succ, i64_w, i32_w]
    rfl
  refine take_ (i := 2) (N := some 5) (v := ?_) (a' := ?_) #[true, false, true, false, false, false, false] rfl rfl (by kernel_rfl) (fun _ _ _ h => h) (Or.inl ⟨by rfl, ?_⟩) hHeld ?_ ?_
  rotate_left
  · rintro w' ⟨s0, s1, s2, s3⟩
    go_simp
    with_reducible rfl
  rotate_left
  · simp only [Act.put, List.setIfInBounds_toArray, List.set_cons_zero, List.set_cons_succ, i64_w, i32_w]
    rfl
  refine one_ (i := 1) (N := some 4) #[true, true, true, false, false, false, false] rfl rfl (by kernel_rfl) (by decide) (fun K hK => ?_)
  refine goes_ Tryd.func46 (by kernel_rfl) rfl #[.agg #[.int .u64 a, .int .u64 b]] (by rfl) rfl rfl (by (try simp only [List.map_toArray, List.map_cons, List.map_nil]); first | done | rfl) ?_
  refine (impl_Wide_u.calls a b a b _ rfl).mono ?_
  rintro e W2 ⟨rfl, hb⟩
  refine ⟨_, rfl, ?_⟩
  replace p0 := (hb.cell (p := ⟨p, 0, none⟩) (Nat.lt_trans lp lz)).trans p0
  replace p1 := (hb.cell (p := ⟨p, 1, none⟩) (Nat.lt_trans lp lz)).trans p1
  replace q0 := (hb.cell (p := ⟨q, 0, none⟩) (Nat.lt_trans lq lz)).trans q0
  replace q1 := (hb.cell (p := ⟨q, 1, none⟩) (Nat.lt_trans lq lz)).trans q1
  replace w0 := (hb.cell (p := ⟨w.heap.size, 0, none⟩) lz).trans w0
  replace w1 := (hb.cell (p := ⟨w.heap.size, 1, none⟩) lz).trans w1
  replace f0 := (hb.frozen (p := ⟨w.heap.size, 0, none⟩) lz).trans f0
  replace f1 := (hb.frozen (p := ⟨w.heap.size, 1, none⟩) lz).trans f1
  replace BB := BB.trans (hb.mono (Nat.le_of_lt lz))
  replace lz := Nat.lt_of_lt_of_le lz hb.size
  clear hb
  refine hK.out _ _ ⟨p0, p1, q0, q1⟩ (fun hHeld => ?_)
  clear hK K
  refine norm_ (a' := ?_) ?_ ?_
  rotate_left
  · show Act.put _ (some 4) _ = _
    simp only [Act.put, List.setIfInBounds_toArray, List.set_cons_zero, List.set_cons_succ, i64_w, i32_w]
    rfl
  refine one_ (i := 3) (N := some 6) #[true, true, true, true, false, false, false] rfl rfl (by kernel_rfl) (by decide) (fun K hK => ?_)
  refine goes_ Tryd.func46 (by kernel_rfl) rfl #[.agg #[.int .u64 c, .int .u64 d]] (by rfl) rfl rfl (by (try simp only [List.map_toArray, List.map_cons, List.map_nil]); first | done | rfl) ?_
  refine (impl_Wide_u.calls c d c d _ rfl).mono ?_
  rintro e W2 ⟨rfl, hb⟩
  refine ⟨_, rfl, ?_⟩
  replace p0 := (hb.cell (p := ⟨p, 0, none⟩) (Nat.lt_trans lp lz)).trans p0
  replace p1 := (hb.cell (p := ⟨p, 1, none⟩) (Nat.lt_trans lp lz)).trans p1
  replace q0 := (hb.cell (p := ⟨q, 0, none⟩) (Nat.lt_trans lq lz)).trans q0
  replace q1 := (hb.cell (p := ⟨q, 1, none⟩) (Nat.lt_trans lq lz)).trans q1
  replace w0 := (hb.cell (p := ⟨w.heap.size, 0, none⟩) lz).trans w0
  replace w1 := (hb.cell (p := ⟨w.heap.size, 1, none⟩) lz).trans w1
  replace f0 := (hb.frozen (p := ⟨w.heap.size, 0, none⟩) lz).trans f0
  replace f1 := (hb.frozen (p := ⟨w.heap.size, 1, none⟩) lz).trans f1
  replace BB := BB.trans (hb.mono (Nat.le_of_lt lz))
  replace lz := Nat.lt_of_lt_of_le lz hb.size
  clear hb
  refine hK.out _ _ ⟨p0, p1, q0, q1⟩ (fun hHeld => ?_)
  clear hK K
  refine norm_ (a' := ?_) ?_ ?_
  rotate_left
  · show Act.put _ (some 6) _ = _
    simp only [Act.put, List.setIfInBounds_toArray, List.set_cons_zero, List.set_cons_succ, i64_w, i32_w]
    rfl
  refine one_ (i := 4) (N := some 7) #[true, true, true, true, true, false, false] rfl rfl (by kernel_rfl) (by decide) (fun K hK => ?_)
  refine pgoes_ Tryd.func66 (by kernel_rfl) rfl #[.agg #[.int .u64 a, .int .u64 b], .agg #[.int .u64 c, .int .u64 d]] (by rfl) rfl (by (try simp only [List.map_toArray, List.map_cons, List.map_nil]); first | done | rfl) ?_
  refine (uint128_Uint128_Div.panics a b c d _ HH.out HC.out HD.out (GlobE.below HN.out BB)).mono ?_
  rintro e W2 ⟨⟨pv, rfl⟩, hb⟩
  exact ⟨_, rfl, rfl, ⟨_, rfl⟩, BB.trans (hb.mono (Nat.le_of_lt lz))⟩
def impl_WideDiv.f (k : Nat) (a0_0 a0_1 a1_0 a1_1 : Int) : Option (Int × Int × Bool) :=
  if a1_0 = 0 ∧ a1_1 = 0 then (if 0 ≤ a0_1 then some (0, 0, false) else none) else (uint128_Uint128_Div.f k a0_0 a0_1 a1_0 a1_1).bind fun r => some (r.1, r.2, true)
theorem impl_WideDiv.mono : ∀ a0 a1 a2 a3 k, LeO (impl_WideDiv.f k a0 a1 a2 a3) (impl_WideDiv.f (k + 1) a0 a1 a2 a3) := by
  intro a0 a1 a2 a3 k
  unfold impl_WideDiv.f
  split
  · exact LeO.refl _
  · exact LeO.bind (uint128_Uint128_Div.mono a0 a1 a2 a3 k) (fun _ => LeO.refl _)
set_option maxHeartbeats 1000000 in
set_option maxRecDepth 100000 in
theorem impl_WideDiv.calls (k : Nat) (a0_0 : Int) (a0_1 : Int) (a1_0 : Int) (a1_1 : Int) (r1 : Int) (r2 : Int) (r3 : Bool) (w : World) (h : impl_WideDiv.f k a0_0 a0_1 a1_0 a1_1 = some (r1, r2, r3)) (HZ : GlobE w) :
    Calls Tryd.prog 33 #[.agg #[.int .u64 a0_0, .int .u64 a0_1], .agg #[.int .u64 a1_0, .int .u64 a1_1]] w fun e w' => e = .returned (.tuple #[.agg #[.int .u64 r1, .int .u64 r2], .bool r3]) ∧ Below w.heap.size w w' := by
  have hmf : ∀ (fn : Fn) (first cap : Array Value) (w : World), (Instr.makeFunc fn first cap).run Tryd.prog w = .ok (.func fn first cap) w := fun _ _ _ _ => rfl
  have key : Calls Tryd.prog 55 #[.func (.func 65) #[] #[.pointer (some ⟨w.heap.size, 0, none⟩), .pointer (some ⟨w.heap.size + 1, 0, none⟩)]] (((w.alloc (.cells #[.int .u64 a0_0, .int .u64 a0_1] 24)).alloc (.cells #[.int .u64 a1_0, .int .u64 a1_1] 24)).alloc (.cells #[.int .u64 0, .int .u64 0] 24)) fun e w' =>
      e = .returned (.tuple #[.agg #[.int .u64 r1, .int .u64 r2], .bool r3]) ∧ Below (((w.alloc (.cells #[.int .u64 a0_0, .int .u64 a0_1] 24)).alloc (.cells #[.int .u64 a1_0, .int .u64 a1_1] 24)).alloc (.cells #[.int .u64 0, .int .u64 0] 24)).heap.size (((w.alloc (.cells #[.int .u64 a0_0, .int .u64 a0_1] 24)).alloc (.cells #[.int .u64 a1_0, .int .u64 a1_1] 24)).alloc (.cells #[.int .u64 0, .int .u64 0] 24)) w' := by
    have c0 : ∀ W : World, Below (((w.alloc (.cells #[.int .u64 a0_0, .int .u64 a0_1] 24)).alloc (.cells #[.int .u64 a1_0, .int .u64 a1_1] 24)).alloc (.cells #[.int .u64 0, .int .u64 0] 24)).heap.size (((w.alloc (.cells #[.int .u64 a0_0, .int .u64 a0_1] 24)).alloc (.cells #[.int .u64 a1_0, .int .u64 a1_1] 24)).alloc (.cells #[.int .u64 0, .int .u64 0] 24)) W → W.heap[w.heap.size]? = some (.cells #[.int .u64 a0_0, .int .u64 a0_1] 24) ∧ W.heap[w.heap.size + 1]? = some (.cells #[.int .u64 a1_0, .int .u64 a1_1] 24) ∧ w.heap.size + 1 < W.heap.size := by
      intro W hW
      have hs := hW.size
      simp only [World.size_alloc] at hs
      refine ⟨(hW.block _ (by simp only [World.size_alloc]; omega)).trans (blk_alloc (blk_alloc (MapKept.heap_alloc w _).1 _) _), (hW.block _ (by simp only [World.size_alloc]; omega)).trans (blk_alloc ?_ _), by omega⟩
      have := (MapKept.heap_alloc (w.alloc (.cells #[.int .u64 a0_0, .int .u64 a0_1] 24)) (.cells #[.int .u64 a1_0, .int .u64 a1_1] 24)).1
      rw [World.size_alloc] at this
      exact this
    have B3 : Below w.heap.size w (((w.alloc (.cells #[.int .u64 a0_0, .int .u64 a0_1] 24)).alloc (.cells #[.int .u64 a1_0, .int .u64 a1_1] 24)).alloc (.cells #[.int .u64 0, .int .u64 0] 24)) := (((Below.refl w.heap.size w).alloc (Nat.le_refl _) _).alloc (by simp) _).alloc (by simp; omega) _
    unfold impl_WideDiv.f at h
    split at h
    · rename_i hlt
      split at h
      case isFalse => cases h
      rename_i hpos
      obtain ⟨rfl, rfl, rfl⟩ : (0 : Int) = r1 ∧ (0 : Int) = r2 ∧ false = r3 := by simpa using h
      refine tried_panics_e 65 _ _ (fun _ _ => rfl) (Lib.hid fun W hW => ?_)
      obtain ⟨k1, k2, k3⟩ := c0 W hW
      exact WideDiv_1pan a0_0 a0_1 a1_0 a1_1 _ _ W (decide_eq_false (by omega)) hlt.1 hlt.2 (GlobE.below HZ (B3.trans (hW.mono B3.size))) (by omega) (by omega) ((blk_cell k1 0).trans rfl) ((blk_cell k1 1).trans rfl) ((blk_cell k2 0).trans rfl) ((blk_cell k2 1).trans rfl)
    · obtain ⟨⟨s1, s2⟩, h1, h2⟩ := Option.bind_eq_some_iff.mp h
      obtain ⟨rfl, rfl, rfl⟩ : s1 = r1 ∧ s2 = r2 ∧ true = r3 := by simpa using h2
      refine tried_ret 65 _ _ _ _ (fun _ _ => rfl) (Lib.hid fun W hW => ?_)
      obtain ⟨k1, k2, k3⟩ := c0 W hW
      exact WideDiv_1ret k a0_0 a0_1 a1_0 a1_1 _ _ _ _ W h1 (by omega) (by omega) ((blk_cell k1 0).trans rfl) ((blk_cell k1 1).trans rfl) ((blk_cell k2 0).trans rfl) ((blk_cell k2 1).trans rfl)
  have HK := Lib.hid key
  clear key h HZ
  go_enter Tryd.func33, Tryd.ntmps33
  go_wp2_with fail
  refine HK.out.mono ?_
  rintro e w1 ⟨rfl, hb⟩
  have hs := hb.size
  simp only [World.size_alloc] at hs
  have g2 : w1.heap[w.heap.size + 1 + 1]? = some (.cells #[.int .u64 0, .int .u64 0] 24) := (hb.block _ (by simp only [World.size_alloc]; omega)).trans (by
    have := (MapKept.heap_alloc ((w.alloc (.cells #[.int .u64 a0_0, .int .u64 a0_1] 24)).alloc (.cells #[.int .u64 a1_0, .int .u64 a1_1] 24)) (.cells #[.int .u64 0, .int .u64 0] 24)).1
    rw [World.size_alloc, World.size_alloc] at this
    exact this)
  have v0 : w1.cell? ⟨w.heap.size + 1 + 1, 0, none⟩ = some (.int .u64 0) := by rw [blk_cell g2]; rfl
  have v1 : w1.cell? ⟨w.heap.size + 1 + 1, 1, none⟩ = some (.int .u64 0) := by rw [blk_cell g2]; rfl
  have z0 : w1.frozen? ⟨w.heap.size + 1 + 1, 0, none⟩ = false := blk_frozen g2 0
  have z1 : w1.frozen? ⟨w.heap.size + 1 + 1, 1, none⟩ = false := blk_frozen g2 1
  have B : Below w.heap.size w w1 := ((((Below.refl w.heap.size w).alloc (Nat.le_refl _) _).alloc (by simp) _).alloc (by simp; omega) _).trans (hb.mono (by simp only [World.size_alloc]; omega))
  have HB := Lib.hid B
  clear hb g2 HK B
  go_wp2
  refine bodyPost_ret (v := .tuple #[.agg #[.int .u64 r1, .int .u64 r2], .bool r3]) (by simp [results, Tryd.results33, go_sem, v0, v1]) rfl ⟨rfl, (HB.out.setCell (p := ⟨w.heap.size + 1 + 1, 0, none⟩) (by simp; omega) _).setCell (p := ⟨w.heap.size + 1 + 1, 1, none⟩) (by simp; omega) _⟩
/-! ### uint128_Uint128_Mod: function 68 -/
def uint128_Uint128_Mod.f (k : Nat) (a0_0 : Int) (a0_1 : Int) (a1_0 : Int) (a1_1 : Int) : Option (Int × Int) := (uint128_Uint128_QuoRem.f k a0_0 a0_1 a1_0 a1_1).bind fun bt468 => (some (bt468.2.2.1, bt468.2.2.2))
theorem uint128_Uint128_Mod.mono : ∀ a0 a1 a2 a3 k, LeO (uint128_Uint128_Mod.f k a0 a1 a2 a3) (uint128_Uint128_Mod.f (k + 1) a0 a1 a2 a3) := by
  intro a0 a1 a2 a3 k
  unfold uint128_Uint128_Mod.f
  repeat' first
      | (with_reducible exact uint128_Uint128_QuoRem.mono _ _ _ _ _)
      | (with_reducible exact LeO.refl _)
      | (with_reducible exact LeO.none _)
      | (with_reducible refine LeO.ite ?_ ?_)
      | (with_reducible refine LeO.bind ?_ (fun _ => ?_))
      | exact uint128_Uint128_QuoRem.mono _ _ _ _ _
      | exact LeO.none _
      | refine LeO.ite ?_ ?_
      | refine LeO.bind ?_ (fun _ => ?_)
set_option maxHeartbeats 8000000 in
set_option maxRecDepth 100000 in
theorem uint128_Uint128_Mod.calls (k : Nat) (a0_0 : Int) (a0_1 : Int) (a1_0 : Int) (a1_1 : Int) (r1 : Int) (r2 : Int) (w : World) (h : uint128_Uint128_Mod.f k a0_0 a0_1 a1_0 a1_1 = some (r1, r2)) :
    Calls Tryd.prog 68 #[.agg #[.int .u64 a0_0, .int .u64 a0_1], .agg #[.int .u64 a1_0, .int .u64 a1_1]] w fun e w' => e = .returned (.agg #[.int .u64 r1, .int .u64 r2]) ∧ Below w.heap.size w w' := by
  have hu65 := Tryd.underlying65
  have HB := Aside0.mk (Below.refl w.heap.size w)
  have H : ((uint128_Uint128_QuoRem.f k a0_0 a0_1 a1_0 a1_1).bind fun bt468 => (some (bt468.2.2.1, bt468.2.2.2))) = some (r1, r2) := h
  clear h
  replace H := Option.bind_eq_some_iff.mp H
  obtain ⟨⟨t468, t469, t470, t471⟩, A30, H⟩ := H
  replace H : (some (t470, t471)) = some (r1, r2) := H
  have A3 := Aside0.mk A30
  clear A30
  simp only [Option.some.injEq, Prod.mk.injEq] at H
  obtain ⟨rfl, rfl⟩ := H
  go_enter Tryd.func68, Tryd.ntmps68
  go_wp2_with (first | ((with_reducible refine gate_dst (N := 2) rfl ?_); refine box_event ?hg (N := 2) ?hd (cs := #[.int .u64 a0_0, .int .u64 a0_1]) (t := 65) ?hr ?_; (case hd => rfl); (case hg => rfl); (case hr => first | (go_simp; done) | (go_simp; rfl)); intro gb465 hg w4 hbox hb; have n0_ := Aside0.mk (below_step HB.out hb); have n1_ := Aside0.mk (hbox); have n2_ := Aside0.mk ((by rw [hg]; exact (below_size HB.out) : w.heap.size ≤ gb465)); have n3_ := Aside0.mk ((by rw [hg]; exact (below_size HB.out) : w.heap.size ≤ gb465)); clear HB; have HB := n0_; have BK465 := n1_; have GW465 := n2_; have GE465 := n3_; clear n0_ n1_ n2_ n3_; clear hb hbox hg) | ((with_reducible refine gate_dst (N := 3) rfl ?_); refine box_event ?hg (N := 3) ?hd (cs := #[.int .u64 a1_0, .int .u64 a1_1]) (t := 65) ?hr ?_; (case hd => rfl); (case hg => rfl); (case hr => first | (go_simp; done) | (go_simp; rfl)); intro gb466 hg w5 hbox hb; have n0_ := Aside0.mk (blk_below (g := gb465) (o := .cells #[.int .u64 a0_0, .int .u64 a0_1] 65 (0, 0)) (by exact BK465.out) hb); have n1_ := Aside0.mk (below_step HB.out hb); have n2_ := Aside0.mk (hbox); have n3_ := Aside0.mk ((by rw [hg]; exact (below_size HB.out) : w.heap.size ≤ gb466)); have n4_ := Aside0.mk ((by rw [hg]; exact (below_size HB.out) : w.heap.size ≤ gb466)); have n5_ := Aside0.mk ((by rw [hg]; exact Nat.ne_of_lt (blk_lt (g := gb465) (o := .cells #[.int .u64 a0_0, .int .u64 a0_1] 65 (0, 0)) (by exact BK465.out)) : gb465 ≠ gb466)); have n6_ := Aside0.mk ((by rw [hg]; exact Nat.ne_of_gt (blk_lt (g := gb465) (o := .cells #[.int .u64 a0_0, .int .u64 a0_1] 65 (0, 0)) (by exact BK465.out)) : gb466 ≠ gb465)); clear BK465; clear HB; have BK465 := n0_; have HB := n1_; have BK466 := n2_; have GW466 := n3_; have GE466 := n4_; have NB465_466 := n5_; have NB466_465 := n6_; clear n0_ n1_ n2_ n3_ n4_ n5_ n6_; clear hb hbox hg) | ((with_reducible refine gate_dst (N := 4) rfl ?_); refine box_event ?hg (N := 4) ?hd (cs := #[.int .u64 0, .int .u64 0]) (t := 65) ?hr ?_; (case hd => rfl); (case hg => rfl); (case hr => first | (go_simp; done) | (go_simp; rfl)); intro gb467 hg w6 hbox hb; have n0_ := Aside0.mk (blk_below (g := gb465) (o := .cells #[.int .u64 a0_0, .int .u64 a0_1] 65 (0, 0)) (by exact BK465.out) hb); have n1_ := Aside0.mk (blk_below (g := gb466) (o := .cells #[.int .u64 a1_0, .int .u64 a1_1] 65 (0, 0)) (by exact BK466.out) hb); have n2_ := Aside0.mk (below_step HB.out hb); have n3_ := Aside0.mk (hbox); have n4_ := Aside0.mk ((by rw [hg]; exact (below_size HB.out) : w.heap.size ≤ gb467)); have n5_ := Aside0.mk ((by rw [hg]; exact (below_size HB.out) : w.heap.size ≤ gb467)); have n6_ := Aside0.mk ((by rw [hg]; exact Nat.ne_of_lt (blk_lt (g := gb465) (o := .cells #[.int .u64 a0_0, .int .u64 a0_1] 65 (0, 0)) (by exact BK465.out)) : gb465 ≠ gb467)); have n7_ := Aside0.mk ((by rw [hg]; exact Nat.ne_of_gt (blk_lt (g := gb465) (o := .cells #[.int .u64 a0_0, .int .u64 a0_1] 65 (0, 0)) (by exact BK465.out)) : gb467 ≠ gb465)); have n8_ := Aside0.mk ((by rw [hg]; exact Nat.ne_of_lt (blk_lt (g := gb466) (o := .cells #[.int .u64 a1_0, .int .u64 a1_1] 65 (0, 0)) (by exact BK466.out)) : gb466 ≠ gb467)); have n9_ := Aside0.mk ((by rw [hg]; exact Nat.ne_of_gt (blk_lt (g := gb466) (o := .cells #[.int .u64 a1_0, .int .u64 a1_1] 65 (0, 0)) (by exact BK466.out)) : gb467 ≠ gb466)); clear BK465; clear BK466; clear HB; have BK465 := n0_; have BK466 := n1_; have HB := n2_; have BK467 := n3_; have GW467 := n4_; have GE467 := n5_; have NB465_467 := n6_; have NB467_465 := n7_; have NB466_467 := n8_; have NB467_466 := n9_; clear n0_ n1_ n2_ n3_ n4_ n5_ n6_ n7_ n8_ n9_; clear hb hbox hg; have hnb7 := NB465_466.out; have hnc7 := NB466_465.out; have hnb8 := NB465_467.out; have hnc8 := NB467_465.out; have hcz9_0 : w6.cell? ⟨gb465, 0, none⟩ = some (.int .u64 a0_0) := (blk_cell BK465.out 0).trans rfl; have hcz9_1 : w6.cell? ⟨gb465, 1, none⟩ = some (.int .u64 a0_1) := (blk_cell BK465.out 1).trans rfl; have hfz9_0 := blk_frozen BK465.out 0; have hfz9_1 := blk_frozen BK465.out 1; have hnb10 := NB466_467.out; have hnc10 := NB467_466.out; have hcz11_0 : w6.cell? ⟨gb466, 0, none⟩ = some (.int .u64 a1_0) := (blk_cell BK466.out 0).trans rfl; have hcz11_1 : w6.cell? ⟨gb466, 1, none⟩ = some (.int .u64 a1_1) := (blk_cell BK466.out 1).trans rfl; have hfz11_0 := blk_frozen BK466.out 0; have hfz11_1 := blk_frozen BK466.out 1) | ((with_reducible refine gate_callee (f := 64) rfl ?_); refine goesL_ (some 8) rfl rfl Tryd.func64 (by kernel_rfl) rfl #[.agg #[.int .u64 a0_0, .int .u64 a0_1], .agg #[.int .u64 a1_0, .int .u64 a1_1]] rfl (by (try simp only [List.map_toArray, List.map_cons, List.map_nil]); first | done | rfl | (simp only [List.length_drop, List.length_take]; rfl)) ?_; (with_reducible refine (uint128_Uint128_QuoRem.calls k a0_0 a0_1 a1_0 a1_1 t468 t469 t470 t471 _ A3.out).mono ?_); rintro e w12 ⟨rfl, hb⟩; refine ⟨_, rfl, ?_⟩; have n0_ := Aside0.mk (blk_below (g := gb465) (o := .cells #[.int .u64 a0_0, .int .u64 a0_1] 65 (0, 0)) (by exact BK465.out) hb); have n1_ := Aside0.mk (blk_below (g := gb466) (o := .cells #[.int .u64 a1_0, .int .u64 a1_1] 65 (0, 0)) (by exact BK466.out) hb); have n2_ := Aside0.mk (blk_below (g := gb467) (o := .cells #[.int .u64 0, .int .u64 0] 65 (0, 0)) (by exact BK467.out) hb); have n3_ := Aside0.mk (below_step HB.out hb); clear BK465; clear BK466; clear BK467; clear HB; have BK465 := n0_; have BK466 := n1_; have BK467 := n2_; have HB := n3_; clear n0_ n1_ n2_ n3_; (try clear hb); (try clear hb2); (try clear hk); (try clear hi); have hcz13_0 : w12.cell? ⟨gb467, 0, none⟩ = some (.int .u64 0) := (blk_cell BK467.out 0).trans rfl; have hcz13_1 : w12.cell? ⟨gb467, 1, none⟩ = some (.int .u64 0) := (blk_cell BK467.out 1).trans rfl; have hfz13_0 := blk_frozen BK467.out 0; have hfz13_1 := blk_frozen BK467.out 1))
  refine bodyPost_ret (results_cell_row rfl _ _ gb467 65 #[.int .u64 t470, .int .u64 t471] (0, 0) _ rfl (by (with_reducible repeat (first | refine blk_drewN ?_ _ | refine blk_drew ?_ | refine blk_alloc ?_ _)); refine blk_put (cs := #[.int .u64 t470, .int .u64 0]) ?_ 1 _ rfl; (with_reducible repeat (first | refine blk_drewN ?_ _ | refine blk_drew ?_ | refine blk_alloc ?_ _)); refine blk_put (cs := #[.int .u64 0, .int .u64 0]) ?_ 0 _ rfl; (with_reducible repeat (first | refine blk_drewN ?_ _ | refine blk_drew ?_ | refine blk_alloc ?_ _)); exact BK467.out) Tryd.underlying65 rfl (by kernel_rfl)) rfl ?_
  exact ⟨by first | rfl | (simp [errW_none, errW_some] <;> rfl) | (simp [*, errW_none, errW_some] <;> rfl), by repeat (first | (with_reducible first | exact HB.out | apply below_alloc | apply pw_below_drewN | apply below_drew1 | refine below_set ?_ GE465.out | refine below_set ?_ GE466.out | refine below_set ?_ GE467.out) | exact HB.out)⟩
set_option maxHeartbeats 1000000 in
set_option maxRecDepth 100000 in
theorem uint128_Uint128_Mod.panics (a b c d : Int) (w : World) (hb : decide (b < 0) = false) (hc : c = 0) (hd : d = 0) (HZ : GlobE w) :
    Calls Tryd.prog 68 #[.agg #[.int .u64 a, .int .u64 b], .agg #[.int .u64 c, .int .u64 d]] w fun e w' => (∃ pv, e = .panicked [{ v := .iface 104 pv, recovered := false }]) ∧ Below w.heap.size w w' := by
  subst hc hd
  have HE := Lib.hid HZ
  have HBB := Lib.hid hb
  clear HZ hb
  go_enter Tryd.func68, Tryd.ntmps68
  go_wp2_with fail
  have B0 : Below w.heap.size w (((w.alloc (.cells #[.int .u64 a, .int .u64 b] 65)).alloc (.cells #[.int .u64 0, .int .u64 0] 65)).alloc (.cells #[.int .u64 0, .int .u64 0] 65)) := (((Below.refl w.heap.size w).alloc (Nat.le_refl _) _).alloc (by simp) _).alloc (by simp; omega) _
  refine (QuoRem_panics a b _ HBB.out (GlobE.below HE.out B0)).mono ?_
  rintro e W2 ⟨⟨pv, rfl⟩, hb2⟩
  exact ⟨rfl, ⟨_, rfl⟩, B0.trans (hb2.mono B0.size)⟩
/-! ### impl_WideMod: function 34 -/
set_option maxHeartbeats 1000000 in
set_option maxRecDepth 100000 in
theorem WideMod_1ret (k : Nat) (a b c d : Int) (r1 r2 : Int) (p q : Nat) (w : World) (h : uint128_Uint128_Mod.f k a b c d = some (r1, r2)) (lp : p < w.heap.size) (lq : q < w.heap.size)
    (p0 : w.cell? ⟨p, 0, none⟩ = some (.int .u64 a)) (p1 : w.cell? ⟨p, 1, none⟩ = some (.int .u64 b)) (q0 : w.cell? ⟨q, 0, none⟩ = some (.int .u64 c)) (q1 : w.cell? ⟨q, 1, none⟩ = some (.int .u64 d)) :
    Calls Tryd.prog 67 #[.pointer (some ⟨p, 0, none⟩), .pointer (some ⟨q, 0, none⟩)] w fun e w' => e = .returned (.agg #[.int .u64 r1, .int .u64 r2]) ∧ Below w.heap.size w w' := by
  have HH := Lib.hid h
  clear h
  go_enter Tryd.func67, Tryd.ntmps67
  go_wp2_with fail
  obtain ⟨w0, w1, f0, f1, lz, BB⟩ := alloc2_facts w 24 (.int .u64 0) (.int .u64 0)
  replace p0 := (BB.cell (p := ⟨p, 0, none⟩) (by exact lp)).trans p0
  replace p1 := (BB.cell (p := ⟨p, 1, none⟩) (by exact lp)).trans p1
  replace q0 := (BB.cell (p := ⟨q, 0, none⟩) (by exact lq)).trans q0
  replace q1 := (BB.cell (p := ⟨q, 1, none⟩) (by exact lq)).trans q1
  generalize w.alloc (.cells #[.int .u64 0, .int .u64 0] 24) = W0 at *
  refine start_ (n := 7) (S := fun w' => w'.cell? ⟨p, 0, none⟩ = some (.int .u64 a) ∧ w'.cell? ⟨p, 1, none⟩ = some (.int .u64 b) ∧ w'.cell? ⟨q, 0, none⟩ = some (.int .u64 c) ∧ w'.cell? ⟨q, 1, none⟩ = some (.int .u64 d)) (ds := []) #[false, false, false, false, false, false, false] (by kernel_rfl) rfl rfl ⟨p0, p1, q0, q1⟩ (fun hHeld => ?_)
  replace BB := BB.drew
  replace p0 : W0.drew.cell? ⟨p, 0, none⟩ = some (.int .u64 a) := p0
  replace p1 : W0.drew.cell? ⟨p, 1, none⟩ = some (.int .u64 b) := p1
  replace q0 : W0.drew.cell? ⟨q, 0, none⟩ = some (.int .u64 c) := q0
  replace q1 : W0.drew.cell? ⟨q, 1, none⟩ = some (.int .u64 d) := q1
  replace w0 : W0.drew.cell? ⟨w.heap.size, 0, none⟩ = some (.int .u64 0) := w0
  replace w1 : W0.drew.cell? ⟨w.heap.size, 1, none⟩ = some (.int .u64 0) := w1
  replace f0 : W0.drew.frozen? ⟨w.heap.size, 0, none⟩ = false := f0
  replace f1 : W0.drew.frozen? ⟨w.heap.size, 1, none⟩ = false := f1
  replace lz : w.heap.size < W0.drew.heap.size := lz
  generalize W0.drew = W1 at BB p0 p1 q0 q1 w0 w1 f0 f1 lz hHeld ⊢
  refine take_ (i := 0) (N := some 3) (v := ?_) (a' := ?_) #[true, false, false, false, false, false, false] rfl rfl (by kernel_rfl) (fun _ _ _ h => h) (Or.inl ⟨by rfl, ?_⟩) hHeld ?_ ?_
  rotate_left
  · rintro w' ⟨s0, s1, s2, s3⟩
    go_simp
    with_reducible rfl
  rotate_left
  · simp only [Act.put, List.setIfInBounds_toArray, List.set_cons_zero, List.set_cons_succ, i64_w, i32_w]
    rfl
  refine take_ (i := 2) (N := some 5) (v := ?_) (a' := ?_) #[true, false, true, false, false, false, false] rfl rfl (by kernel_rfl) (fun _ _ _ h => h) (Or.inl ⟨by rfl, ?_⟩) hHeld ?_ ?_
  rotate_left
  · rintro w' ⟨s0, s1, s2, s3⟩
    go_simp
    with_reducible rfl
  rotate_left
  · simp only [Act.put, List.setIfInBounds_toArray, List.set_cons_zero, List.set_cons_succ, i64_w, i32_w]
    rfl
  refine one_ (i := 1) (N := some 4) #[true, true, true, false, false, false, false] rfl rfl (by kernel_rfl) (by decide) (fun K hK => ?_)
  refine goes_ Tryd.func46 (by kernel_rfl) rfl #[.agg #[.int .u64 a, .int .u64 b]] (by rfl) rfl rfl (by (try simp only [List.map_toArray, List.map_cons, List.map_nil]); first | done | rfl) ?_
  refine (impl_Wide_u.calls a b a b _ rfl).mono ?_
  rintro e W2 ⟨rfl, hb⟩
  refine ⟨_, rfl, ?_⟩
  replace p0 := (hb.cell (p := ⟨p, 0, none⟩) (Nat.lt_trans lp lz)).trans p0
  replace p1 := (hb.cell (p := ⟨p, 1, none⟩) (Nat.lt_trans lp lz)).trans p1
  replace q0 := (hb.cell (p := ⟨q, 0, none⟩) (Nat.lt_trans lq lz)).trans q0
  replace q1 := (hb.cell (p := ⟨q, 1, none⟩) (Nat.lt_trans lq lz)).trans q1
  replace w0 := (hb.cell (p := ⟨w.heap.size, 0, none⟩) lz).trans w0
  replace w1 := (hb.cell (p := ⟨w.heap.size, 1, none⟩) lz).trans w1
  replace f0 := (hb.frozen (p := ⟨w.heap.size, 0, none⟩) lz).trans f0
  replace f1 := (hb.frozen (p := ⟨w.heap.size, 1, none⟩) lz).trans f1
  replace BB := BB.trans (hb.mono (Nat.le_of_lt lz))
  replace lz := Nat.lt_of_lt_of_le lz hb.size
  clear hb
  refine hK.out _ _ ⟨p0, p1, q0, q1⟩ (fun hHeld => ?_)
  clear hK K
  refine norm_ (a' := ?_) ?_ ?_
  rotate_left
  · show Act.put _ (some 4) _ = _
    simp only [Act.put, List.setIfInBounds_toArray, List.set_cons_zero, List.set_cons_succ, i64_w, i32_w]
    rfl
  refine one_ (i := 3) (N := some 6) #[true, true, true, true, false, false, false] rfl rfl (by kernel_rfl) (by decide) (fun K hK => ?_)
  refine goes_ Tryd.func46 (by kernel_rfl) rfl #[.agg #[.int .u64 c, .int .u64 d]] (by rfl) rfl rfl (by (try simp only [List.map_toArray, List.map_cons, List.map_nil]); first | done | rfl) ?_
  refine (impl_Wide_u.calls c d c d _ rfl).mono ?_
  rintro e W2 ⟨rfl, hb⟩
  refine ⟨_, rfl, ?_⟩
  replace p0 := (hb.cell (p := ⟨p, 0, none⟩) (Nat.lt_trans lp lz)).trans p0
  replace p1 := (hb.cell (p := ⟨p, 1, none⟩) (Nat.lt_trans lp lz)).trans p1
  replace q0 := (hb.cell (p := ⟨q, 0, none⟩) (Nat.lt_trans lq lz)).trans q0
  replace q1 := (hb.cell (p := ⟨q, 1, none⟩) (Nat.lt_trans lq lz)).trans q1
  replace w0 := (hb.cell (p := ⟨w.heap.size, 0, none⟩) lz).trans w0
  replace w1 := (hb.cell (p := ⟨w.heap.size, 1, none⟩) lz).trans w1
  replace f0 := (hb.frozen (p := ⟨w.heap.size, 0, none⟩) lz).trans f0
  replace f1 := (hb.frozen (p := ⟨w.heap.size, 1, none⟩) lz).trans f1
  replace BB := BB.trans (hb.mono (Nat.le_of_lt lz))
  replace lz := Nat.lt_of_lt_of_le lz hb.size
  clear hb
  refine hK.out _ _ ⟨p0, p1, q0, q1⟩ (fun hHeld => ?_)
  clear hK K
  refine norm_ (a' := ?_) ?_ ?_
  rotate_left
  · show Act.put _ (some 6) _ = _
    simp only [Act.put, List.setIfInBounds_toArray, List.set_cons_zero, List.set_cons_succ, i64_w, i32_w]
    rfl
  refine one_ (i := 4) (N := some 7) #[true, true, true, true, true, false, false] rfl rfl (by kernel_rfl) (by decide) (fun K hK => ?_)
  refine goes_ Tryd.func68 (by kernel_rfl) rfl #[.agg #[.int .u64 a, .int .u64 b], .agg #[.int .u64 c, .int .u64 d]] (by rfl) rfl rfl (by (try simp only [List.map_toArray, List.map_cons, List.map_nil]); first | done | rfl) ?_
  refine (uint128_Uint128_Mod.calls k a b c d r1 r2 _ HH.out).mono ?_
  rintro e W2 ⟨rfl, hb⟩
  refine ⟨_, rfl, ?_⟩
  replace p0 := (hb.cell (p := ⟨p, 0, none⟩) (Nat.lt_trans lp lz)).trans p0
  replace p1 := (hb.cell (p := ⟨p, 1, none⟩) (Nat.lt_trans lp lz)).trans p1
  replace q0 := (hb.cell (p := ⟨q, 0, none⟩) (Nat.lt_trans lq lz)).trans q0
  replace q1 := (hb.cell (p := ⟨q, 1, none⟩) (Nat.lt_trans lq lz)).trans q1
  replace w0 := (hb.cell (p := ⟨w.heap.size, 0, none⟩) lz).trans w0
  replace w1 := (hb.cell (p := ⟨w.heap.size, 1, none⟩) lz).trans w1
  replace f0 := (hb.frozen (p := ⟨w.heap.size, 0, none⟩) lz).trans f0
  replace f1 := (hb.frozen (p := ⟨w.heap.size, 1, none⟩) lz).trans f1
  replace BB := BB.trans (hb.mono (Nat.le_of_lt lz))
  replace lz := Nat.lt_of_lt_of_le lz hb.size
  clear hb
  refine hK.out _ _ ⟨p0, p1, q0, q1⟩ (fun hHeld => ?_)
  clear hK K
  refine norm_ (a' := ?_) ?_ ?_
  rotate_left
  · show Act.put _ (some 7) _ = _
    simp only [Act.put, List.setIfInBounds_toArray, List.set_cons_zero, List.set_cons_succ, i64_w, i32_w]
    rfl
  refine one_ (i := 5) (N := some 8) #[true, true, true, true, true, true, false] rfl rfl (by kernel_rfl) (by decide) (fun K hK => ?_)
  refine goes_ Tryd.func40 (by kernel_rfl) rfl #[.agg #[.int .u64 r1, .int .u64 r2]] (by rfl) rfl rfl (by (try simp only [List.map_toArray, List.map_cons, List.map_nil]); first | done | rfl) ?_
  refine (impl_wide.calls r1 r2 r1 r2 _ rfl).mono ?_
  rintro e W2 ⟨rfl, hb⟩
  refine ⟨_, rfl, ?_⟩
  replace p0 := (hb.cell (p := ⟨p, 0, none⟩) (Nat.lt_trans lp lz)).trans p0
  replace p1 := (hb.cell (p := ⟨p, 1, none⟩) (Nat.lt_trans lp lz)).trans p1
  replace q0 := (hb.cell (p := ⟨q, 0, none⟩) (Nat.lt_trans lq lz)).trans q0
  replace q1 := (hb.cell (p := ⟨q, 1, none⟩) (Nat.lt_trans lq lz)).trans q1
  replace w0 := (hb.cell (p := ⟨w.heap.size, 0, none⟩) lz).trans w0
  replace w1 := (hb.cell (p := ⟨w.heap.size, 1, none⟩) lz).trans w1
  replace f0 := (hb.frozen (p := ⟨w.heap.size, 0, none⟩) lz).trans f0
  replace f1 := (hb.frozen (p := ⟨w.heap.size, 1, none⟩) lz).trans f1
  replace BB := BB.trans (hb.mono (Nat.le_of_lt lz))
  replace lz := Nat.lt_of_lt_of_le lz hb.size
  clear hb
  refine hK.out _ _ ⟨p0, p1, q0, q1⟩ (fun hHeld => ?_)
  clear hK K
  refine norm_ (a' := ?_) ?_ ?_
  rotate_left
  · show Act.put _ (some 8) _ = _
    simp only [Act.put, List.setIfInBounds_toArray, List.set_cons_zero, List.set_cons_succ, i64_w, i32_w]
    rfl
  refine one_ (i := 6) (N := none) #[true, true, true, true, true, true, true] rfl rfl (by kernel_rfl) (by decide) (fun K hK => ?_)
  refine skip_ (w1 := ?_) (by rfl) rfl ?_ ?_
  rotate_left
  · go_simp
    rfl
  refine hK.out _ _ ⟨(cell_far (p := ⟨w.heap.size, 1, none⟩) (by exact Nat.ne_of_lt lp) _).trans ((cell_far (p := ⟨w.heap.size, 0, none⟩) (by exact Nat.ne_of_lt lp) _).trans p0), (cell_far (p := ⟨w.heap.size, 1, none⟩) (by exact Nat.ne_of_lt lp) _).trans ((cell_far (p := ⟨w.heap.size, 0, none⟩) (by exact Nat.ne_of_lt lp) _).trans p1), (cell_far (p := ⟨w.heap.size, 1, none⟩) (by exact Nat.ne_of_lt lq) _).trans ((cell_far (p := ⟨w.heap.size, 0, none⟩) (by exact Nat.ne_of_lt lq) _).trans q0), (cell_far (p := ⟨w.heap.size, 1, none⟩) (by exact Nat.ne_of_lt lq) _).trans ((cell_far (p := ⟨w.heap.size, 0, none⟩) (by exact Nat.ne_of_lt lq) _).trans q1)⟩ (fun hHeld => ?_)
  clear hK K
  refine done_ (by kernel_rfl) ?_
  go_wp2
  refine bodyPost_ret (v := .agg #[.int .u64 r1, .int .u64 r2]) (by simp [results, Tryd.results67, go_sem, w0, w1]) rfl ⟨rfl, (BB.setCell (p := ⟨w.heap.size, 0, none⟩) (Nat.le_refl _) _).setCell (p := ⟨w.heap.size, 1, none⟩) (Nat.le_refl _) _⟩
set_option maxHeartbeats 1000000 in
set_option maxRecDepth 100000 in
theorem WideMod_1pan (a b c d : Int) (p q : Nat) (w : World) (hu : decide (b < 0) = false) (hc0 : c = 0) (hd0 : d = 0) (h : GlobE w) (lp : p < w.heap.size) (lq : q < w.heap.size)
    (p0 : w.cell? ⟨p, 0, none⟩ = some (.int .u64 a)) (p1 : w.cell? ⟨p, 1, none⟩ = some (.int .u64 b)) (q0 : w.cell? ⟨q, 0, none⟩ = some (.int .u64 c)) (q1 : w.cell? ⟨q, 1, none⟩ = some (.int .u64 d)) :
    Calls Tryd.prog 67 #[.pointer (some ⟨p, 0, none⟩), .pointer (some ⟨q, 0, none⟩)] w fun e w' => (∃ pv, e = .panicked [{ v := .iface 104 pv, recovered := false }]) ∧ Below w.heap.size w w' := by
  have HH := Lib.hid hu
  have HN := Lib.hid h
  have HC := Lib.hid hc0
  have HD := Lib.hid hd0
  clear hu h hc0 hd0
  go_enter Tryd.func67, Tryd.ntmps67
  go_wp2_with fail
  obtain ⟨w0, w1, f0, f1, lz, BB⟩ := alloc2_facts w 24 (.int .u64 0) (.int .u64 0)
  replace p0 := (BB.cell (p := ⟨p, 0, none⟩) (by exact lp)).trans p0
  replace p1 := (BB.cell (p := ⟨p, 1, none⟩) (by exact lp)).trans p1
  replace q0 := (BB.cell (p := ⟨q, 0, none⟩) (by exact lq)).trans q0
  replace q1 := (BB.cell (p := ⟨q, 1, none⟩) (by exact lq)).trans q1
  generalize w.alloc (.cells #[.int .u64 0, .int .u64 0] 24) = W0 at *
  refine start_ (n := 7) (S := fun w' => w'.cell? ⟨p, 0, none⟩ = some (.int .u64 a) ∧ w'.cell? ⟨p, 1, none⟩ = some (.int .u64 b) ∧ w'.cell? ⟨q, 0, none⟩ = some (.int .u64 c) ∧ w'.cell? ⟨q, 1, none⟩ = some (.int .u64 d)) (ds := []) #[false, false, false, false, false, false, false] (by kernel_rfl) rfl rfl ⟨p0, p1, q0, q1⟩ (fun hHeld => ?_)
  replace BB := BB.drew
  replace p0 : W0.drew.cell? ⟨p, 0, none⟩ = some (.int .u64 a) := p0
  replace p1 : W0.drew.cell? ⟨p, 1, none⟩ = some (.int .u64 b) := p1
  replace q0 : W0.drew.cell? ⟨q, 0, none⟩ = some (.int .u64 c) := q0
  replace q1 : W0.drew.cell? ⟨q, 1, none⟩ = some (.int .u64 d) := q1
  replace w0 : W0.drew.cell? ⟨w.heap.size, 0, none⟩ = some (.int .u64 0) := w0
  replace w1 : W0.drew.cell? ⟨w.heap.size, 1, none⟩ = some (.int .u64 0) := w1
  replace f0 : W0.drew.frozen? ⟨w.heap.size, 0, none⟩ = false := f0
  replace f1 : W0.drew.frozen? ⟨w.heap.size, 1, none⟩ = false := f1
  replace lz : w.heap.size < W0.drew.heap.size := lz
  generalize W0.drew = W1 at BB p0 p1 q0 q1 w0 w1 f0 f1 lz hHeld ⊢
  refine take_ (i := 0) (N := some 3) (v := ?_) (a' := ?_) #[true, false, false, false, false, false, false] rfl rfl (by kernel_rfl) (fun _ _ _ h => h) (Or.inl ⟨by rfl, ?_⟩) hHeld ?_ ?_
  rotate_left
  · rintro w' ⟨s0, s1, s2, s3⟩
    go_simp
    with_reducible rfl
  rotate_left
  · simp only [Act.put, List.setIfInBounds_toArray, List.set_cons_zero, List.set_cons_succ, i64_w, i32_w]
    rfl
  refine take_ (i := 2) (N := some 5) (v := ?_) (a' := ?_) #[true, false, true, false, false, false, false] rfl rfl (by kernel_rfl) (fun _ _ _ h => h) (Or.inl ⟨by rfl, ?_⟩) hHeld ?_ ?_
  rotate_left
  · rintro w' ⟨s0, s1, s2, s3⟩
    go_simp
    with_reducible rfl
  rotate_left
  · simp only [Act.put, List.setIfInBounds_toArray, List.set_cons_zero, List.set_cons_succ, i64_w, i32_w]
    rfl
  refine one_ (i := 1) (N := some 4) #[true, true, true, false, false, false, false] rfl rfl (by kernel_rfl) (by decide) (fun K hK => ?_)
  refine goes_ Tryd.func46 (by kernel_rfl) rfl #[.agg #[.int .u64 a, .int .u64 b]] (by rfl) rfl rfl (by (try simp only [List.map_toArray, List.map_cons, List.map_nil]); first | done | rfl) ?_
  refine (impl_Wide_u.calls a b a b _ rfl).mono ?_
  rintro e W2 ⟨rfl, hb⟩
  refine ⟨_, rfl, ?_⟩
  replace p0 := (hb.cell (p := ⟨p, 0, none⟩) (Nat.lt_trans lp lz)).trans p0
  replace p1 := (hb.cell (p := ⟨p, 1, none⟩) (Nat.lt_trans lp lz)).trans p1
  replace q0 := (hb.cell (p := ⟨q, 0, none⟩) (Nat.lt_trans lq lz)).trans q0
  replace q1 := (hb.cell (p := ⟨q, 1, none⟩) (Nat.lt_trans lq lz)).trans q1
  replace w0 := (hb.cell (p := ⟨w.heap.size, 0, none⟩) lz).trans w0
  replace w1 := (hb.cell (p := ⟨w.heap.size, 1, none⟩) lz).trans w1
  replace f0 := (hb.frozen (p := ⟨w.heap.size, 0, none⟩) lz).trans f0
  replace f1 := (hb.frozen (p := ⟨w.heap.size, 1, none⟩) lz).trans f1
  replace BB := BB.trans (hb.mono (Nat.le_of_lt lz))
  replace lz := Nat.lt_of_lt_of_le lz hb.size
  clear hb
  refine hK.out _ _ ⟨p0, p1, q0, q1⟩ (fun hHeld => ?_)
  clear hK K
  refine norm_ (a' := ?_) ?_ ?_
  rotate_left
  · show Act.put _ (some 4) _ = _
    simp only [Act.put, List.setIfInBounds_toArray, List.set_cons_zero, List.set_cons_succ, i64_w, i32_w]
    rfl
  refine one_ (i := 3) (N := some 6) #[true, true, true, true, false, false, false] rfl rfl (by kernel_rfl) (by decide) (fun K hK => ?_)
  refine goes_ Tryd.func46 (by kernel_rfl) rfl #[.agg #[.int .u64 c, .int .u64 d]] (by rfl) rfl rfl (by (try simp only [List.map_toArray, List.map_cons, List.map_nil]); first | done | rfl) ?_
  refine (impl_Wide_u.calls c d c d _ rfl).mono ?_
  rintro e W2 ⟨rfl, hb⟩
  refine ⟨_, rfl, ?_⟩
  replace p0 := (hb.cell (p := ⟨p, 0, none⟩) (Nat.lt_trans lp lz)).trans p0
  replace p1 := (hb.cell (p := ⟨p, 1, none⟩) (Nat.lt_trans lp lz)).trans p1
  replace q0 := (hb.cell (p := ⟨q, 0, none⟩) (Nat.lt_trans lq lz)).trans q0
  replace q1 := (hb.cell (p := ⟨q, 1, none⟩) (Nat.lt_trans lq lz)).trans q1
  replace w0 := (hb.cell (p := ⟨w.heap.size, 0, none⟩) lz).trans w0
  replace w1 := (hb.cell (p := ⟨w.heap.size, 1, none⟩) lz).trans w1
  replace f0 := (hb.frozen (p := ⟨w.heap.size, 0, none⟩) lz).trans f0
  replace f1 := (hb.frozen (p := ⟨w.heap.size, 1, none⟩) lz).trans f1
  replace BB := BB.trans (hb.mono (Nat.le_of_lt lz))
  replace lz := Nat.lt_of_lt_of_le lz hb.size
  clear hb
  refine hK.out _ _ ⟨p0, p1, q0, q1⟩ (fun hHeld => ?_)
  clear hK K
  refine norm_ (a' := ?_) ?_ ?_
  rotate_left
  · show Act.put _ (some 6) _ = _
    simp only [Act.put, List.setIfInBounds_toArray, List.set_cons_zero, List.set_cons_succ, i64_w, i32_w]
    rfl
  refine one_ (i := 4) (N := some 7) #[true, true, true, true, true, false, false] rfl rfl (by kernel_rfl) (by decide) (fun K hK => ?_)
  refine pgoes_ Tryd.func68 (by kernel_rfl) rfl #[.agg #[.int .u64 a, .int .u64 b], .agg #[.int .u64 c, .int .u64 d]] (by rfl) rfl (by (try simp only [List.map_toArray, List.map_cons, List.map_nil]); first | done | rfl) ?_
  refine (uint128_Uint128_Mod.panics a b c d _ HH.out HC.out HD.out (GlobE.below HN.out BB)).mono ?_
  rintro e W2 ⟨⟨pv, rfl⟩, hb⟩
  exact ⟨_, rfl, rfl, ⟨_, rfl⟩, BB.trans (hb.mono (Nat.le_of_lt lz))⟩
def impl_WideMod.f (k : Nat) (a0_0 a0_1 a1_0 a1_1 : Int) : Option (Int × Int × Bool) :=
  if a1_0 = 0 ∧ a1_1 = 0 then (if 0 ≤ a0_1 then some (0, 0, false) else none) else (uint128_Uint128_Mod.f k a0_0 a0_1 a1_0 a1_1).bind fun r => some (r.1, r.2, true)
theorem impl_WideMod.mono : ∀ a0 a1 a2 a3 k, LeO (impl_WideMod.f k a0 a1 a2 a3) (impl_WideMod.f (k + 1) a0 a1 a2 a3) := by
  intro a0 a1 a2 a3 k
  unfold impl_WideMod.f
  split
  · exact LeO.refl _
  · exact LeO.bind (uint128_Uint128_Mod.mono a0 a1 a2 a3 k) (fun _ => LeO.refl _)
set_option maxHeartbeats 1000000 in
set_option maxRecDepth 100000 in
theorem impl_WideMod.calls (k : Nat) (a0_0 : Int) (a0_1 : Int) (a1_0 : Int) (a1_1 : Int) (r1 : Int) (r2 : Int) (r3 : Bool) (w : World) (h : impl_WideMod.f k a0_0 a0_1 a1_0 a1_1 = some (r1, r2, r3)) (HZ : GlobE w) :
    Calls Tryd.prog 34 #[.agg #[.int .u64 a0_0, .int .u64 a0_1], .agg #[.int .u64 a1_0, .int .u64 a1_1]] w fun e w' => e = .returned (.tuple #[.agg #[.int .u64 r1, .int .u64 r2], .bool r3]) ∧ Below w.heap.size w w' := by
  have hmf : ∀ (fn : Fn) (first cap : Array Value) (w : World), (Instr.makeFunc fn first cap).run Tryd.prog w = .ok (.func fn first cap) w := fun _ _ _ _ => rfl
  have key : Calls Tryd.prog 55 #[.func (.func 67) #[] #[.pointer (some ⟨w.heap.size, 0, none⟩), .pointer (some ⟨w.heap.size + 1, 0, none⟩)]] (((w.alloc (.cells #[.int .u64 a0_0, .int .u64 a0_1] 24)).alloc (.cells #[.int .u64 a1_0, .int .u64 a1_1] 24)).alloc (.cells #[.int .u64 0, .int .u64 0] 24)) fun e w' =>
      e = .returned (.tuple #[.agg #[.int .u64 r1, .int .u64 r2], .bool r3]) ∧ Below (((w.alloc (.cells #[.int .u64 a0_0, .int .u64 a0_1] 24)).alloc (.cells #[.int .u64 a1_0, .int .u64 a1_1] 24)).alloc (.cells #[.int .u64 0, .int .u64 0] 24)).heap.size (((w.alloc (.cells #[.int .u64 a0_0, .int .u64 a0_1] 24)).alloc (.cells #[.int .u64 a1_0, .int .u64 a1_1] 24)).alloc (.cells #[.int .u64 0, .int .u64 0] 24)) w' := by
    have c0 : ∀ W : World, Below (((w.alloc (.cells #[.int .u64 a0_0, .int .u64 a0_1] 24)).alloc (.cells #[.int .u64 a1_0, .int .u64 a1_1] 24)).alloc (.cells #[.int .u64 0, .int .u64 0] 24)).heap.size (((w.alloc (.cells #[.int .u64 a0_0, .int .u64 a0_1] 24)).alloc (.cells #[.int .u64 a1_0, .int .u64 a1_1] 24)).alloc (.cells #[.int .u64 0, .int .u64 0] 24)) W → W.heap[w.heap.size]? = some (.cells #[.int .u64 a0_0, .int .u64 a0_1] 24) ∧ W.heap[w.heap.size + 1]? = some (.cells #[.int .u64 a1_0, .int .u64 a1_1] 24) ∧ w.heap.size + 1 < W.heap.size := by
      intro W hW
      have hs := hW.size
      simp only [World.size_alloc] at hs
      refine ⟨(hW.block _ (by simp only [World.size_alloc]; omega)).trans (blk_alloc (blk_alloc (MapKept.heap_alloc w _).1 _) _), (hW.block _ (by simp only [World.size_alloc]; omega)).trans (blk_alloc ?_ _), by omega⟩
      have := (MapKept.heap_alloc (w.alloc (.cells #[.int .u64 a0_0, .int .u64 a0_1] 24)) (.cells #[.int .u64 a1_0, .int .u64 a1_1] 24)).1
      rw [World.size_alloc] at this
      exact this
    have B3 : Below w.heap.size w (((w.alloc (.cells #[.int .u64 a0_0, .int .u64 a0_1] 24)).alloc (.cells #[.int .u64 a1_0, .int .u64 a1_1] 24)).alloc (.cells #[.int .u64 0, .int .u64 0] 24)) := (((Below.refl w.heap.size w).alloc (Nat.le_refl _) _).alloc (by simp) _).alloc (by simp; omega) _
    unfold impl_WideMod.f at h
    split at h
    · rename_i hlt
      split at h
      case isFalse => cases h
      rename_i hpos
      obtain ⟨rfl, rfl, rfl⟩ : (0 : Int) = r1 ∧ (0 : Int) = r2 ∧ false = r3 := by simpa using h
      refine tried_panics_e 67 _ _ (fun _ _ => rfl) (Lib.hid fun W hW => ?_)
      obtain ⟨k1, k2, k3⟩ := c0 W hW
      exact WideMod_1pan a0_0 a0_1 a1_0 a1_1 _ _ W (decide_eq_false (by omega)) hlt.1 hlt.2 (GlobE.below HZ (B3.trans (hW.mono B3.size))) (by omega) (by omega) ((blk_cell k1 0).trans rfl) ((blk_cell k1 1).trans rfl) ((blk_cell k2 0).trans rfl) ((blk_cell k2 1).trans rfl)
    · obtain ⟨⟨s1, s2⟩, h1, h2⟩ := Option.bind_eq_some_iff.mp h
      obtain ⟨rfl, rfl, rfl⟩ : s1 = r1 ∧ s2 = r2 ∧ true = r3 := by simpa using h2
      refine tried_ret 67 _ _ _ _ (fun _ _ => rfl) (Lib.hid fun W hW => ?_)
      obtain ⟨k1, k2, k3⟩ := c0 W hW
      exact WideMod_1ret k a0_0 a0_1 a1_0 a1_1 _ _ _ _ W h1 (by omega) (by omega) ((blk_cell k1 0).trans rfl) ((blk_cell k1 1).trans rfl) ((blk_cell k2 0).trans rfl) ((blk_cell k2 1).trans rfl)
  have HK := Lib.hid key
  clear key h HZ
  go_enter Tryd.func34, Tryd.ntmps34
  go_wp2_with fail
  refine HK.out.mono ?_
  rintro e w1 ⟨rfl, hb⟩
  have hs := hb.size
  simp only [World.size_alloc] at hs
  have g2 : w1.heap[w.heap.size + 1 + 1]? = some (.cells #[.int .u64 0, .int .u64 0] 24) := (hb.block _ (by simp only [World.size_alloc]; omega)).trans (by
    have := (MapKept.heap_alloc ((w.alloc (.cells #[.int .u64 a0_0, .int .u64 a0_1] 24)).alloc (.cells #[.int .u64 a1_0, .int .u64 a1_1] 24)) (.cells #[.int .u64 0, .int .u64 0] 24)).1
    rw [World.size_alloc, World.size_alloc] at this
    exact this)
  have v0 : w1.cell? ⟨w.heap.size + 1 + 1, 0, none⟩ = some (.int .u64 0) := by rw [blk_cell g2]; rfl
  have v1 : w1.cell? ⟨w.heap.size + 1 + 1, 1, none⟩ = some (.int .u64 0) := by rw [blk_cell g2]; rfl
  have z0 : w1.frozen? ⟨w.heap.size + 1 + 1, 0, none⟩ = false := blk_frozen g2 0
  have z1 : w1.frozen? ⟨w.heap.size + 1 + 1, 1, none⟩ = false := blk_frozen g2 1
  have B : Below w.heap.size w w1 := ((((Below.refl w.heap.size w).alloc (Nat.le_refl _) _).alloc (by simp) _).alloc (by simp; omega) _).trans (hb.mono (by simp only [World.size_alloc]; omega))
  have HB := Lib.hid B
  clear hb g2 HK B
  go_wp2
  refine bodyPost_ret (v := .tuple #[.agg #[.int .u64 r1, .int .u64 r2], .bool r3]) (by simp [results, Tryd.results34, go_sem, v0, v1]) rfl ⟨rfl, (HB.out.setCell (p := ⟨w.heap.size + 1 + 1, 0, none⟩) (by simp; omega) _).setCell (p := ⟨w.heap.size + 1 + 1, 1, none⟩) (by simp; omega) _⟩
end Go.Proofs.YtiifnofghicnaaaDoor.PAll
