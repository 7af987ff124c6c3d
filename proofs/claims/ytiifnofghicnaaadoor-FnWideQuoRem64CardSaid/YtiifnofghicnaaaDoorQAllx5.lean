/- Printed by the kit's print.py, called for several laws at once: functions as plain Lean, and the walks' contracts. -/
import Derived.Test.YtiifnofghicnaaaDoorQAllx0
import Derived.Test.YtiifnofghicnaaaDoorQAllx1
namespace Go.Proofs.YtiifnofghicnaaaDoor.PAll
open Go.RowKit Go.Proofs.YtiifnofghicnaaaDoorW.PrintWords Go.Proofs.YtiifnofghicnaaaDoorW.PrintLast Go.Proofs.YtiifnofghicnaaaDoorW.PrintMore
attribute [local go_sem] max2_int min2_int max_two min_two max_three min_three max_four min_four   -- for this text's walks alone
set_option linter.unusedVariables false
set_option linter.unusedSimpArgs false
/-! ### impl_wide: function 40 -/
def impl_wide.f (a0_0 : Int) (a0_1 : Int) : Option (Int × Int) := some (a0_0, a0_1)
set_option maxHeartbeats 8000000 in
set_option maxRecDepth 100000 in
theorem impl_wide.calls (a0_0 : Int) (a0_1 : Int) (r1 : Int) (r2 : Int) (w : World) (h : impl_wide.f a0_0 a0_1 = some (r1, r2)) :
    Calls Tryd.prog 40 #[.agg #[.int .u64 a0_0, .int .u64 a0_1]] w fun e w' => e = .returned (.agg #[.int .u64 r1, .int .u64 r2]) ∧ Below w.heap.size w w' := by
  have hu65 := Tryd.underlying65
  have hu24 := Tryd.underlying24
  have HB := Aside0.mk (Below.refl w.heap.size w)
  have H : (some (a0_0, a0_1)) = some (r1, r2) := h
  clear h
  simp only [Option.some.injEq, Prod.mk.injEq] at H
  obtain ⟨rfl, rfl⟩ := H
  go_enter Tryd.func40, Tryd.ntmps40
  go_wp2_with (first | ((with_reducible refine gate_dst (N := 1) rfl ?_); refine box_event ?hg (N := 1) ?hd (cs := #[.int .u64 a0_0, .int .u64 a0_1]) (t := 65) ?hr ?_; (case hd => rfl); (case hg => rfl); (case hr => first | (go_simp; done) | (go_simp; rfl)); intro gb336 hg w2 hbox hb; have n0_ := Aside0.mk (below_step (by repeat (first | (with_reducible first | exact HB.out | apply below_alloc | apply pw_below_drewN | apply below_drew1) | exact HB.out)) hb); have n1_ := Aside0.mk (hbox); have n2_ := Aside0.mk ((by rw [hg]; exact (below_size (by repeat (first | (with_reducible first | exact HB.out | apply below_alloc | apply pw_below_drewN | apply below_drew1) | exact HB.out))) : w.heap.size ≤ gb336)); have n3_ := Aside0.mk ((by rw [hg]; exact (below_size (by repeat (first | (with_reducible first | exact HB.out | apply below_alloc | apply pw_below_drewN | apply below_drew1) | exact HB.out))) : w.heap.size ≤ gb336)); clear HB; have HB := n0_; have BK336 := n1_; have GW336 := n2_; have GE336 := n3_; clear n0_ n1_ n2_ n3_; clear hb hbox hg) | ((with_reducible refine gate_dst (N := 2) rfl ?_); refine box_event ?hg (N := 2) ?hd (cs := #[.int .u64 0, .int .u64 0]) (t := 24) ?hr ?_; (case hd => rfl); (case hg => rfl); (case hr => first | (go_simp; done) | (go_simp; rfl)); intro gb337 hg w3 hbox hb; have n0_ := Aside0.mk (blk_below (g := gb336) (o := .cells #[.int .u64 a0_0, .int .u64 a0_1] 65 (0, 0)) (by exact BK336.out) hb); have n1_ := Aside0.mk (below_step (by repeat (first | (with_reducible first | exact HB.out | apply below_alloc | apply pw_below_drewN | apply below_drew1 | refine below_set ?_ GE336.out) | exact HB.out)) hb); have n2_ := Aside0.mk (hbox); have n3_ := Aside0.mk ((by rw [hg]; exact (below_size (by repeat (first | (with_reducible first | exact HB.out | apply below_alloc | apply pw_below_drewN | apply below_drew1 | refine below_set ?_ GE336.out) | exact HB.out))) : w.heap.size ≤ gb337)); have n4_ := Aside0.mk ((by rw [hg]; exact (below_size (by repeat (first | (with_reducible first | exact HB.out | apply below_alloc | apply pw_below_drewN | apply below_drew1 | refine below_set ?_ GE336.out) | exact HB.out))) : w.heap.size ≤ gb337)); have n5_ := Aside0.mk ((by rw [hg]; exact Nat.ne_of_lt (blk_lt (g := gb336) (o := .cells #[.int .u64 a0_0, .int .u64 a0_1] 65 (0, 0)) (by exact BK336.out)) : gb336 ≠ gb337)); have n6_ := Aside0.mk ((by rw [hg]; exact Nat.ne_of_gt (blk_lt (g := gb336) (o := .cells #[.int .u64 a0_0, .int .u64 a0_1] 65 (0, 0)) (by exact BK336.out)) : gb337 ≠ gb336)); clear BK336; clear HB; have BK336 := n0_; have HB := n1_; have BK337 := n2_; have GW337 := n3_; have GE337 := n4_; have NB336_337 := n5_; have NB337_336 := n6_; clear n0_ n1_ n2_ n3_ n4_ n5_ n6_; clear hb hbox hg; have hnb4 := NB336_337.out; have hnc4 := NB337_336.out; have hcz5_0 : w3.cell? ⟨gb336, 0, none⟩ = some (.int .u64 a0_0) := (blk_cell BK336.out 0).trans rfl; have hcz5_1 : w3.cell? ⟨gb336, 1, none⟩ = some (.int .u64 a0_1) := (blk_cell BK336.out 1).trans rfl; have hfz5_0 := blk_frozen BK336.out 0; have hfz5_1 := blk_frozen BK336.out 1; have hcz6_0 : w3.cell? ⟨gb337, 0, none⟩ = some (.int .u64 0) := (blk_cell BK337.out 0).trans rfl; have hcz6_1 : w3.cell? ⟨gb337, 1, none⟩ = some (.int .u64 0) := (blk_cell BK337.out 1).trans rfl; have hfz6_0 := blk_frozen BK337.out 0; have hfz6_1 := blk_frozen BK337.out 1))
  refine bodyPost_ret (results_cell_row rfl _ _ gb337 24 #[.int .u64 a0_0, .int .u64 a0_1] (0, 0) _ rfl (by (with_reducible repeat (first | refine blk_drewN ?_ _ | refine blk_drew ?_ | refine blk_alloc ?_ _)); refine blk_put (cs := #[.int .u64 a0_0, .int .u64 0]) ?_ 1 _ rfl; (with_reducible repeat (first | refine blk_drewN ?_ _ | refine blk_drew ?_ | refine blk_alloc ?_ _)); refine blk_put (cs := #[.int .u64 0, .int .u64 0]) ?_ 0 _ rfl; (with_reducible repeat (first | refine blk_drewN ?_ _ | refine blk_drew ?_ | refine blk_alloc ?_ _)); exact BK337.out) Tryd.underlying24 rfl (by kernel_rfl)) rfl ?_
  exact ⟨by first | rfl | (simp [errW_none, errW_some] <;> rfl) | (simp [*, errW_none, errW_some] <;> rfl), by repeat (first | (with_reducible first | exact HB.out | apply below_alloc | apply pw_below_drewN | apply below_drew1 | refine below_set ?_ GE336.out | refine below_set ?_ GE337.out) | exact HB.out)⟩
/-! ### laws_wideSmall: function 31 -/
def laws_wideSmall.f (a0 : Int) : Option (List Int) := (spec_Whole.f a0 0).bind fun t182 => (some t182)
set_option maxHeartbeats 8000000 in
set_option maxRecDepth 100000 in
theorem laws_wideSmall.calls (a0 : Int) (r : List Int) (w : World) (h : laws_wideSmall.f a0 = some r) :
    Calls Tryd.prog 31 #[.int .u64 a0] w fun e w' => ∃ v0_ : Value, e = .returned (v0_) ∧ Kd.V (Kd.int .i64) 3 w' w.heap.size (fun k_ => (w.heap.size ≤ k_)) v0_ r ∧ Below w.heap.size w w' := by
  have HB := Aside0.mk (Below.refl w.heap.size w)
  have H : ((spec_Whole.f a0 0).bind fun t182 => (some t182)) = some r := h
  clear h
  replace H := Option.bind_eq_some_iff.mp H
  obtain ⟨t182, A20, H⟩ := H
  replace H : (some t182) = some r := H
  have A2 := Aside0.mk A20
  clear A20
  obtain rfl := Option.some.inj H
  go_enter Tryd.func31, Tryd.ntmps31
  go_wp2_with (first | ((with_reducible refine gate_callee (f := 45) rfl ?_); refine goesL_ (some 4) rfl rfl Tryd.func45 (by kernel_rfl) rfl #[.int .u64 a0, .int .u64 0] rfl (by (try simp only [List.map_toArray, List.map_cons, List.map_nil]); first | done | rfl | (simp only [List.length_drop, List.length_take]; rfl)) ?_; (with_reducible refine (spec_Whole.calls a0 0 t182 _ A2.out).mono ?_); rintro e w3 ⟨v183, rfl, ho0, hb⟩; refine ⟨_, rfl, ?_⟩; have n0_ := Aside0.mk (Kd.V_lower (Kd.V_mono (ok' := fun k_ => (w.heap.size ≤ k_)) ho0 (fun k_ hk_ => (Nat.le_trans (below_size (by repeat (first | (with_reducible first | exact HB.out | apply below_alloc | apply pw_below_drewN | apply below_drew1) | exact HB.out))) hk_))) (below_size (by repeat (first | (with_reducible first | exact HB.out | apply below_alloc | apply pw_below_drewN | apply below_drew1) | exact HB.out)))); have n1_ := Aside0.mk (below_step (by repeat (first | (with_reducible first | exact HB.out | apply below_alloc | apply pw_below_drewN | apply below_drew1) | exact HB.out)) hb); clear HB; have HO184 := n0_; have HB := n1_; clear n0_ n1_; (try clear hb); (try clear hb2); (try clear hk); (try clear hi); (try clear ho0)))
  go_ret
  exact ⟨_, by first | rfl | (simp [errW_none, errW_some] <;> rfl) | (simp [*, errW_none, errW_some] <;> rfl), by (with_reducible repeat (first | apply Kd.V_alloc | apply Kd.V_drewN | apply Kd.V_drew)); exact HO184.out, by repeat (first | (with_reducible first | exact HB.out | apply below_alloc | apply pw_below_drewN | apply below_drew1) | exact HB.out)⟩
end Go.Proofs.YtiifnofghicnaaaDoor.PAll
