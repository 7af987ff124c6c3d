/- Printed by the kit's print.py, called for several laws at once: functions as plain Lean, and the walks' contracts. -/
import Derived.Test.YtiifnofghicnaaaDoorQAllx0
import Derived.Test.YtiifnofghicnaaaDoorQAllx1
import Derived.Test.YtiifnofghicnaaaDoorQAllx2
namespace Go.Proofs.YtiifnofghicnaaaDoor.PAll
open Go.RowKit Go.Proofs.YtiifnofghicnaaaDoorW.PrintWords Go.Proofs.YtiifnofghicnaaaDoorW.PrintLast Go.Proofs.YtiifnofghicnaaaDoorW.PrintMore
attribute [local go_sem] max2_int min2_int max_two min_two max_three min_three max_four min_four   -- for this text's walks alone
set_option linter.unusedVariables false
set_option linter.unusedSimpArgs false
/-! ### uint128_Uint128_QuoRem64: function 54 -/
def uint128_Uint128_QuoRem64.f (k : Nat) (a0_0 : Int) (a0_1 : Int) (a1 : Int) : Option (Int × Int × Int) := if a0_1 < a1 then ((gobits_Div64.f k a0_1 a0_0 a1).bind fun bt140 => (some (bt140.1, 0, bt140.2))) else ((gobits_Div64.f k 0 a0_1 a1).bind fun bt142 => ((gobits_Div64.f k bt142.2 a0_0 a1).bind fun bt144 => (some (bt144.1, bt142.1, bt144.2))))
theorem uint128_Uint128_QuoRem64.mono : ∀ a0 a1 a2 k, LeO (uint128_Uint128_QuoRem64.f k a0 a1 a2) (uint128_Uint128_QuoRem64.f (k + 1) a0 a1 a2) := by
  intro a0 a1 a2 k
  unfold uint128_Uint128_QuoRem64.f
  repeat' first
      | (with_reducible exact gobits_Div64.mono _ _ _ _)
      | (with_reducible exact LeO.refl _)
      | (with_reducible exact LeO.none _)
      | (with_reducible refine LeO.ite ?_ ?_)
      | (with_reducible refine LeO.bind ?_ (fun _ => ?_))
      | exact gobits_Div64.mono _ _ _ _
      | exact LeO.none _
      | refine LeO.ite ?_ ?_
      | refine LeO.bind ?_ (fun _ => ?_)
set_option maxHeartbeats 8000000 in
set_option maxRecDepth 100000 in
theorem uint128_Uint128_QuoRem64.calls (k : Nat) (a0_0 : Int) (a0_1 : Int) (a1 : Int) (r1 : Int) (r2 : Int) (r3 : Int) (w : World) (h : uint128_Uint128_QuoRem64.f k a0_0 a0_1 a1 = some (r1, r2, r3)) :
    Calls Tryd.prog 54 #[.agg #[.int .u64 a0_0, .int .u64 a0_1], .int .u64 a1] w fun e w' => e = .returned (.tuple #[.agg #[.int .u64 r1, .int .u64 r2], .int .u64 r3]) ∧ Below w.heap.size w w' := by
  have hu65 := Tryd.underlying65
  have HB := Aside0.mk (Below.refl w.heap.size w)
  have H : (if a0_1 < a1 then ((gobits_Div64.f k a0_1 a0_0 a1).bind fun bt140 => (some (bt140.1, 0, bt140.2))) else ((gobits_Div64.f k 0 a0_1 a1).bind fun bt142 => ((gobits_Div64.f k bt142.2 a0_0 a1).bind fun bt144 => (some (bt144.1, bt142.1, bt144.2))))) = some (r1, r2, r3) := h
  clear h
  by_cases c3 : a0_1 < a1
  · rw [if_pos c3] at H
    have c3b0 : decide (a0_1 < a1) = true := decide_eq_true c3
    clear c3
    replace H := Option.bind_eq_some_iff.mp H
    obtain ⟨⟨t140, t141⟩, A40, H⟩ := H
    replace H : (some (t140, 0, t141)) = some (r1, r2, r3) := H
    have A4 := Aside0.mk A40
    clear A40
    simp only [Option.some.injEq, Prod.mk.injEq] at H
    obtain ⟨rfl, rfl, rfl⟩ := H
    go_enter Tryd.func54, Tryd.ntmps54
    go_wp2_with (first | ((with_reducible refine gate_dst (N := 2) rfl ?_); refine box_event ?hg (N := 2) ?hd (cs := #[.int .u64 a0_0, .int .u64 a0_1]) (t := 65) ?hr ?_; (case hd => rfl); (case hg => rfl); (case hr => first | (go_simp; done) | (go_simp; rfl)); intro gb138 hg w5 hbox hb; have n0_ := Aside0.mk (below_step (by repeat (first | (with_reducible first | exact HB.out | apply below_alloc | apply pw_below_drewN | apply below_drew1) | exact HB.out)) hb); have n1_ := Aside0.mk (hbox); have n2_ := Aside0.mk ((by rw [hg]; exact (below_size (by repeat (first | (with_reducible first | exact HB.out | apply below_alloc | apply pw_below_drewN | apply below_drew1) | exact HB.out))) : w.heap.size ≤ gb138)); have n3_ := Aside0.mk ((by rw [hg]; exact (below_size (by repeat (first | (with_reducible first | exact HB.out | apply below_alloc | apply pw_below_drewN | apply below_drew1) | exact HB.out))) : w.heap.size ≤ gb138)); clear HB; have HB := n0_; have BK138 := n1_; have GW138 := n2_; have GE138 := n3_; clear n0_ n1_ n2_ n3_; clear hb hbox hg) | ((with_reducible refine gate_dst (N := 4) rfl ?_); refine box_event ?hg (N := 4) ?hd (cs := #[.int .u64 0, .int .u64 0]) (t := 65) ?hr ?_; (case hd => rfl); (case hg => rfl); (case hr => first | (go_simp; done) | (go_simp; rfl)); intro gb139 hg w6 hbox hb; have n0_ := Aside0.mk (blk_below (g := gb138) (o := .cells #[.int .u64 a0_0, .int .u64 a0_1] 65 (0, 0)) (by exact BK138.out) hb); have n1_ := Aside0.mk (below_step (by repeat (first | (with_reducible first | exact HB.out | apply below_alloc | apply pw_below_drewN | apply below_drew1 | refine below_set ?_ GE138.out) | exact HB.out)) hb); have n2_ := Aside0.mk (hbox); have n3_ := Aside0.mk ((by rw [hg]; exact (below_size (by repeat (first | (with_reducible first | exact HB.out | apply below_alloc | apply pw_below_drewN | apply below_drew1 | refine below_set ?_ GE138.out) | exact HB.out))) : w.heap.size ≤ gb139)); have n4_ := Aside0.mk ((by rw [hg]; exact (below_size (by repeat (first | (with_reducible first | exact HB.out | apply below_alloc | apply pw_below_drewN | apply below_drew1 | refine below_set ?_ GE138.out) | exact HB.out))) : w.heap.size ≤ gb139)); have n5_ := Aside0.mk ((by rw [hg]; exact Nat.ne_of_lt (blk_lt (g := gb138) (o := .cells #[.int .u64 a0_0, .int .u64 a0_1] 65 (0, 0)) (by exact BK138.out)) : gb138 ≠ gb139)); have n6_ := Aside0.mk ((by rw [hg]; exact Nat.ne_of_gt (blk_lt (g := gb138) (o := .cells #[.int .u64 a0_0, .int .u64 a0_1] 65 (0, 0)) (by exact BK138.out)) : gb139 ≠ gb138)); clear BK138; clear HB; have BK138 := n0_; have HB := n1_; have BK139 := n2_; have GW139 := n3_; have GE139 := n4_; have NB138_139 := n5_; have NB139_138 := n6_; clear n0_ n1_ n2_ n3_ n4_ n5_ n6_; clear hb hbox hg; have hnb7 := NB138_139.out; have hnc7 := NB139_138.out; have hcz8_0 : w6.cell? ⟨gb138, 0, none⟩ = some (.int .u64 a0_0) := (blk_cell BK138.out 0).trans rfl; have hcz8_1 : w6.cell? ⟨gb138, 1, none⟩ = some (.int .u64 a0_1) := (blk_cell BK138.out 1).trans rfl; have hfz8_0 := blk_frozen BK138.out 0; have hfz8_1 := blk_frozen BK138.out 1) | ((with_reducible refine gate_callee (f := 104) rfl ?_); refine goesL_ (some 16) rfl rfl Tryd.func104 (by kernel_rfl) rfl #[.int .u64 a0_1, .int .u64 a0_0, .int .u64 a1] rfl (by (try simp only [List.map_toArray, List.map_cons, List.map_nil]); first | done | rfl | (simp only [List.length_drop, List.length_take]; rfl)) ?_; (with_reducible refine (gobits_Div64.calls k a0_1 a0_0 a1 t140 t141 _ A4.out).mono ?_); rintro e w' ⟨rfl, ⟨nd, rfl⟩⟩; refine ⟨_, rfl, ?_⟩; (try (rw [drewN_self w6]; generalize hq_ : World.drewN w6 _ = w6; have n0_ : Aside0 (w6.heap[gb138]? = some (.cells #[.int .u64 a0_0, .int .u64 a0_1] 65 (0, 0))) := ⟨by rw [← hq_]; exact (by exact BK138.out)⟩; have n1_ : Aside0 (w6.heap[gb139]? = some (.cells #[.int .u64 0, .int .u64 0] 65 (0, 0))) := ⟨by rw [← hq_]; exact (by exact BK139.out)⟩; have n2_ : Aside0 (Below w.heap.size w w6) := ⟨by rw [← hq_]; exact (by repeat (first | (with_reducible first | exact HB.out | apply below_alloc | apply pw_below_drewN | apply below_drew1 | refine below_set ?_ GE138.out | refine below_set ?_ GE139.out) | exact HB.out))⟩; clear BK138 BK139 HB hq_; have BK138 := n0_; have BK139 := n1_; have HB := n2_; clear n0_ n1_ n2_)); have hcy138_0 : w6.cell? ⟨gb138, 0, none⟩ = some (.int .u64 a0_0) := (blk_cell BK138.out 0).trans rfl; have hfy138_0 := blk_frozen BK138.out 0; have hcy138_1 : w6.cell? ⟨gb138, 1, none⟩ = some (.int .u64 a0_1) := (blk_cell BK138.out 1).trans rfl; have hfy138_1 := blk_frozen BK138.out 1; have hcy139_0 : w6.cell? ⟨gb139, 0, none⟩ = some (.int .u64 0) := (blk_cell BK139.out 0).trans rfl; have hfy139_0 := blk_frozen BK139.out 0; have hcy139_1 : w6.cell? ⟨gb139, 1, none⟩ = some (.int .u64 0) := (blk_cell BK139.out 1).trans rfl; have hfy139_1 := blk_frozen BK139.out 1; have hcz9_0 : w6.cell? ⟨gb139, 0, none⟩ = some (.int .u64 0) := (blk_cell BK139.out 0).trans rfl; have hcz9_1 : w6.cell? ⟨gb139, 1, none⟩ = some (.int .u64 0) := (blk_cell BK139.out 1).trans rfl; have hfz9_0 := blk_frozen BK139.out 0; have hfz9_1 := blk_frozen BK139.out 1))
    refine bodyPost_ret (results_ct rfl _ _ gb139 65 #[.int .u64 t140, .int .u64 0] (0, 0) _ rfl (by (with_reducible repeat (first | refine blk_drewN ?_ _ | refine blk_drew ?_ | refine blk_alloc ?_ _)); refine blk_put (cs := #[.int .u64 0, .int .u64 0]) ?_ 0 _ rfl; (with_reducible repeat (first | refine blk_drewN ?_ _ | refine blk_drew ?_ | refine blk_alloc ?_ _)); exact BK139.out) Tryd.underlying65 rfl (by kernel_rfl)) rfl ?_
    exact ⟨by first | rfl | (simp [errW_none, errW_some] <;> rfl) | (simp [*, errW_none, errW_some] <;> rfl), by repeat (first | (with_reducible first | exact HB.out | apply below_alloc | apply pw_below_drewN | apply below_drew1 | refine below_set ?_ GE138.out | refine below_set ?_ GE139.out) | exact HB.out)⟩
  · rw [if_neg c3] at H
    have c3b0 : decide (a0_1 < a1) = false := decide_eq_false c3
    clear c3
    replace H := Option.bind_eq_some_iff.mp H
    obtain ⟨⟨t142, t143⟩, A100, H⟩ := H
    replace H : ((gobits_Div64.f k t143 a0_0 a1).bind fun bt144 => (some (bt144.1, t142, bt144.2))) = some (r1, r2, r3) := H
    have A10 := Aside0.mk A100
    clear A100
    replace H := Option.bind_eq_some_iff.mp H
    obtain ⟨⟨t144, t145⟩, A110, H⟩ := H
    replace H : (some (t144, t142, t145)) = some (r1, r2, r3) := H
    have A11 := Aside0.mk A110
    clear A110
    simp only [Option.some.injEq, Prod.mk.injEq] at H
    obtain ⟨rfl, rfl, rfl⟩ := H
    go_enter Tryd.func54, Tryd.ntmps54
    go_wp2_with (first | ((with_reducible refine gate_dst (N := 2) rfl ?_); refine box_event ?hg (N := 2) ?hd (cs := #[.int .u64 a0_0, .int .u64 a0_1]) (t := 65) ?hr ?_; (case hd => rfl); (case hg => rfl); (case hr => first | (go_simp; done) | (go_simp; rfl)); intro gb138 hg w12 hbox hb; have n0_ := Aside0.mk (below_step (by repeat (first | (with_reducible first | exact HB.out | apply below_alloc | apply pw_below_drewN | apply below_drew1) | exact HB.out)) hb); have n1_ := Aside0.mk (hbox); have n2_ := Aside0.mk ((by rw [hg]; exact (below_size (by repeat (first | (with_reducible first | exact HB.out | apply below_alloc | apply pw_below_drewN | apply below_drew1) | exact HB.out))) : w.heap.size ≤ gb138)); have n3_ := Aside0.mk ((by rw [hg]; exact (below_size (by repeat (first | (with_reducible first | exact HB.out | apply below_alloc | apply pw_below_drewN | apply below_drew1) | exact HB.out))) : w.heap.size ≤ gb138)); clear HB; have HB := n0_; have BK138 := n1_; have GW138 := n2_; have GE138 := n3_; clear n0_ n1_ n2_ n3_; clear hb hbox hg) | ((with_reducible refine gate_dst (N := 4) rfl ?_); refine box_event ?hg (N := 4) ?hd (cs := #[.int .u64 0, .int .u64 0]) (t := 65) ?hr ?_; (case hd => rfl); (case hg => rfl); (case hr => first | (go_simp; done) | (go_simp; rfl)); intro gb139 hg w13 hbox hb; have n0_ := Aside0.mk (blk_below (g := gb138) (o := .cells #[.int .u64 a0_0, .int .u64 a0_1] 65 (0, 0)) (by exact BK138.out) hb); have n1_ := Aside0.mk (below_step (by repeat (first | (with_reducible first | exact HB.out | apply below_alloc | apply pw_below_drewN | apply below_drew1 | refine below_set ?_ GE138.out) | exact HB.out)) hb); have n2_ := Aside0.mk (hbox); have n3_ := Aside0.mk ((by rw [hg]; exact (below_size (by repeat (first | (with_reducible first | exact HB.out | apply below_alloc | apply pw_below_drewN | apply below_drew1 | refine below_set ?_ GE138.out) | exact HB.out))) : w.heap.size ≤ gb139)); have n4_ := Aside0.mk ((by rw [hg]; exact (below_size (by repeat (first | (with_reducible first | exact HB.out | apply below_alloc | apply pw_below_drewN | apply below_drew1 | refine below_set ?_ GE138.out) | exact HB.out))) : w.heap.size ≤ gb139)); have n5_ := Aside0.mk ((by rw [hg]; exact Nat.ne_of_lt (blk_lt (g := gb138) (o := .cells #[.int .u64 a0_0, .int .u64 a0_1] 65 (0, 0)) (by exact BK138.out)) : gb138 ≠ gb139)); have n6_ := Aside0.mk ((by rw [hg]; exact Nat.ne_of_gt (blk_lt (g := gb138) (o := .cells #[.int .u64 a0_0, .int .u64 a0_1] 65 (0, 0)) (by exact BK138.out)) : gb139 ≠ gb138)); clear BK138; clear HB; have BK138 := n0_; have HB := n1_; have BK139 := n2_; have GW139 := n3_; have GE139 := n4_; have NB138_139 := n5_; have NB139_138 := n6_; clear n0_ n1_ n2_ n3_ n4_ n5_ n6_; clear hb hbox hg; have hnb14 := NB138_139.out; have hnc14 := NB139_138.out; have hcz15_0 : w13.cell? ⟨gb138, 0, none⟩ = some (.int .u64 a0_0) := (blk_cell BK138.out 0).trans rfl; have hcz15_1 : w13.cell? ⟨gb138, 1, none⟩ = some (.int .u64 a0_1) := (blk_cell BK138.out 1).trans rfl; have hfz15_0 := blk_frozen BK138.out 0; have hfz15_1 := blk_frozen BK138.out 1) | ((with_reducible refine gate_callee (f := 104) rfl ?_); refine goesL_ (some 24) rfl rfl Tryd.func104 (by kernel_rfl) rfl #[.int .u64 0, .int .u64 a0_1, .int .u64 a1] rfl (by (try simp only [List.map_toArray, List.map_cons, List.map_nil]); first | done | rfl | (simp only [List.length_drop, List.length_take]; rfl)) ?_; (with_reducible refine (gobits_Div64.calls k 0 a0_1 a1 t142 t143 _ A10.out).mono ?_); rintro e w' ⟨rfl, ⟨nd, rfl⟩⟩; refine ⟨_, rfl, ?_⟩; (try (rw [drewN_self w13]; generalize hq_ : World.drewN w13 _ = w13; have n0_ : Aside0 (w13.heap[gb138]? = some (.cells #[.int .u64 a0_0, .int .u64 a0_1] 65 (0, 0))) := ⟨by rw [← hq_]; exact (by exact BK138.out)⟩; have n1_ : Aside0 (w13.heap[gb139]? = some (.cells #[.int .u64 0, .int .u64 0] 65 (0, 0))) := ⟨by rw [← hq_]; exact (by exact BK139.out)⟩; have n2_ : Aside0 (Below w.heap.size w w13) := ⟨by rw [← hq_]; exact (by repeat (first | (with_reducible first | exact HB.out | apply below_alloc | apply pw_below_drewN | apply below_drew1 | refine below_set ?_ GE138.out | refine below_set ?_ GE139.out) | exact HB.out))⟩; clear BK138 BK139 HB hq_; have BK138 := n0_; have BK139 := n1_; have HB := n2_; clear n0_ n1_ n2_)); have hcy138_0 : w13.cell? ⟨gb138, 0, none⟩ = some (.int .u64 a0_0) := (blk_cell BK138.out 0).trans rfl; have hfy138_0 := blk_frozen BK138.out 0; have hcy138_1 : w13.cell? ⟨gb138, 1, none⟩ = some (.int .u64 a0_1) := (blk_cell BK138.out 1).trans rfl; have hfy138_1 := blk_frozen BK138.out 1; have hcy139_0 : w13.cell? ⟨gb139, 0, none⟩ = some (.int .u64 0) := (blk_cell BK139.out 0).trans rfl; have hfy139_0 := blk_frozen BK139.out 0; have hcy139_1 : w13.cell? ⟨gb139, 1, none⟩ = some (.int .u64 0) := (blk_cell BK139.out 1).trans rfl; have hfy139_1 := blk_frozen BK139.out 1; have hcz16_0 : w13.cell? ⟨gb139, 0, none⟩ = some (.int .u64 0) := (blk_cell BK139.out 0).trans rfl; have hcz16_1 : w13.cell? ⟨gb139, 1, none⟩ = some (.int .u64 0) := (blk_cell BK139.out 1).trans rfl; have hfz16_0 := blk_frozen BK139.out 0; have hfz16_1 := blk_frozen BK139.out 1) | ((with_reducible refine gate_callee (f := 104) rfl ?_); refine goesL_ (some 33) rfl rfl Tryd.func104 (by kernel_rfl) rfl #[.int .u64 t143, .int .u64 a0_0, .int .u64 a1] rfl (by (try simp only [List.map_toArray, List.map_cons, List.map_nil]); first | done | rfl | (simp only [List.length_drop, List.length_take]; rfl)) ?_; (with_reducible refine (gobits_Div64.calls k t143 a0_0 a1 t144 t145 _ A11.out).mono ?_); rintro e w' ⟨rfl, ⟨nd, rfl⟩⟩; refine ⟨_, rfl, ?_⟩))
    refine bodyPost_ret (results_ct rfl _ _ gb139 65 #[.int .u64 t144, .int .u64 t142] (0, 0) _ rfl (by (with_reducible repeat (first | refine blk_drewN ?_ _ | refine blk_drew ?_ | refine blk_alloc ?_ _)); refine blk_put (cs := #[.int .u64 0, .int .u64 t142]) ?_ 0 _ rfl; (with_reducible repeat (first | refine blk_drewN ?_ _ | refine blk_drew ?_ | refine blk_alloc ?_ _)); refine blk_put (cs := #[.int .u64 0, .int .u64 0]) ?_ 1 _ rfl; (with_reducible repeat (first | refine blk_drewN ?_ _ | refine blk_drew ?_ | refine blk_alloc ?_ _)); exact BK139.out) Tryd.underlying65 rfl (by kernel_rfl)) rfl ?_
    exact ⟨by first | rfl | (simp [errW_none, errW_some] <;> rfl) | (simp [*, errW_none, errW_some] <;> rfl), by repeat (first | (with_reducible first | exact HB.out | apply below_alloc | apply pw_below_drewN | apply below_drew1 | refine below_set ?_ GE138.out | refine below_set ?_ GE139.out) | exact HB.out)⟩
/-! ### uint128_Uint128_Cmp: function 73 -/
def uint128_Uint128_Cmp.f (a0_0 a0_1 a1_0 a1_1 : Int) : Option Int := some (if a0_0 = a1_0 ∧ a0_1 = a1_1 then 0 else if a0_1 < a1_1 ∨ (a0_1 = a1_1 ∧ a0_0 < a1_0) then -1 else 1)
set_option maxHeartbeats 1000000 in
set_option maxRecDepth 100000 in
theorem cmp_lt (a b c d : Int) (w : World) (h : b < d) :
    Calls Tryd.prog 73 #[.agg #[.int .u64 a, .int .u64 b], .agg #[.int .u64 c, .int .u64 d]] w fun e w' => e = .returned (.int .i64 (-1)) ∧ Below w.heap.size w w' := by
  have h1 : (b == d) = false := beq_eq_false_iff_ne.mpr (by omega)
  have h2 : decide (b < d) = true := decide_eq_true h
  go_enter Tryd.func73, Tryd.ntmps73
  go_wp2
  go_ret
  exact ⟨rfl, ((Below.refl w.heap.size w).alloc (Nat.le_refl _) _).alloc (by simp) _⟩
set_option maxHeartbeats 1000000 in
set_option maxRecDepth 100000 in
theorem cmp_gt (a b c d : Int) (w : World) (h : d < b) :
    Calls Tryd.prog 73 #[.agg #[.int .u64 a, .int .u64 b], .agg #[.int .u64 c, .int .u64 d]] w fun e w' => e = .returned (.int .i64 1) ∧ Below w.heap.size w w' := by
  have h1 : (b == d) = false := beq_eq_false_iff_ne.mpr (by omega)
  have h2 : decide (b < d) = false := decide_eq_false (by omega)
  go_enter Tryd.func73, Tryd.ntmps73
  go_wp2
  go_ret
  exact ⟨rfl, ((Below.refl w.heap.size w).alloc (Nat.le_refl _) _).alloc (by simp) _⟩
set_option maxHeartbeats 1000000 in
set_option maxRecDepth 100000 in
theorem cmp_lt2 (a b c : Int) (w : World) (h : a < c) :
    Calls Tryd.prog 73 #[.agg #[.int .u64 a, .int .u64 b], .agg #[.int .u64 c, .int .u64 b]] w fun e w' => e = .returned (.int .i64 (-1)) ∧ Below w.heap.size w w' := by
  have h1 : (a == c) = false := beq_eq_false_iff_ne.mpr (by omega)
  have h2 : decide (a < c) = true := decide_eq_true h
  go_enter Tryd.func73, Tryd.ntmps73
  go_wp2
  go_ret
  exact ⟨rfl, ((Below.refl w.heap.size w).alloc (Nat.le_refl _) _).alloc (by simp) _⟩
set_option maxHeartbeats 1000000 in
set_option maxRecDepth 100000 in
theorem cmp_gt2 (a b c : Int) (w : World) (h : c < a) :
    Calls Tryd.prog 73 #[.agg #[.int .u64 a, .int .u64 b], .agg #[.int .u64 c, .int .u64 b]] w fun e w' => e = .returned (.int .i64 1) ∧ Below w.heap.size w w' := by
  have h1 : (a == c) = false := beq_eq_false_iff_ne.mpr (by omega)
  have h2 : decide (a < c) = false := decide_eq_false (by omega)
  go_enter Tryd.func73, Tryd.ntmps73
  go_wp2
  go_ret
  exact ⟨rfl, ((Below.refl w.heap.size w).alloc (Nat.le_refl _) _).alloc (by simp) _⟩
set_option maxHeartbeats 1000000 in
set_option maxRecDepth 100000 in
theorem cmp_eq (a b : Int) (w : World)  :
    Calls Tryd.prog 73 #[.agg #[.int .u64 a, .int .u64 b], .agg #[.int .u64 a, .int .u64 b]] w fun e w' => e = .returned (.int .i64 0) ∧ Below w.heap.size w w' := by
  go_enter Tryd.func73, Tryd.ntmps73
  go_wp2
  go_ret
  exact ⟨rfl, ((Below.refl w.heap.size w).alloc (Nat.le_refl _) _).alloc (by simp) _⟩
theorem uint128_Uint128_Cmp.calls (a0_0 : Int) (a0_1 : Int) (a1_0 : Int) (a1_1 : Int) (r : Int) (w : World) (h : uint128_Uint128_Cmp.f a0_0 a0_1 a1_0 a1_1 = some r) :
    Calls Tryd.prog 73 #[.agg #[.int .u64 a0_0, .int .u64 a0_1], .agg #[.int .u64 a1_0, .int .u64 a1_1]] w fun e w' => e = .returned (.int .i64 r) ∧ Below w.heap.size w w' := by
  unfold uint128_Uint128_Cmp.f at h
  obtain rfl := Option.some.inj h
  clear h
  rcases Int.lt_trichotomy a0_1 a1_1 with hb | hb | hb
  · rw [if_neg (by omega), if_pos (by omega)]
    exact cmp_lt _ _ _ _ w hb
  · subst hb
    rcases Int.lt_trichotomy a0_0 a1_0 with ha | ha | ha
    · rw [if_neg (by omega), if_pos (by omega)]
      exact cmp_lt2 _ _ _ w ha
    · subst ha
      rw [if_pos ⟨rfl, rfl⟩]
      exact cmp_eq _ _ w
    · rw [if_neg (by omega), if_neg (by omega)]
      exact cmp_gt2 _ _ _ w ha
  · rw [if_neg (by omega), if_neg (by omega)]
    exact cmp_gt _ _ _ _ w hb
/-! ### uint128_Uint128_Mul64: function 108 -/
def uint128_Uint128_Mul64.f (a0_0 a0_1 a1 : Int) : Option (Int × Int) :=
  if (U64 a0_0 ∧ U64 a0_1 ∧ U64 a1) ∧ N128 a0_0 a0_1 * a1.toNat < 340282366920938463463374607431768211456 then some (halves (N128 a0_0 a0_1 * a1.toNat)) else none
theorem muln_val (a b c : Nat) : (a + b * 18446744073709551616) * c = a * c + b * c * 18446744073709551616 := by grind
theorem muln_no (a b c : Nat) (h : a * c + b * c * 18446744073709551616 < 340282366920938463463374607431768211456) :
    (((mHi b c : Nat) : Int) != 0) = false ∧ (((aHi (mHi a c) (mLo b c) 0 : Nat) : Int) != 0) = false := by
  have h1 : mHi b c = 0 := by unfold mHi; omega
  have h2 : aHi (mHi a c) (mLo b c) 0 = 0 := by unfold aHi mHi mLo; omega
  rw [h1, h2]
  exact ⟨rfl, rfl⟩
theorem muln_yes (a b c : Nat) (h : ¬ a * c + b * c * 18446744073709551616 < 340282366920938463463374607431768211456) :
    (((mHi b c : Nat) : Int) != 0) = true ∨ ((((mHi b c : Nat) : Int) != 0) = false ∧ (((aHi (mHi a c) (mLo b c) 0 : Nat) : Int) != 0) = true) := by
  by_cases h1 : mHi b c = 0
  · right
    have h2 : aHi (mHi a c) (mLo b c) 0 ≠ 0 := by unfold aHi mHi mLo; unfold mHi at h1; omega
    rw [h1, bne_iff_ne]
    exact ⟨rfl, by omega⟩
  · left
    rw [bne_iff_ne]
    omega
theorem muln_1 (a b c : Nat) (h : a * c + b * c * 18446744073709551616 < 340282366920938463463374607431768211456) : mLo a c = (a * c + b * c * 18446744073709551616) % 18446744073709551616 ∧ aLo (mHi a c) (mLo b c) 0 = (a * c + b * c * 18446744073709551616) / 18446744073709551616 % 18446744073709551616 := by
  unfold aLo mHi mLo
  omega
set_option maxHeartbeats 2000000 in
set_option maxRecDepth 100000 in
theorem mul64n_nat (a b c : Nat) (ha : a < 18446744073709551616) (hb : b < 18446744073709551616) (hc : c < 18446744073709551616) (hk : (((mHi b c : Nat) : Int) != 0) = false ∧ (((aHi (mHi a c) (mLo b c) 0 : Nat) : Int) != 0) = false) (w : World) :
    Calls Tryd.prog 108 #[.agg #[.int .u64 a, .int .u64 b], .int .u64 c] w fun e w' => e = .returned (.agg #[.int .u64 (mLo a c : Int), .int .u64 (aLo (mHi a c) (mLo b c) 0 : Int)]) ∧ Below w.heap.size w w' := by
  have m1 := Lib.hid (mul64_law a c ha hc)
  have m2 := Lib.hid (mul64_law b c hb hc)
  have r1 := run_add64_0 (mHi a c) (mLo b c)
  obtain ⟨k1, k2⟩ := hk
  clear ha hb hc
  go_enter Tryd.func108, Tryd.ntmps108
  go_wp2_with fail
  refine (bits_Mul64.calls _ _ _ _ _ m1.out).mono ?_
  rintro e w1 ⟨rfl, ⟨⟨n1, rfl⟩⟩⟩
  go_wp2_with fail
  refine (bits_Mul64.calls _ _ _ _ _ m2.out).mono ?_
  rintro e w1 ⟨rfl, ⟨⟨n2, rfl⟩⟩⟩
  go_wp2
  refine bodyPost_ret (v := .agg #[.int .u64 (mLo a c : Int), .int .u64 (aLo (mHi a c) (mLo b c) 0 : Int)]) (by simp [results, Tryd.results108, go_sem]) rfl ⟨rfl, ?_⟩
  exact by repeat (first | exact Below.refl _ _ | apply pw_below_drewN | apply below_alloc | refine Below.setCell ?_ (by (try simp only [Nat.le_refl]); omega) _)
set_option maxHeartbeats 2000000 in
set_option maxRecDepth 100000 in
theorem mul64n_panics (a b c : Nat) (ha : a < 18446744073709551616) (hb : b < 18446744073709551616) (hc : c < 18446744073709551616) (hk : (((mHi b c : Nat) : Int) != 0) = true ∨ ((((mHi b c : Nat) : Int) != 0) = false ∧ (((aHi (mHi a c) (mLo b c) 0 : Nat) : Int) != 0) = true)) (w : World) :
    Calls Tryd.prog 108 #[.agg #[.int .u64 a, .int .u64 b], .int .u64 c] w fun e w' => (∃ pv, e = .panicked [{ v := .iface 9 pv, recovered := false }]) ∧ Below w.heap.size w w' := by
  have m1 := Lib.hid (mul64_law a c ha hc)
  have m2 := Lib.hid (mul64_law b c hb hc)
  have r1 := run_add64_0 (mHi a c) (mLo b c)
  clear ha hb hc
  rcases hk with k1 | ⟨k1, k2⟩
  all_goals
    go_enter Tryd.func108, Tryd.ntmps108
    go_wp2_with fail
    refine (bits_Mul64.calls _ _ _ _ _ m1.out).mono ?_
    rintro e w1 ⟨rfl, ⟨⟨n1, rfl⟩⟩⟩
    go_wp2_with fail
    refine (bits_Mul64.calls _ _ _ _ _ m2.out).mono ?_
    rintro e w1 ⟨rfl, ⟨⟨n2, rfl⟩⟩⟩
    go_wp2
    exact ⟨rfl, ⟨_, rfl⟩, by repeat (first | exact Below.refl _ _ | apply pw_below_drewN | apply below_alloc | refine Below.setCell ?_ (by (try simp only [Nat.le_refl]); omega) _)⟩
theorem uint128_Uint128_Mul64.calls (a0_0 : Int) (a0_1 : Int) (a1 : Int) (r1 : Int) (r2 : Int) (w : World) (h : uint128_Uint128_Mul64.f a0_0 a0_1 a1 = some (r1, r2)) :
    Calls Tryd.prog 108 #[.agg #[.int .u64 a0_0, .int .u64 a0_1], .int .u64 a1] w fun e w' => e = .returned (.agg #[.int .u64 r1, .int .u64 r2]) ∧ Below w.heap.size w w' := by
  unfold uint128_Uint128_Mul64.f at h
  split at h
  case isFalse => cases h
  rename_i hb
  obtain ⟨⟨ka, kb, kc⟩, kx⟩ := hb
  obtain ⟨a, rfl, ha⟩ := ka.nat
  obtain ⟨b, rfl, hb⟩ := kb.nat
  obtain ⟨c, rfl, hc⟩ := kc.nat
  have e := Option.some.inj h
  simp only [halves, N128, Int.toNat_natCast, Prod.mk.injEq, muln_val] at e kx
  rw [← (muln_1 a b c kx).1, ← (muln_1 a b c kx).2] at e
  obtain ⟨rfl, rfl⟩ := e
  exact mul64n_nat a b c ha hb hc (muln_no a b c kx) w
theorem uint128_Uint128_Mul64.panics (a0_0 : Int) (a0_1 : Int) (a1 : Int) (w : World) (hu : U64 a0_0 ∧ U64 a0_1 ∧ U64 a1) (h : ¬ (N128 a0_0 a0_1 * a1.toNat < 340282366920938463463374607431768211456)) :
    Calls Tryd.prog 108 #[.agg #[.int .u64 a0_0, .int .u64 a0_1], .int .u64 a1] w fun e w' => (∃ pv, e = .panicked [{ v := .iface 9 pv, recovered := false }]) ∧ Below w.heap.size w w' := by
  obtain ⟨ka, kb, kc⟩ := hu
  obtain ⟨a, rfl, ha⟩ := ka.nat
  obtain ⟨b, rfl, hb⟩ := kb.nat
  obtain ⟨c, rfl, hc⟩ := kc.nat
  simp only [N128, Int.toNat_natCast, muln_val] at h
  exact mul64n_panics a b c ha hb hc (muln_yes a b c h) w
/-! ### uint128_Uint128_Add64: function 109 -/
theorem addw64_1 (a b c : Nat) : aLo a c 0 = (a + b * 18446744073709551616 + c) % 18446744073709551616 := by unfold aLo; omega
theorem addw64_2 (a b c : Nat) (ha : a < 18446744073709551616) (hc : c < 18446744073709551616) : aLo b 0 (aHi a c 0) = (a + b * 18446744073709551616 + c) / 18446744073709551616 % 18446744073709551616 := by unfold aLo aHi; omega
def uint128_Uint128_Add64.f (a0_0 a0_1 a1 : Int) : Option (Int × Int) :=
  if U64 a0_0 ∧ U64 a0_1 ∧ U64 a1 ∧ N128 a0_0 a0_1 + a1.toNat < 340282366920938463463374607431768211456 then some (halves (N128 a0_0 a0_1 + a1.toNat)) else none
theorem addn_no (a b c : Nat) (ha : a < 18446744073709551616) (hc : c < 18446744073709551616) (h : a + b * 18446744073709551616 + c < 340282366920938463463374607431768211456) : (((aHi b 0 (aHi a c 0) : Nat) : Int) != 0) = false := by
  have : aHi b 0 (aHi a c 0) = 0 := by unfold aHi; omega
  rw [this]; rfl
theorem addn_yes (a b c : Nat) (ha : a < 18446744073709551616) (hc : c < 18446744073709551616) (h : ¬ a + b * 18446744073709551616 + c < 340282366920938463463374607431768211456) : (((aHi b 0 (aHi a c 0) : Nat) : Int) != 0) = true := by
  have : aHi b 0 (aHi a c 0) ≠ 0 := by unfold aHi; omega
  rw [bne_iff_ne]; omega
set_option maxHeartbeats 2000000 in
set_option maxRecDepth 100000 in
theorem addn_nat (a b c : Nat) (ha : a < 18446744073709551616) (hb : b < 18446744073709551616) (hc : c < 18446744073709551616) (hk : (((aHi b 0 (aHi a c 0) : Nat) : Int) != 0) = false) (w : World) :
    Calls Tryd.prog 109 #[.agg #[.int .u64 a, .int .u64 b], .int .u64 c] w fun e w' => e = .returned (.agg #[.int .u64 (aLo a c 0 : Int), .int .u64 (aLo b 0 (aHi a c 0) : Int)]) ∧ Below w.heap.size w w' := by
  have r1 := run_add64_0 a c
  have r2 := run_add64_zc b (aHi a c 0) (aHi_le ha hc (by decide))
  clear ha hb hc
  go_enter Tryd.func109, Tryd.ntmps109
  go_wp2
  refine bodyPost_ret (v := .agg #[.int .u64 (aLo a c 0 : Int), .int .u64 (aLo b 0 (aHi a c 0) : Int)]) (by simp [results, Tryd.results109, go_sem]) rfl ⟨rfl, ?_⟩
  exact ((Below.refl w.heap.size w).alloc (Nat.le_refl _) _).alloc (by simp) _
set_option maxHeartbeats 2000000 in
set_option maxRecDepth 100000 in
theorem addn_nat_panics (a b c : Nat) (ha : a < 18446744073709551616) (hb : b < 18446744073709551616) (hc : c < 18446744073709551616) (hk : (((aHi b 0 (aHi a c 0) : Nat) : Int) != 0) = true) (w : World) :
    Calls Tryd.prog 109 #[.agg #[.int .u64 a, .int .u64 b], .int .u64 c] w fun e w' => (∃ pv, e = .panicked [{ v := .iface 9 pv, recovered := false }]) ∧ Below w.heap.size w w' := by
  have r1 := run_add64_0 a c
  have r2 := run_add64_zc b (aHi a c 0) (aHi_le ha hc (by decide))
  clear ha hb hc
  go_enter Tryd.func109, Tryd.ntmps109
  go_wp2
  exact ⟨rfl, ⟨_, rfl⟩, ((Below.refl w.heap.size w).alloc (Nat.le_refl _) _).alloc (by simp) _⟩
theorem uint128_Uint128_Add64.calls (a0_0 : Int) (a0_1 : Int) (a1 : Int) (r1 : Int) (r2 : Int) (w : World) (h : uint128_Uint128_Add64.f a0_0 a0_1 a1 = some (r1, r2)) :
    Calls Tryd.prog 109 #[.agg #[.int .u64 a0_0, .int .u64 a0_1], .int .u64 a1] w fun e w' => e = .returned (.agg #[.int .u64 r1, .int .u64 r2]) ∧ Below w.heap.size w w' := by
  unfold uint128_Uint128_Add64.f at h
  split at h
  case isFalse => cases h
  rename_i hb
  obtain ⟨ka, kb, kc, kx⟩ := hb
  obtain ⟨a, rfl, ha⟩ := ka.nat
  obtain ⟨b, rfl, hb⟩ := kb.nat
  obtain ⟨c, rfl, hc⟩ := kc.nat
  have e := Option.some.inj h
  simp only [halves, N128, Int.toNat_natCast, Prod.mk.injEq] at e kx
  rw [← addw64_1 a b c, ← addw64_2 a b c ha hc] at e
  obtain ⟨rfl, rfl⟩ := e
  exact addn_nat a b c ha hb hc (addn_no a b c ha hc kx) w
theorem uint128_Uint128_Add64.panics (a0_0 : Int) (a0_1 : Int) (a1 : Int) (w : World) (hu : U64 a0_0 ∧ U64 a0_1 ∧ U64 a1) (h : ¬ (N128 a0_0 a0_1 + a1.toNat < 340282366920938463463374607431768211456)) :
    Calls Tryd.prog 109 #[.agg #[.int .u64 a0_0, .int .u64 a0_1], .int .u64 a1] w fun e w' => (∃ pv, e = .panicked [{ v := .iface 9 pv, recovered := false }]) ∧ Below w.heap.size w w' := by
  obtain ⟨ka, kb, kc⟩ := hu
  obtain ⟨a, rfl, ha⟩ := ka.nat
  obtain ⟨b, rfl, hb⟩ := kb.nat
  obtain ⟨c, rfl, hc⟩ := kc.nat
  simp only [N128, Int.toNat_natCast] at h
  exact addn_nat_panics a b c ha hb hc (addn_yes a b c ha hc h) w
end Go.Proofs.YtiifnofghicnaaaDoor.PAll
