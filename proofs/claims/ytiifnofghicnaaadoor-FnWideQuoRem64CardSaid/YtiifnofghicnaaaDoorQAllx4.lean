/- Printed by the kit's print.py, called for several laws at once: functions as plain Lean, and the walks' contracts. -/
import Derived.Test.YtiifnofghicnaaaDoorQAllx0
import Derived.Test.YtiifnofghicnaaaDoorQAllx1
import Derived.Test.YtiifnofghicnaaaDoorQAllx2
import Derived.Test.YtiifnofghicnaaaDoorQAllx3
namespace Go.Proofs.YtiifnofghicnaaaDoor.PAll
open Go.RowKit Go.Proofs.YtiifnofghicnaaaDoorW.PrintWords Go.Proofs.YtiifnofghicnaaaDoorW.PrintLast Go.Proofs.YtiifnofghicnaaaDoorW.PrintMore
attribute [local go_sem] max2_int min2_int max_two min_two max_three min_three max_four min_four   -- for this text's walks alone
set_option linter.unusedVariables false
set_option linter.unusedSimpArgs false
/-! ### uint128_Uint128_QuoRem: function 64 -/
def uint128_Uint128_QuoRem.j0 : Nat → Int → Int → Int → Int → Int → Option (Int × Int × Int × Int)
  | 0, _, _, _, _, _ => none
  | k + 1, x10, x298000, x298001, x299000, x299001 => (uint128_From64.f x10).bind fun bt315 => ((uint128_Uint128_Mul64.f x299000 x299001 x10).bind fun bt317 => ((uint128_Uint128_Sub.f x298000 x298001 bt317.1 bt317.2).bind fun bt319 => ((uint128_Uint128_Cmp.f bt319.1 bt319.2 x299000 x299001).bind fun t321 => (if t321 ≥ 0 then ((uint128_Uint128_Add64.f bt315.1 bt315.2 1).bind fun bt322 => ((uint128_Uint128_Sub.f bt319.1 bt319.2 x299000 x299001).bind fun bt324 => (some (bt322.1, bt322.2, bt324.1, bt324.2)))) else (some (bt315.1, bt315.2, bt319.1, bt319.2))))))
def uint128_Uint128_QuoRem.f (k : Nat) (a0_0 : Int) (a0_1 : Int) (a1_0 : Int) (a1_1 : Int) : Option (Int × Int × Int × Int) := if a1_1 = 0 then ((uint128_Uint128_QuoRem64.f k a0_0 a0_1 a1_0).bind fun bt301 => ((uint128_From64.f bt301.2.2).bind fun bt304 => (some (bt301.1, bt301.2.1, bt304.1, bt304.2)))) else ((bits_LeadingZeros64.f a1_1).bind fun t306 => ((uint128_Uint128_Lsh.f a1_0 a1_1 (IntKind.u64.wrap (t306))).bind fun bt307 => ((uint128_Uint128_Rsh.f a0_0 a0_1 1).bind fun bt310 => ((gobits_Div64.f k bt310.2 bt310.1 bt307.2).bind fun bt313 => (if 0 ≤ (IntKind.u64.wrap (63 - (IntKind.u64.wrap (t306)))) then (if (shr .u64 bt313.1 (IntKind.u64.wrap (63 - (IntKind.u64.wrap (t306))))) = 0 then (uint128_Uint128_QuoRem.j0 k (shr .u64 bt313.1 (IntKind.u64.wrap (63 - (IntKind.u64.wrap (t306))))) a0_0 a0_1 a1_0 a1_1) else (uint128_Uint128_QuoRem.j0 k (IntKind.u64.wrap ((shr .u64 bt313.1 (IntKind.u64.wrap (63 - (IntKind.u64.wrap (t306))))) - 1)) a0_0 a0_1 a1_0 a1_1)) else (none))))))
theorem uint128_Uint128_QuoRem.mono_l : ∀ k, (∀ y0 y1 y2 y3 y4, LeO (uint128_Uint128_QuoRem.j0 k y0 y1 y2 y3 y4) (uint128_Uint128_QuoRem.j0 (k + 1) y0 y1 y2 y3 y4))
  | 0 => fun _ _ _ _ _ r h => by simp [uint128_Uint128_QuoRem.j0] at h
  | k + 1 => by
    have ih0 := uint128_Uint128_QuoRem.mono_l k
    · intro y0 y1 y2 y3 y4
      unfold uint128_Uint128_QuoRem.j0
      repeat' first
      | (with_reducible exact ih0 _ _ _ _ _)
      | (with_reducible exact gobits_Div64.mono _ _ _ _)
      | (with_reducible exact uint128_Uint128_QuoRem64.mono _ _ _ _)
      | (with_reducible exact LeO.refl _)
      | (with_reducible exact LeO.none _)
      | (with_reducible refine LeO.ite ?_ ?_)
      | (with_reducible refine LeO.bind ?_ (fun _ => ?_))
      | exact ih0 _ _ _ _ _
      | exact gobits_Div64.mono _ _ _ _
      | exact uint128_Uint128_QuoRem64.mono _ _ _ _
      | exact LeO.none _
      | refine LeO.ite ?_ ?_
      | refine LeO.bind ?_ (fun _ => ?_)
theorem uint128_Uint128_QuoRem.mono : ∀ a0 a1 a2 a3 k, LeO (uint128_Uint128_QuoRem.f k a0 a1 a2 a3) (uint128_Uint128_QuoRem.f (k + 1) a0 a1 a2 a3) := by
  intro a0 a1 a2 a3 k
  have ih0 := uint128_Uint128_QuoRem.mono_l k
  unfold uint128_Uint128_QuoRem.f
  repeat' first
      | (with_reducible exact ih0 _ _ _ _ _)
      | (with_reducible exact gobits_Div64.mono _ _ _ _)
      | (with_reducible exact uint128_Uint128_QuoRem64.mono _ _ _ _)
      | (with_reducible exact LeO.refl _)
      | (with_reducible exact LeO.none _)
      | (with_reducible refine LeO.ite ?_ ?_)
      | (with_reducible refine LeO.bind ?_ (fun _ => ?_))
      | exact ih0 _ _ _ _ _
      | exact gobits_Div64.mono _ _ _ _
      | exact uint128_Uint128_QuoRem64.mono _ _ _ _
      | exact LeO.none _
      | refine LeO.ite ?_ ?_
      | refine LeO.bind ?_ (fun _ => ?_)
set_option maxHeartbeats 8000000 in
set_option maxRecDepth 100000 in
theorem uint128_Uint128_QuoRem.calls (k : Nat) (a0_0 : Int) (a0_1 : Int) (a1_0 : Int) (a1_1 : Int) (r1 : Int) (r2 : Int) (r3 : Int) (r4 : Int) (w : World) (h : uint128_Uint128_QuoRem.f k a0_0 a0_1 a1_0 a1_1 = some (r1, r2, r3, r4)) :
    Calls Tryd.prog 64 #[.agg #[.int .u64 a0_0, .int .u64 a0_1], .agg #[.int .u64 a1_0, .int .u64 a1_1]] w fun e w' => e = .returned (.tuple #[.agg #[.int .u64 r1, .int .u64 r2], .agg #[.int .u64 r3, .int .u64 r4]]) ∧ Below w.heap.size w w' := by
  have hu65 := Tryd.underlying65
  have HB := Aside0.mk (Below.refl w.heap.size w)
  have H : (if a1_1 = 0 then ((uint128_Uint128_QuoRem64.f k a0_0 a0_1 a1_0).bind fun bt301 => ((uint128_From64.f bt301.2.2).bind fun bt304 => (some (bt301.1, bt301.2.1, bt304.1, bt304.2)))) else ((bits_LeadingZeros64.f a1_1).bind fun t306 => ((uint128_Uint128_Lsh.f a1_0 a1_1 (IntKind.u64.wrap (t306))).bind fun bt307 => ((uint128_Uint128_Rsh.f a0_0 a0_1 1).bind fun bt310 => ((gobits_Div64.f k bt310.2 bt310.1 bt307.2).bind fun bt313 => (if 0 ≤ (IntKind.u64.wrap (63 - (IntKind.u64.wrap (t306)))) then (if (shr .u64 bt313.1 (IntKind.u64.wrap (63 - (IntKind.u64.wrap (t306))))) = 0 then (uint128_Uint128_QuoRem.j0 k (shr .u64 bt313.1 (IntKind.u64.wrap (63 - (IntKind.u64.wrap (t306))))) a0_0 a0_1 a1_0 a1_1) else (uint128_Uint128_QuoRem.j0 k (IntKind.u64.wrap ((shr .u64 bt313.1 (IntKind.u64.wrap (63 - (IntKind.u64.wrap (t306))))) - 1)) a0_0 a0_1 a1_0 a1_1)) else (none))))))) = some (r1, r2, r3, r4) := h
  clear h
  by_cases c3 : a1_1 = 0
  · rw [if_pos c3] at H
    have c3b0 : (a1_1 == 0) = true := beq_iff_eq.mpr c3
    have c3b1 : (a1_1 != 0) = false := bne_eq_false_iff_eq.mpr c3
    clear c3
    replace H := Option.bind_eq_some_iff.mp H
    obtain ⟨⟨t301, t302, t303⟩, A40, H⟩ := H
    replace H : ((uint128_From64.f t303).bind fun bt304 => (some (t301, t302, bt304.1, bt304.2))) = some (r1, r2, r3, r4) := H
    have A4 := Aside0.mk A40
    clear A40
    replace H := Option.bind_eq_some_iff.mp H
    obtain ⟨⟨t304, t305⟩, A50, H⟩ := H
    replace H : (some (t301, t302, t304, t305)) = some (r1, r2, r3, r4) := H
    have A5 := Aside0.mk A50
    clear A50
    simp only [Option.some.injEq, Prod.mk.injEq] at H
    obtain ⟨rfl, rfl, rfl, rfl⟩ := H
    go_enter Tryd.func64, Tryd.ntmps64
    go_wp2_with (first | ((with_reducible refine gate_dst (N := 2) rfl ?_); refine box_event ?hg (N := 2) ?hd (cs := #[.int .u64 a0_0, .int .u64 a0_1]) (t := 65) ?hr ?_; (case hd => rfl); (case hg => rfl); (case hr => first | (go_simp; done) | (go_simp; rfl)); intro gb297 hg w6 hbox hb; have n0_ := Aside0.mk (below_step (by repeat (first | (with_reducible first | exact HB.out | apply below_alloc | apply pw_below_drewN | apply below_drew1) | exact HB.out)) hb); have n1_ := Aside0.mk (hbox); have n2_ := Aside0.mk ((by rw [hg]; exact (below_size (by repeat (first | (with_reducible first | exact HB.out | apply below_alloc | apply pw_below_drewN | apply below_drew1) | exact HB.out))) : w.heap.size ≤ gb297)); have n3_ := Aside0.mk ((by rw [hg]; exact (below_size (by repeat (first | (with_reducible first | exact HB.out | apply below_alloc | apply pw_below_drewN | apply below_drew1) | exact HB.out))) : w.heap.size ≤ gb297)); clear HB; have HB := n0_; have BK297 := n1_; have GW297 := n2_; have GE297 := n3_; clear n0_ n1_ n2_ n3_; clear hb hbox hg) | ((with_reducible refine gate_dst (N := 3) rfl ?_); refine box_event ?hg (N := 3) ?hd (cs := #[.int .u64 a1_0, .int .u64 a1_1]) (t := 65) ?hr ?_; (case hd => rfl); (case hg => rfl); (case hr => first | (go_simp; done) | (go_simp; rfl)); intro gb298 hg w7 hbox hb; have n0_ := Aside0.mk (blk_below (g := gb297) (o := .cells #[.int .u64 a0_0, .int .u64 a0_1] 65 (0, 0)) (by exact BK297.out) hb); have n1_ := Aside0.mk (below_step (by repeat (first | (with_reducible first | exact HB.out | apply below_alloc | apply pw_below_drewN | apply below_drew1 | refine below_set ?_ GE297.out) | exact HB.out)) hb); have n2_ := Aside0.mk (hbox); have n3_ := Aside0.mk ((by rw [hg]; exact (below_size (by repeat (first | (with_reducible first | exact HB.out | apply below_alloc | apply pw_below_drewN | apply below_drew1 | refine below_set ?_ GE297.out) | exact HB.out))) : w.heap.size ≤ gb298)); have n4_ := Aside0.mk ((by rw [hg]; exact (below_size (by repeat (first | (with_reducible first | exact HB.out | apply below_alloc | apply pw_below_drewN | apply below_drew1 | refine below_set ?_ GE297.out) | exact HB.out))) : w.heap.size ≤ gb298)); have n5_ := Aside0.mk ((by rw [hg]; exact Nat.ne_of_lt (blk_lt (g := gb297) (o := .cells #[.int .u64 a0_0, .int .u64 a0_1] 65 (0, 0)) (by exact BK297.out)) : gb297 ≠ gb298)); have n6_ := Aside0.mk ((by rw [hg]; exact Nat.ne_of_gt (blk_lt (g := gb297) (o := .cells #[.int .u64 a0_0, .int .u64 a0_1] 65 (0, 0)) (by exact BK297.out)) : gb298 ≠ gb297)); clear BK297; clear HB; have BK297 := n0_; have HB := n1_; have BK298 := n2_; have GW298 := n3_; have GE298 := n4_; have NB297_298 := n5_; have NB298_297 := n6_; clear n0_ n1_ n2_ n3_ n4_ n5_ n6_; clear hb hbox hg) | ((with_reducible refine gate_dst (N := 4) rfl ?_); refine box_event ?hg (N := 4) ?hd (cs := #[.int .u64 0, .int .u64 0]) (t := 65) ?hr ?_; (case hd => rfl); (case hg => rfl); (case hr => first | (go_simp; done) | (go_simp; rfl)); intro gb299 hg w8 hbox hb; have n0_ := Aside0.mk (blk_below (g := gb297) (o := .cells #[.int .u64 a0_0, .int .u64 a0_1] 65 (0, 0)) (by exact BK297.out) hb); have n1_ := Aside0.mk (blk_below (g := gb298) (o := .cells #[.int .u64 a1_0, .int .u64 a1_1] 65 (0, 0)) (by exact BK298.out) hb); have n2_ := Aside0.mk (below_step (by repeat (first | (with_reducible first | exact HB.out | apply below_alloc | apply pw_below_drewN | apply below_drew1 | refine below_set ?_ GE297.out | refine below_set ?_ GE298.out) | exact HB.out)) hb); have n3_ := Aside0.mk (hbox); have n4_ := Aside0.mk ((by rw [hg]; exact (below_size (by repeat (first | (with_reducible first | exact HB.out | apply below_alloc | apply pw_below_drewN | apply below_drew1 | refine below_set ?_ GE297.out | refine below_set ?_ GE298.out) | exact HB.out))) : w.heap.size ≤ gb299)); have n5_ := Aside0.mk ((by rw [hg]; exact (below_size (by repeat (first | (with_reducible first | exact HB.out | apply below_alloc | apply pw_below_drewN | apply below_drew1 | refine below_set ?_ GE297.out | refine below_set ?_ GE298.out) | exact HB.out))) : w.heap.size ≤ gb299)); have n6_ := Aside0.mk ((by rw [hg]; exact Nat.ne_of_lt (blk_lt (g := gb297) (o := .cells #[.int .u64 a0_0, .int .u64 a0_1] 65 (0, 0)) (by exact BK297.out)) : gb297 ≠ gb299)); have n7_ := Aside0.mk ((by rw [hg]; exact Nat.ne_of_gt (blk_lt (g := gb297) (o := .cells #[.int .u64 a0_0, .int .u64 a0_1] 65 (0, 0)) (by exact BK297.out)) : gb299 ≠ gb297)); have n8_ := Aside0.mk ((by rw [hg]; exact Nat.ne_of_lt (blk_lt (g := gb298) (o := .cells #[.int .u64 a1_0, .int .u64 a1_1] 65 (0, 0)) (by exact BK298.out)) : gb298 ≠ gb299)); have n9_ := Aside0.mk ((by rw [hg]; exact Nat.ne_of_gt (blk_lt (g := gb298) (o := .cells #[.int .u64 a1_0, .int .u64 a1_1] 65 (0, 0)) (by exact BK298.out)) : gb299 ≠ gb298)); clear BK297; clear BK298; clear HB; have BK297 := n0_; have BK298 := n1_; have HB := n2_; have BK299 := n3_; have GW299 := n4_; have GE299 := n5_; have NB297_299 := n6_; have NB299_297 := n7_; have NB298_299 := n8_; have NB299_298 := n9_; clear n0_ n1_ n2_ n3_ n4_ n5_ n6_ n7_ n8_ n9_; clear hb hbox hg) | ((with_reducible refine gate_dst (N := 5) rfl ?_); refine box_event ?hg (N := 5) ?hd (cs := #[.int .u64 0, .int .u64 0]) (t := 65) ?hr ?_; (case hd => rfl); (case hg => rfl); (case hr => first | (go_simp; done) | (go_simp; rfl)); intro gb300 hg w9 hbox hb; have n0_ := Aside0.mk (blk_below (g := gb297) (o := .cells #[.int .u64 a0_0, .int .u64 a0_1] 65 (0, 0)) (by exact BK297.out) hb); have n1_ := Aside0.mk (blk_below (g := gb298) (o := .cells #[.int .u64 a1_0, .int .u64 a1_1] 65 (0, 0)) (by exact BK298.out) hb); have n2_ := Aside0.mk (blk_below (g := gb299) (o := .cells #[.int .u64 0, .int .u64 0] 65 (0, 0)) (by exact BK299.out) hb); have n3_ := Aside0.mk (below_step (by repeat (first | (with_reducible first | exact HB.out | apply below_alloc | apply pw_below_drewN | apply below_drew1 | refine below_set ?_ GE297.out | refine below_set ?_ GE298.out | refine below_set ?_ GE299.out) | exact HB.out)) hb); have n4_ := Aside0.mk (hbox); have n5_ := Aside0.mk ((by rw [hg]; exact (below_size (by repeat (first | (with_reducible first | exact HB.out | apply below_alloc | apply pw_below_drewN | apply below_drew1 | refine below_set ?_ GE297.out | refine below_set ?_ GE298.out | refine below_set ?_ GE299.out) | exact HB.out))) : w.heap.size ≤ gb300)); have n6_ := Aside0.mk ((by rw [hg]; exact (below_size (by repeat (first | (with_reducible first | exact HB.out | apply below_alloc | apply pw_below_drewN | apply below_drew1 | refine below_set ?_ GE297.out | refine below_set ?_ GE298.out | refine below_set ?_ GE299.out) | exact HB.out))) : w.heap.size ≤ gb300)); have n7_ := Aside0.mk ((by rw [hg]; exact Nat.ne_of_lt (blk_lt (g := gb297) (o := .cells #[.int .u64 a0_0, .int .u64 a0_1] 65 (0, 0)) (by exact BK297.out)) : gb297 ≠ gb300)); have n8_ := Aside0.mk ((by rw [hg]; exact Nat.ne_of_gt (blk_lt (g := gb297) (o := .cells #[.int .u64 a0_0, .int .u64 a0_1] 65 (0, 0)) (by exact BK297.out)) : gb300 ≠ gb297)); have n9_ := Aside0.mk ((by rw [hg]; exact Nat.ne_of_lt (blk_lt (g := gb298) (o := .cells #[.int .u64 a1_0, .int .u64 a1_1] 65 (0, 0)) (by exact BK298.out)) : gb298 ≠ gb300)); have n10_ := Aside0.mk ((by rw [hg]; exact Nat.ne_of_gt (blk_lt (g := gb298) (o := .cells #[.int .u64 a1_0, .int .u64 a1_1] 65 (0, 0)) (by exact BK298.out)) : gb300 ≠ gb298)); have n11_ := Aside0.mk ((by rw [hg]; exact Nat.ne_of_lt (blk_lt (g := gb299) (o := .cells #[.int .u64 0, .int .u64 0] 65 (0, 0)) (by exact BK299.out)) : gb299 ≠ gb300)); have n12_ := Aside0.mk ((by rw [hg]; exact Nat.ne_of_gt (blk_lt (g := gb299) (o := .cells #[.int .u64 0, .int .u64 0] 65 (0, 0)) (by exact BK299.out)) : gb300 ≠ gb299)); clear BK297; clear BK298; clear BK299; clear HB; have BK297 := n0_; have BK298 := n1_; have BK299 := n2_; have HB := n3_; have BK300 := n4_; have GW300 := n5_; have GE300 := n6_; have NB297_300 := n7_; have NB300_297 := n8_; have NB298_300 := n9_; have NB300_298 := n10_; have NB299_300 := n11_; have NB300_299 := n12_; clear n0_ n1_ n2_ n3_ n4_ n5_ n6_ n7_ n8_ n9_ n10_ n11_ n12_; clear hb hbox hg; have hnb10 := NB298_297.out; have hnc10 := NB297_298.out; have hnb11 := NB298_299.out; have hnc11 := NB299_298.out; have hnb12 := NB298_300.out; have hnc12 := NB300_298.out; have hcz13_0 : w9.cell? ⟨gb298, 0, none⟩ = some (.int .u64 a1_0) := (blk_cell BK298.out 0).trans rfl; have hcz13_1 : w9.cell? ⟨gb298, 1, none⟩ = some (.int .u64 a1_1) := (blk_cell BK298.out 1).trans rfl; have hfz13_0 := blk_frozen BK298.out 0; have hfz13_1 := blk_frozen BK298.out 1; have hnb14 := NB297_299.out; have hnc14 := NB299_297.out; have hnb15 := NB297_300.out; have hnc15 := NB300_297.out; have hcz16_0 : w9.cell? ⟨gb297, 0, none⟩ = some (.int .u64 a0_0) := (blk_cell BK297.out 0).trans rfl; have hcz16_1 : w9.cell? ⟨gb297, 1, none⟩ = some (.int .u64 a0_1) := (blk_cell BK297.out 1).trans rfl; have hfz16_0 := blk_frozen BK297.out 0; have hfz16_1 := blk_frozen BK297.out 1) | ((with_reducible refine gate_callee (f := 54) rfl ?_); refine goesL_ (some 19) rfl rfl Tryd.func54 (by kernel_rfl) rfl #[.agg #[.int .u64 a0_0, .int .u64 a0_1], .int .u64 a1_0] rfl (by (try simp only [List.map_toArray, List.map_cons, List.map_nil]); first | done | rfl | (simp only [List.length_drop, List.length_take]; rfl)) ?_; (with_reducible refine (uint128_Uint128_QuoRem64.calls k a0_0 a0_1 a1_0 t301 t302 t303 _ A4.out).mono ?_); rintro e w17 ⟨rfl, hb⟩; refine ⟨_, rfl, ?_⟩; have n0_ := Aside0.mk (blk_below (g := gb297) (o := .cells #[.int .u64 a0_0, .int .u64 a0_1] 65 (0, 0)) (by exact BK297.out) hb); have n1_ := Aside0.mk (blk_below (g := gb298) (o := .cells #[.int .u64 a1_0, .int .u64 a1_1] 65 (0, 0)) (by exact BK298.out) hb); have n2_ := Aside0.mk (blk_below (g := gb299) (o := .cells #[.int .u64 0, .int .u64 0] 65 (0, 0)) (by exact BK299.out) hb); have n3_ := Aside0.mk (blk_below (g := gb300) (o := .cells #[.int .u64 0, .int .u64 0] 65 (0, 0)) (by exact BK300.out) hb); have n4_ := Aside0.mk (below_step (by repeat (first | (with_reducible first | exact HB.out | apply below_alloc | apply pw_below_drewN | apply below_drew1 | refine below_set ?_ GE297.out | refine below_set ?_ GE298.out | refine below_set ?_ GE299.out | refine below_set ?_ GE300.out) | exact HB.out)) hb); clear BK297; clear BK298; clear BK299; clear BK300; clear HB; have BK297 := n0_; have BK298 := n1_; have BK299 := n2_; have BK300 := n3_; have HB := n4_; clear n0_ n1_ n2_ n3_ n4_; (try clear hb); (try clear hb2); (try clear hk); (try clear hi); have hnb18 := NB299_300.out; have hnc18 := NB300_299.out; have hcz19_0 : w17.cell? ⟨gb299, 0, none⟩ = some (.int .u64 0) := (blk_cell BK299.out 0).trans rfl; have hcz19_1 : w17.cell? ⟨gb299, 1, none⟩ = some (.int .u64 0) := (blk_cell BK299.out 1).trans rfl; have hfz19_0 := blk_frozen BK299.out 0; have hfz19_1 := blk_frozen BK299.out 1) | ((with_reducible refine gate_callee (f := 42) rfl ?_); refine goesL_ (some 23) rfl rfl Tryd.func42 (by kernel_rfl) rfl #[.int .u64 t303] rfl (by (try simp only [List.map_toArray, List.map_cons, List.map_nil]); first | done | rfl | (simp only [List.length_drop, List.length_take]; rfl)) ?_; (with_reducible refine (uint128_From64.calls t303 t304 t305 _ A5.out).mono ?_); rintro e w20 ⟨rfl, hb⟩; refine ⟨_, rfl, ?_⟩; have n0_ := Aside0.mk (blk_below (g := gb297) (o := .cells #[.int .u64 a0_0, .int .u64 a0_1] 65 (0, 0)) (by (with_reducible repeat (first | refine blk_drewN ?_ _ | refine blk_drew ?_ | refine blk_alloc ?_ _)); refine blk_far ?_ NB297_299.out _; (with_reducible repeat (first | refine blk_drewN ?_ _ | refine blk_drew ?_ | refine blk_alloc ?_ _)); refine blk_far ?_ NB297_299.out _; (with_reducible repeat (first | refine blk_drewN ?_ _ | refine blk_drew ?_ | refine blk_alloc ?_ _)); exact BK297.out) hb); have n1_ := Aside0.mk (blk_below (g := gb298) (o := .cells #[.int .u64 a1_0, .int .u64 a1_1] 65 (0, 0)) (by (with_reducible repeat (first | refine blk_drewN ?_ _ | refine blk_drew ?_ | refine blk_alloc ?_ _)); refine blk_far ?_ NB298_299.out _; (with_reducible repeat (first | refine blk_drewN ?_ _ | refine blk_drew ?_ | refine blk_alloc ?_ _)); refine blk_far ?_ NB298_299.out _; (with_reducible repeat (first | refine blk_drewN ?_ _ | refine blk_drew ?_ | refine blk_alloc ?_ _)); exact BK298.out) hb); have n2_ := Aside0.mk (blk_below (g := gb299) (o := .cells #[.int .u64 t301, .int .u64 t302] 65 (0, 0)) (by (with_reducible repeat (first | refine blk_drewN ?_ _ | refine blk_drew ?_ | refine blk_alloc ?_ _)); refine blk_put (cs := #[.int .u64 t301, .int .u64 0]) ?_ 1 _ rfl; (with_reducible repeat (first | refine blk_drewN ?_ _ | refine blk_drew ?_ | refine blk_alloc ?_ _)); refine blk_put (cs := #[.int .u64 0, .int .u64 0]) ?_ 0 _ rfl; (with_reducible repeat (first | refine blk_drewN ?_ _ | refine blk_drew ?_ | refine blk_alloc ?_ _)); exact BK299.out) hb); have n3_ := Aside0.mk (blk_below (g := gb300) (o := .cells #[.int .u64 0, .int .u64 0] 65 (0, 0)) (by (with_reducible repeat (first | refine blk_drewN ?_ _ | refine blk_drew ?_ | refine blk_alloc ?_ _)); refine blk_far ?_ NB300_299.out _; (with_reducible repeat (first | refine blk_drewN ?_ _ | refine blk_drew ?_ | refine blk_alloc ?_ _)); refine blk_far ?_ NB300_299.out _; (with_reducible repeat (first | refine blk_drewN ?_ _ | refine blk_drew ?_ | refine blk_alloc ?_ _)); exact BK300.out) hb); have n4_ := Aside0.mk (below_step (by repeat (first | (with_reducible first | exact HB.out | apply below_alloc | apply pw_below_drewN | apply below_drew1 | refine below_set ?_ GE297.out | refine below_set ?_ GE298.out | refine below_set ?_ GE299.out | refine below_set ?_ GE300.out) | exact HB.out)) hb); clear BK297; clear BK298; clear BK299; clear BK300; clear HB; have BK297 := n0_; have BK298 := n1_; have BK299 := n2_; have BK300 := n3_; have HB := n4_; clear n0_ n1_ n2_ n3_ n4_; (try clear hb); (try clear hb2); (try clear hk); (try clear hi); have hcz21_0 : w20.cell? ⟨gb300, 0, none⟩ = some (.int .u64 0) := (blk_cell BK300.out 0).trans rfl; have hcz21_1 : w20.cell? ⟨gb300, 1, none⟩ = some (.int .u64 0) := (blk_cell BK300.out 1).trans rfl; have hfz21_0 := blk_frozen BK300.out 0; have hfz21_1 := blk_frozen BK300.out 1))
    refine bodyPost_ret (results_cc rfl _ _ gb299 gb300 65 65 #[.int .u64 t301, .int .u64 t302] #[.int .u64 t304, .int .u64 t305] (0, 0) (0, 0) _ _ rfl (by (with_reducible repeat (first | refine blk_drewN ?_ _ | refine blk_drew ?_ | refine blk_alloc ?_ _)); refine blk_far ?_ NB299_300.out _; (with_reducible repeat (first | refine blk_drewN ?_ _ | refine blk_drew ?_ | refine blk_alloc ?_ _)); refine blk_far ?_ NB299_300.out _; (with_reducible repeat (first | refine blk_drewN ?_ _ | refine blk_drew ?_ | refine blk_alloc ?_ _)); exact BK299.out) Tryd.underlying65 rfl (by kernel_rfl) rfl (by (with_reducible repeat (first | refine blk_drewN ?_ _ | refine blk_drew ?_ | refine blk_alloc ?_ _)); refine blk_put (cs := #[.int .u64 t304, .int .u64 0]) ?_ 1 _ rfl; (with_reducible repeat (first | refine blk_drewN ?_ _ | refine blk_drew ?_ | refine blk_alloc ?_ _)); refine blk_put (cs := #[.int .u64 0, .int .u64 0]) ?_ 0 _ rfl; (with_reducible repeat (first | refine blk_drewN ?_ _ | refine blk_drew ?_ | refine blk_alloc ?_ _)); exact BK300.out) Tryd.underlying65 rfl (by kernel_rfl)) rfl ?_
    exact ⟨by first | rfl | (simp [errW_none, errW_some] <;> rfl) | (simp [*, errW_none, errW_some] <;> rfl), by repeat (first | (with_reducible first | exact HB.out | apply below_alloc | apply pw_below_drewN | apply below_drew1 | refine below_set ?_ GE297.out | refine below_set ?_ GE298.out | refine below_set ?_ GE299.out | refine below_set ?_ GE300.out) | exact HB.out)⟩
  · rw [if_neg c3] at H
    have c3b0 : (a1_1 == 0) = false := beq_eq_false_iff_ne.mpr c3
    have c3b1 : (a1_1 != 0) = true := bne_iff_ne.mpr c3
    replace H := Option.bind_eq_some_iff.mp H
    obtain ⟨t306, A220, H⟩ := H
    replace H : ((uint128_Uint128_Lsh.f a1_0 a1_1 (IntKind.u64.wrap (t306))).bind fun bt307 => ((uint128_Uint128_Rsh.f a0_0 a0_1 1).bind fun bt310 => ((gobits_Div64.f k bt310.2 bt310.1 bt307.2).bind fun bt313 => (if 0 ≤ (IntKind.u64.wrap (63 - (IntKind.u64.wrap (t306)))) then (if (shr .u64 bt313.1 (IntKind.u64.wrap (63 - (IntKind.u64.wrap (t306))))) = 0 then (uint128_Uint128_QuoRem.j0 k (shr .u64 bt313.1 (IntKind.u64.wrap (63 - (IntKind.u64.wrap (t306))))) a0_0 a0_1 a1_0 a1_1) else (uint128_Uint128_QuoRem.j0 k (IntKind.u64.wrap ((shr .u64 bt313.1 (IntKind.u64.wrap (63 - (IntKind.u64.wrap (t306))))) - 1)) a0_0 a0_1 a1_0 a1_1)) else (none))))) = some (r1, r2, r3, r4) := H
    have A22 := Aside0.mk A220
    clear A220
    replace H := Option.bind_eq_some_iff.mp H
    obtain ⟨⟨t307, t308⟩, A230, H⟩ := H
    replace H : ((uint128_Uint128_Rsh.f a0_0 a0_1 1).bind fun bt310 => ((gobits_Div64.f k bt310.2 bt310.1 t308).bind fun bt313 => (if 0 ≤ (IntKind.u64.wrap (63 - (IntKind.u64.wrap (t306)))) then (if (shr .u64 bt313.1 (IntKind.u64.wrap (63 - (IntKind.u64.wrap (t306))))) = 0 then (uint128_Uint128_QuoRem.j0 k (shr .u64 bt313.1 (IntKind.u64.wrap (63 - (IntKind.u64.wrap (t306))))) a0_0 a0_1 a1_0 a1_1) else (uint128_Uint128_QuoRem.j0 k (IntKind.u64.wrap ((shr .u64 bt313.1 (IntKind.u64.wrap (63 - (IntKind.u64.wrap (t306))))) - 1)) a0_0 a0_1 a1_0 a1_1)) else (none)))) = some (r1, r2, r3, r4) := H
    have A23 := Aside0.mk A230
    clear A230
    replace H := Option.bind_eq_some_iff.mp H
    obtain ⟨⟨t310, t311⟩, A240, H⟩ := H
    replace H : ((gobits_Div64.f k t311 t310 t308).bind fun bt313 => (if 0 ≤ (IntKind.u64.wrap (63 - (IntKind.u64.wrap (t306)))) then (if (shr .u64 bt313.1 (IntKind.u64.wrap (63 - (IntKind.u64.wrap (t306))))) = 0 then (uint128_Uint128_QuoRem.j0 k (shr .u64 bt313.1 (IntKind.u64.wrap (63 - (IntKind.u64.wrap (t306))))) a0_0 a0_1 a1_0 a1_1) else (uint128_Uint128_QuoRem.j0 k (IntKind.u64.wrap ((shr .u64 bt313.1 (IntKind.u64.wrap (63 - (IntKind.u64.wrap (t306))))) - 1)) a0_0 a0_1 a1_0 a1_1)) else (none))) = some (r1, r2, r3, r4) := H
    have A24 := Aside0.mk A240
    clear A240
    replace H := Option.bind_eq_some_iff.mp H
    obtain ⟨⟨t313, t314⟩, A250, H⟩ := H
    replace H : (if 0 ≤ (IntKind.u64.wrap (63 - (IntKind.u64.wrap (t306)))) then (if (shr .u64 t313 (IntKind.u64.wrap (63 - (IntKind.u64.wrap (t306))))) = 0 then (uint128_Uint128_QuoRem.j0 k (shr .u64 t313 (IntKind.u64.wrap (63 - (IntKind.u64.wrap (t306))))) a0_0 a0_1 a1_0 a1_1) else (uint128_Uint128_QuoRem.j0 k (IntKind.u64.wrap ((shr .u64 t313 (IntKind.u64.wrap (63 - (IntKind.u64.wrap (t306))))) - 1)) a0_0 a0_1 a1_0 a1_1)) else (none)) = some (r1, r2, r3, r4) := H
    have A25 := Aside0.mk A250
    clear A250
    obtain ⟨ji26, hji26⟩ : ∃ j_ : Int, (IntKind.u64.wrap (63 - (IntKind.u64.wrap (t306)))) = j_ := ⟨_, rfl⟩
    replace H : (if 0 ≤ (ji26) then (if (shr .u64 t313 (ji26)) = 0 then (uint128_Uint128_QuoRem.j0 k (shr .u64 t313 (ji26)) a0_0 a0_1 a1_0 a1_1) else (uint128_Uint128_QuoRem.j0 k (IntKind.u64.wrap ((shr .u64 t313 (ji26)) - 1)) a0_0 a0_1 a1_0 a1_1)) else (none)) = some (r1, r2, r3, r4) := by first | (rw [hji26] at H; exact H) | (simp only [hji26] at H ⊢; exact H)
    (try rw [hji26] at A22)
    (try rw [hji26] at A23)
    (try rw [hji26] at A24)
    (try rw [hji26] at A25)
    by_cases c27 : 0 ≤ (ji26)
    · rw [if_pos c27] at H
      have c27b0 := eq_true c27
      have c27b1 : decide (0 ≤ (ji26)) = true := decide_eq_true c27
      clear c27
      obtain ⟨ji28, hji28⟩ : ∃ j_ : Int, (shr .u64 t313 (ji26)) = j_ := ⟨_, rfl⟩
      replace H : (if (ji28) = 0 then (uint128_Uint128_QuoRem.j0 k ji28 a0_0 a0_1 a1_0 a1_1) else (uint128_Uint128_QuoRem.j0 k (IntKind.u64.wrap ((ji28) - 1)) a0_0 a0_1 a1_0 a1_1)) = some (r1, r2, r3, r4) := by first | (rw [hji28] at H; exact H) | (simp only [hji28] at H ⊢; exact H)
      (try rw [hji28] at A22)
      (try rw [hji28] at A23)
      (try rw [hji28] at A24)
      (try rw [hji28] at A25)
      have hji28_ : (t313 / 2 ^ min (ji26).toNat 64) = ji28 := hji28
      have hji28z : (ji26) ≤ 64 → (t313 / 2 ^ (ji26).toNat) = ji28 := shr_small hji28
      have HC29 := Aside0.mk H
      clear H
      go_enter Tryd.func64, Tryd.ntmps64
      go_upto_if 48 with (first | ((with_reducible refine gate_dst (N := 2) rfl ?_); refine box_event ?hg (N := 2) ?hd (cs := #[.int .u64 a0_0, .int .u64 a0_1]) (t := 65) ?hr ?_; (case hd => rfl); (case hg => rfl); (case hr => first | (go_simp; done) | (go_simp; rfl)); intro gb297 hg w30 hbox hb; have n0_ := Aside0.mk (below_step (by repeat (first | (with_reducible first | exact HB.out | apply below_alloc | apply pw_below_drewN | apply below_drew1) | exact HB.out)) hb); have n1_ := Aside0.mk (hbox); have n2_ := Aside0.mk ((by rw [hg]; exact (below_size (by repeat (first | (with_reducible first | exact HB.out | apply below_alloc | apply pw_below_drewN | apply below_drew1) | exact HB.out))) : w.heap.size ≤ gb297)); have n3_ := Aside0.mk ((by rw [hg]; exact (below_size (by repeat (first | (with_reducible first | exact HB.out | apply below_alloc | apply pw_below_drewN | apply below_drew1) | exact HB.out))) : w.heap.size ≤ gb297)); clear HB; have HB := n0_; have BK297 := n1_; have GW297 := n2_; have GE297 := n3_; clear n0_ n1_ n2_ n3_; clear hb hbox hg) | ((with_reducible refine gate_dst (N := 3) rfl ?_); refine box_event ?hg (N := 3) ?hd (cs := #[.int .u64 a1_0, .int .u64 a1_1]) (t := 65) ?hr ?_; (case hd => rfl); (case hg => rfl); (case hr => first | (go_simp; done) | (go_simp; rfl)); intro gb298 hg w31 hbox hb; have n0_ := Aside0.mk (blk_below (g := gb297) (o := .cells #[.int .u64 a0_0, .int .u64 a0_1] 65 (0, 0)) (by exact BK297.out) hb); have n1_ := Aside0.mk (below_step (by repeat (first | (with_reducible first | exact HB.out | apply below_alloc | apply pw_below_drewN | apply below_drew1 | refine below_set ?_ GE297.out) | exact HB.out)) hb); have n2_ := Aside0.mk (hbox); have n3_ := Aside0.mk ((by rw [hg]; exact (below_size (by repeat (first | (with_reducible first | exact HB.out | apply below_alloc | apply pw_below_drewN | apply below_drew1 | refine below_set ?_ GE297.out) | exact HB.out))) : w.heap.size ≤ gb298)); have n4_ := Aside0.mk ((by rw [hg]; exact (below_size (by repeat (first | (with_reducible first | exact HB.out | apply below_alloc | apply pw_below_drewN | apply below_drew1 | refine below_set ?_ GE297.out) | exact HB.out))) : w.heap.size ≤ gb298)); have n5_ := Aside0.mk ((by rw [hg]; exact Nat.ne_of_lt (blk_lt (g := gb297) (o := .cells #[.int .u64 a0_0, .int .u64 a0_1] 65 (0, 0)) (by exact BK297.out)) : gb297 ≠ gb298)); have n6_ := Aside0.mk ((by rw [hg]; exact Nat.ne_of_gt (blk_lt (g := gb297) (o := .cells #[.int .u64 a0_0, .int .u64 a0_1] 65 (0, 0)) (by exact BK297.out)) : gb298 ≠ gb297)); clear BK297; clear HB; have BK297 := n0_; have HB := n1_; have BK298 := n2_; have GW298 := n3_; have GE298 := n4_; have NB297_298 := n5_; have NB298_297 := n6_; clear n0_ n1_ n2_ n3_ n4_ n5_ n6_; clear hb hbox hg) | ((with_reducible refine gate_dst (N := 4) rfl ?_); refine box_event ?hg (N := 4) ?hd (cs := #[.int .u64 0, .int .u64 0]) (t := 65) ?hr ?_; (case hd => rfl); (case hg => rfl); (case hr => first | (go_simp; done) | (go_simp; rfl)); intro gb299 hg w32 hbox hb; have n0_ := Aside0.mk (blk_below (g := gb297) (o := .cells #[.int .u64 a0_0, .int .u64 a0_1] 65 (0, 0)) (by exact BK297.out) hb); have n1_ := Aside0.mk (blk_below (g := gb298) (o := .cells #[.int .u64 a1_0, .int .u64 a1_1] 65 (0, 0)) (by exact BK298.out) hb); have n2_ := Aside0.mk (below_step (by repeat (first | (with_reducible first | exact HB.out | apply below_alloc | apply pw_below_drewN | apply below_drew1 | refine below_set ?_ GE297.out | refine below_set ?_ GE298.out) | exact HB.out)) hb); have n3_ := Aside0.mk (hbox); have n4_ := Aside0.mk ((by rw [hg]; exact (below_size (by repeat (first | (with_reducible first | exact HB.out | apply below_alloc | apply pw_below_drewN | apply below_drew1 | refine below_set ?_ GE297.out | refine below_set ?_ GE298.out) | exact HB.out))) : w.heap.size ≤ gb299)); have n5_ := Aside0.mk ((by rw [hg]; exact (below_size (by repeat (first | (with_reducible first | exact HB.out | apply below_alloc | apply pw_below_drewN | apply below_drew1 | refine below_set ?_ GE297.out | refine below_set ?_ GE298.out) | exact HB.out))) : w.heap.size ≤ gb299)); have n6_ := Aside0.mk ((by rw [hg]; exact Nat.ne_of_lt (blk_lt (g := gb297) (o := .cells #[.int .u64 a0_0, .int .u64 a0_1] 65 (0, 0)) (by exact BK297.out)) : gb297 ≠ gb299)); have n7_ := Aside0.mk ((by rw [hg]; exact Nat.ne_of_gt (blk_lt (g := gb297) (o := .cells #[.int .u64 a0_0, .int .u64 a0_1] 65 (0, 0)) (by exact BK297.out)) : gb299 ≠ gb297)); have n8_ := Aside0.mk ((by rw [hg]; exact Nat.ne_of_lt (blk_lt (g := gb298) (o := .cells #[.int .u64 a1_0, .int .u64 a1_1] 65 (0, 0)) (by exact BK298.out)) : gb298 ≠ gb299)); have n9_ := Aside0.mk ((by rw [hg]; exact Nat.ne_of_gt (blk_lt (g := gb298) (o := .cells #[.int .u64 a1_0, .int .u64 a1_1] 65 (0, 0)) (by exact BK298.out)) : gb299 ≠ gb298)); clear BK297; clear BK298; clear HB; have BK297 := n0_; have BK298 := n1_; have HB := n2_; have BK299 := n3_; have GW299 := n4_; have GE299 := n5_; have NB297_299 := n6_; have NB299_297 := n7_; have NB298_299 := n8_; have NB299_298 := n9_; clear n0_ n1_ n2_ n3_ n4_ n5_ n6_ n7_ n8_ n9_; clear hb hbox hg) | ((with_reducible refine gate_dst (N := 5) rfl ?_); refine box_event ?hg (N := 5) ?hd (cs := #[.int .u64 0, .int .u64 0]) (t := 65) ?hr ?_; (case hd => rfl); (case hg => rfl); (case hr => first | (go_simp; done) | (go_simp; rfl)); intro gb300 hg w33 hbox hb; have n0_ := Aside0.mk (blk_below (g := gb297) (o := .cells #[.int .u64 a0_0, .int .u64 a0_1] 65 (0, 0)) (by exact BK297.out) hb); have n1_ := Aside0.mk (blk_below (g := gb298) (o := .cells #[.int .u64 a1_0, .int .u64 a1_1] 65 (0, 0)) (by exact BK298.out) hb); have n2_ := Aside0.mk (blk_below (g := gb299) (o := .cells #[.int .u64 0, .int .u64 0] 65 (0, 0)) (by exact BK299.out) hb); have n3_ := Aside0.mk (below_step (by repeat (first | (with_reducible first | exact HB.out | apply below_alloc | apply pw_below_drewN | apply below_drew1 | refine below_set ?_ GE297.out | refine below_set ?_ GE298.out | refine below_set ?_ GE299.out) | exact HB.out)) hb); have n4_ := Aside0.mk (hbox); have n5_ := Aside0.mk ((by rw [hg]; exact (below_size (by repeat (first | (with_reducible first | exact HB.out | apply below_alloc | apply pw_below_drewN | apply below_drew1 | refine below_set ?_ GE297.out | refine below_set ?_ GE298.out | refine below_set ?_ GE299.out) | exact HB.out))) : w.heap.size ≤ gb300)); have n6_ := Aside0.mk ((by rw [hg]; exact (below_size (by repeat (first | (with_reducible first | exact HB.out | apply below_alloc | apply pw_below_drewN | apply below_drew1 | refine below_set ?_ GE297.out | refine below_set ?_ GE298.out | refine below_set ?_ GE299.out) | exact HB.out))) : w.heap.size ≤ gb300)); have n7_ := Aside0.mk ((by rw [hg]; exact Nat.ne_of_lt (blk_lt (g := gb297) (o := .cells #[.int .u64 a0_0, .int .u64 a0_1] 65 (0, 0)) (by exact BK297.out)) : gb297 ≠ gb300)); have n8_ := Aside0.mk ((by rw [hg]; exact Nat.ne_of_gt (blk_lt (g := gb297) (o := .cells #[.int .u64 a0_0, .int .u64 a0_1] 65 (0, 0)) (by exact BK297.out)) : gb300 ≠ gb297)); have n9_ := Aside0.mk ((by rw [hg]; exact Nat.ne_of_lt (blk_lt (g := gb298) (o := .cells #[.int .u64 a1_0, .int .u64 a1_1] 65 (0, 0)) (by exact BK298.out)) : gb298 ≠ gb300)); have n10_ := Aside0.mk ((by rw [hg]; exact Nat.ne_of_gt (blk_lt (g := gb298) (o := .cells #[.int .u64 a1_0, .int .u64 a1_1] 65 (0, 0)) (by exact BK298.out)) : gb300 ≠ gb298)); have n11_ := Aside0.mk ((by rw [hg]; exact Nat.ne_of_lt (blk_lt (g := gb299) (o := .cells #[.int .u64 0, .int .u64 0] 65 (0, 0)) (by exact BK299.out)) : gb299 ≠ gb300)); have n12_ := Aside0.mk ((by rw [hg]; exact Nat.ne_of_gt (blk_lt (g := gb299) (o := .cells #[.int .u64 0, .int .u64 0] 65 (0, 0)) (by exact BK299.out)) : gb300 ≠ gb299)); clear BK297; clear BK298; clear BK299; clear HB; have BK297 := n0_; have BK298 := n1_; have BK299 := n2_; have HB := n3_; have BK300 := n4_; have GW300 := n5_; have GE300 := n6_; have NB297_300 := n7_; have NB300_297 := n8_; have NB298_300 := n9_; have NB300_298 := n10_; have NB299_300 := n11_; have NB300_299 := n12_; clear n0_ n1_ n2_ n3_ n4_ n5_ n6_ n7_ n8_ n9_ n10_ n11_ n12_; clear hb hbox hg; have hnb34 := NB298_297.out; have hnc34 := NB297_298.out; have hnb35 := NB298_299.out; have hnc35 := NB299_298.out; have hnb36 := NB298_300.out; have hnc36 := NB300_298.out; have hcz37_0 : w33.cell? ⟨gb298, 0, none⟩ = some (.int .u64 a1_0) := (blk_cell BK298.out 0).trans rfl; have hcz37_1 : w33.cell? ⟨gb298, 1, none⟩ = some (.int .u64 a1_1) := (blk_cell BK298.out 1).trans rfl; have hfz37_0 := blk_frozen BK298.out 0; have hfz37_1 := blk_frozen BK298.out 1) | ((with_reducible refine gate_callee (f := 100) rfl ?_); refine goesL_ (some 26) rfl rfl Tryd.func100 (by kernel_rfl) rfl #[.int .u64 a1_1] rfl (by (try simp only [List.map_toArray, List.map_cons, List.map_nil]); first | done | rfl | (simp only [List.length_drop, List.length_take]; rfl)) ?_; (with_reducible refine (bits_LeadingZeros64.calls a1_1 t306 _ A22.out).mono ?_); rintro e w' ⟨rfl, ⟨nd, rfl⟩⟩; refine ⟨_, rfl, ?_⟩; (try (rw [drewN_self w33]; generalize hq_ : World.drewN w33 _ = w33; have n0_ : Aside0 (w33.heap[gb297]? = some (.cells #[.int .u64 a0_0, .int .u64 a0_1] 65 (0, 0))) := ⟨by rw [← hq_]; exact (by exact BK297.out)⟩; have n1_ : Aside0 (w33.heap[gb298]? = some (.cells #[.int .u64 a1_0, .int .u64 a1_1] 65 (0, 0))) := ⟨by rw [← hq_]; exact (by exact BK298.out)⟩; have n2_ : Aside0 (w33.heap[gb299]? = some (.cells #[.int .u64 0, .int .u64 0] 65 (0, 0))) := ⟨by rw [← hq_]; exact (by exact BK299.out)⟩; have n3_ : Aside0 (w33.heap[gb300]? = some (.cells #[.int .u64 0, .int .u64 0] 65 (0, 0))) := ⟨by rw [← hq_]; exact (by exact BK300.out)⟩; have n4_ : Aside0 (Below w.heap.size w w33) := ⟨by rw [← hq_]; exact (by repeat (first | (with_reducible first | exact HB.out | apply below_alloc | apply pw_below_drewN | apply below_drew1 | refine below_set ?_ GE297.out | refine below_set ?_ GE298.out | refine below_set ?_ GE299.out | refine below_set ?_ GE300.out) | exact HB.out))⟩; clear BK297 BK298 BK299 BK300 HB hq_; have BK297 := n0_; have BK298 := n1_; have BK299 := n2_; have BK300 := n3_; have HB := n4_; clear n0_ n1_ n2_ n3_ n4_)); have hcy297_0 : w33.cell? ⟨gb297, 0, none⟩ = some (.int .u64 a0_0) := (blk_cell BK297.out 0).trans rfl; have hfy297_0 := blk_frozen BK297.out 0; have hcy297_1 : w33.cell? ⟨gb297, 1, none⟩ = some (.int .u64 a0_1) := (blk_cell BK297.out 1).trans rfl; have hfy297_1 := blk_frozen BK297.out 1; have hcy298_0 : w33.cell? ⟨gb298, 0, none⟩ = some (.int .u64 a1_0) := (blk_cell BK298.out 0).trans rfl; have hfy298_0 := blk_frozen BK298.out 0; have hcy298_1 : w33.cell? ⟨gb298, 1, none⟩ = some (.int .u64 a1_1) := (blk_cell BK298.out 1).trans rfl; have hfy298_1 := blk_frozen BK298.out 1; have hcy299_0 : w33.cell? ⟨gb299, 0, none⟩ = some (.int .u64 0) := (blk_cell BK299.out 0).trans rfl; have hfy299_0 := blk_frozen BK299.out 0; have hcy299_1 : w33.cell? ⟨gb299, 1, none⟩ = some (.int .u64 0) := (blk_cell BK299.out 1).trans rfl; have hfy299_1 := blk_frozen BK299.out 1; have hcy300_0 : w33.cell? ⟨gb300, 0, none⟩ = some (.int .u64 0) := (blk_cell BK300.out 0).trans rfl; have hfy300_0 := blk_frozen BK300.out 0; have hcy300_1 : w33.cell? ⟨gb300, 1, none⟩ = some (.int .u64 0) := (blk_cell BK300.out 1).trans rfl; have hfy300_1 := blk_frozen BK300.out 1) | ((with_reducible refine gate_callee (f := 93) rfl ?_); refine goesL_ (some 30) rfl rfl Tryd.func93 (by kernel_rfl) rfl #[.agg #[.int .u64 a1_0, .int .u64 a1_1], .int .u64 (IntKind.u64.wrap (t306))] rfl (by (try simp only [List.map_toArray, List.map_cons, List.map_nil]); first | done | rfl | (simp only [List.length_drop, List.length_take]; rfl)) ?_; (with_reducible refine (uint128_Uint128_Lsh.calls a1_0 a1_1 (IntKind.u64.wrap (t306)) t307 t308 _ A23.out).mono ?_); rintro e w38 ⟨rfl, hb⟩; refine ⟨_, rfl, ?_⟩; have n0_ := Aside0.mk (blk_below (g := gb297) (o := .cells #[.int .u64 a0_0, .int .u64 a0_1] 65 (0, 0)) (by exact BK297.out) hb); have n1_ := Aside0.mk (blk_below (g := gb298) (o := .cells #[.int .u64 a1_0, .int .u64 a1_1] 65 (0, 0)) (by exact BK298.out) hb); have n2_ := Aside0.mk (blk_below (g := gb299) (o := .cells #[.int .u64 0, .int .u64 0] 65 (0, 0)) (by exact BK299.out) hb); have n3_ := Aside0.mk (blk_below (g := gb300) (o := .cells #[.int .u64 0, .int .u64 0] 65 (0, 0)) (by exact BK300.out) hb); have n4_ := Aside0.mk (below_step (by repeat (first | (with_reducible first | exact HB.out | apply below_alloc | apply pw_below_drewN | apply below_drew1 | refine below_set ?_ GE297.out | refine below_set ?_ GE298.out | refine below_set ?_ GE299.out | refine below_set ?_ GE300.out) | exact HB.out)) hb); clear BK297; clear BK298; clear BK299; clear BK300; clear HB; have BK297 := n0_; have BK298 := n1_; have BK299 := n2_; have BK300 := n3_; have HB := n4_; clear n0_ n1_ n2_ n3_ n4_; (try clear hb); (try clear hb2); (try clear hk); (try clear hi)) | ((with_reducible refine gate_dst (N := 8) rfl ?_); refine box_event ?hg (N := 8) ?hd (cs := #[.int .u64 0, .int .u64 0]) (t := 65) ?hr ?_; (case hd => rfl); (case hg => rfl); (case hr => first | (go_simp; done) | (go_simp; rfl)); intro gb309 hg w39 hbox hb; have n0_ := Aside0.mk (blk_below (g := gb297) (o := .cells #[.int .u64 a0_0, .int .u64 a0_1] 65 (0, 0)) (by exact BK297.out) hb); have n1_ := Aside0.mk (blk_below (g := gb298) (o := .cells #[.int .u64 a1_0, .int .u64 a1_1] 65 (0, 0)) (by exact BK298.out) hb); have n2_ := Aside0.mk (blk_below (g := gb299) (o := .cells #[.int .u64 0, .int .u64 0] 65 (0, 0)) (by exact BK299.out) hb); have n3_ := Aside0.mk (blk_below (g := gb300) (o := .cells #[.int .u64 0, .int .u64 0] 65 (0, 0)) (by exact BK300.out) hb); have n4_ := Aside0.mk (below_step (by repeat (first | (with_reducible first | exact HB.out | apply below_alloc | apply pw_below_drewN | apply below_drew1 | refine below_set ?_ GE297.out | refine below_set ?_ GE298.out | refine below_set ?_ GE299.out | refine below_set ?_ GE300.out) | exact HB.out)) hb); have n5_ := Aside0.mk (hbox); have n6_ := Aside0.mk ((by rw [hg]; exact (below_size (by repeat (first | (with_reducible first | exact HB.out | apply below_alloc | apply pw_below_drewN | apply below_drew1 | refine below_set ?_ GE297.out | refine below_set ?_ GE298.out | refine below_set ?_ GE299.out | refine below_set ?_ GE300.out) | exact HB.out))) : w.heap.size ≤ gb309)); have n7_ := Aside0.mk ((by rw [hg]; exact (below_size (by repeat (first | (with_reducible first | exact HB.out | apply below_alloc | apply pw_below_drewN | apply below_drew1 | refine below_set ?_ GE297.out | refine below_set ?_ GE298.out | refine below_set ?_ GE299.out | refine below_set ?_ GE300.out) | exact HB.out))) : w.heap.size ≤ gb309)); have n8_ := Aside0.mk ((by rw [hg]; exact Nat.ne_of_lt (blk_lt (g := gb297) (o := .cells #[.int .u64 a0_0, .int .u64 a0_1] 65 (0, 0)) (by exact BK297.out)) : gb297 ≠ gb309)); have n9_ := Aside0.mk ((by rw [hg]; exact Nat.ne_of_gt (blk_lt (g := gb297) (o := .cells #[.int .u64 a0_0, .int .u64 a0_1] 65 (0, 0)) (by exact BK297.out)) : gb309 ≠ gb297)); have n10_ := Aside0.mk ((by rw [hg]; exact Nat.ne_of_lt (blk_lt (g := gb298) (o := .cells #[.int .u64 a1_0, .int .u64 a1_1] 65 (0, 0)) (by exact BK298.out)) : gb298 ≠ gb309)); have n11_ := Aside0.mk ((by rw [hg]; exact Nat.ne_of_gt (blk_lt (g := gb298) (o := .cells #[.int .u64 a1_0, .int .u64 a1_1] 65 (0, 0)) (by exact BK298.out)) : gb309 ≠ gb298)); have n12_ := Aside0.mk ((by rw [hg]; exact Nat.ne_of_lt (blk_lt (g := gb299) (o := .cells #[.int .u64 0, .int .u64 0] 65 (0, 0)) (by exact BK299.out)) : gb299 ≠ gb309)); have n13_ := Aside0.mk ((by rw [hg]; exact Nat.ne_of_gt (blk_lt (g := gb299) (o := .cells #[.int .u64 0, .int .u64 0] 65 (0, 0)) (by exact BK299.out)) : gb309 ≠ gb299)); have n14_ := Aside0.mk ((by rw [hg]; exact Nat.ne_of_lt (blk_lt (g := gb300) (o := .cells #[.int .u64 0, .int .u64 0] 65 (0, 0)) (by exact BK300.out)) : gb300 ≠ gb309)); have n15_ := Aside0.mk ((by rw [hg]; exact Nat.ne_of_gt (blk_lt (g := gb300) (o := .cells #[.int .u64 0, .int .u64 0] 65 (0, 0)) (by exact BK300.out)) : gb309 ≠ gb300)); clear BK297; clear BK298; clear BK299; clear BK300; clear HB; have BK297 := n0_; have BK298 := n1_; have BK299 := n2_; have BK300 := n3_; have HB := n4_; have BK309 := n5_; have GW309 := n6_; have GE309 := n7_; have NB297_309 := n8_; have NB309_297 := n9_; have NB298_309 := n10_; have NB309_298 := n11_; have NB299_309 := n12_; have NB309_299 := n13_; have NB300_309 := n14_; have NB309_300 := n15_; clear n0_ n1_ n2_ n3_ n4_ n5_ n6_ n7_ n8_ n9_ n10_ n11_ n12_ n13_ n14_ n15_; clear hb hbox hg; have hnb40 := NB309_297.out; have hnc40 := NB297_309.out; have hnb41 := NB309_298.out; have hnc41 := NB298_309.out; have hnb42 := NB309_299.out; have hnc42 := NB299_309.out; have hnb43 := NB309_300.out; have hnc43 := NB300_309.out; have hcz44_0 : w39.cell? ⟨gb309, 0, none⟩ = some (.int .u64 0) := (blk_cell BK309.out 0).trans rfl; have hcz44_1 : w39.cell? ⟨gb309, 1, none⟩ = some (.int .u64 0) := (blk_cell BK309.out 1).trans rfl; have hfz44_0 := blk_frozen BK309.out 0; have hfz44_1 := blk_frozen BK309.out 1; have hnb45 := NB297_299.out; have hnc45 := NB299_297.out; have hnb46 := NB297_300.out; have hnc46 := NB300_297.out; have hcz47_0 : w39.cell? ⟨gb297, 0, none⟩ = some (.int .u64 a0_0) := (blk_cell BK297.out 0).trans rfl; have hcz47_1 : w39.cell? ⟨gb297, 1, none⟩ = some (.int .u64 a0_1) := (blk_cell BK297.out 1).trans rfl; have hfz47_0 := blk_frozen BK297.out 0; have hfz47_1 := blk_frozen BK297.out 1) | ((with_reducible refine gate_callee (f := 94) rfl ?_); refine goesL_ (some 32) rfl rfl Tryd.func94 (by kernel_rfl) rfl #[.agg #[.int .u64 a0_0, .int .u64 a0_1], .int .u64 1] rfl (by (try simp only [List.map_toArray, List.map_cons, List.map_nil]); first | done | rfl | (simp only [List.length_drop, List.length_take]; rfl)) ?_; (with_reducible refine (uint128_Uint128_Rsh.calls a0_0 a0_1 1 t310 t311 _ A24.out).mono ?_); rintro e w48 ⟨rfl, hb⟩; refine ⟨_, rfl, ?_⟩; have n0_ := Aside0.mk (blk_below (g := gb297) (o := .cells #[.int .u64 a0_0, .int .u64 a0_1] 65 (0, 0)) (by (with_reducible repeat (first | refine blk_drewN ?_ _ | refine blk_drew ?_ | refine blk_alloc ?_ _)); refine blk_far ?_ NB297_309.out _; (with_reducible repeat (first | refine blk_drewN ?_ _ | refine blk_drew ?_ | refine blk_alloc ?_ _)); refine blk_far ?_ NB297_309.out _; (with_reducible repeat (first | refine blk_drewN ?_ _ | refine blk_drew ?_ | refine blk_alloc ?_ _)); exact BK297.out) hb); have n1_ := Aside0.mk (blk_below (g := gb298) (o := .cells #[.int .u64 a1_0, .int .u64 a1_1] 65 (0, 0)) (by (with_reducible repeat (first | refine blk_drewN ?_ _ | refine blk_drew ?_ | refine blk_alloc ?_ _)); refine blk_far ?_ NB298_309.out _; (with_reducible repeat (first | refine blk_drewN ?_ _ | refine blk_drew ?_ | refine blk_alloc ?_ _)); refine blk_far ?_ NB298_309.out _; (with_reducible repeat (first | refine blk_drewN ?_ _ | refine blk_drew ?_ | refine blk_alloc ?_ _)); exact BK298.out) hb); have n2_ := Aside0.mk (blk_below (g := gb299) (o := .cells #[.int .u64 0, .int .u64 0] 65 (0, 0)) (by (with_reducible repeat (first | refine blk_drewN ?_ _ | refine blk_drew ?_ | refine blk_alloc ?_ _)); refine blk_far ?_ NB299_309.out _; (with_reducible repeat (first | refine blk_drewN ?_ _ | refine blk_drew ?_ | refine blk_alloc ?_ _)); refine blk_far ?_ NB299_309.out _; (with_reducible repeat (first | refine blk_drewN ?_ _ | refine blk_drew ?_ | refine blk_alloc ?_ _)); exact BK299.out) hb); have n3_ := Aside0.mk (blk_below (g := gb300) (o := .cells #[.int .u64 0, .int .u64 0] 65 (0, 0)) (by (with_reducible repeat (first | refine blk_drewN ?_ _ | refine blk_drew ?_ | refine blk_alloc ?_ _)); refine blk_far ?_ NB300_309.out _; (with_reducible repeat (first | refine blk_drewN ?_ _ | refine blk_drew ?_ | refine blk_alloc ?_ _)); refine blk_far ?_ NB300_309.out _; (with_reducible repeat (first | refine blk_drewN ?_ _ | refine blk_drew ?_ | refine blk_alloc ?_ _)); exact BK300.out) hb); have n4_ := Aside0.mk (blk_below (g := gb309) (o := .cells #[.int .u64 t307, .int .u64 t308] 65 (0, 0)) (by (with_reducible repeat (first | refine blk_drewN ?_ _ | refine blk_drew ?_ | refine blk_alloc ?_ _)); refine blk_put (cs := #[.int .u64 t307, .int .u64 0]) ?_ 1 _ rfl; (with_reducible repeat (first | refine blk_drewN ?_ _ | refine blk_drew ?_ | refine blk_alloc ?_ _)); refine blk_put (cs := #[.int .u64 0, .int .u64 0]) ?_ 0 _ rfl; (with_reducible repeat (first | refine blk_drewN ?_ _ | refine blk_drew ?_ | refine blk_alloc ?_ _)); exact BK309.out) hb); have n5_ := Aside0.mk (below_step (by repeat (first | (with_reducible first | exact HB.out | apply below_alloc | apply pw_below_drewN | apply below_drew1 | refine below_set ?_ GE297.out | refine below_set ?_ GE298.out | refine below_set ?_ GE299.out | refine below_set ?_ GE300.out | refine below_set ?_ GE309.out) | exact HB.out)) hb); clear BK297; clear BK298; clear BK299; clear BK300; clear BK309; clear HB; have BK297 := n0_; have BK298 := n1_; have BK299 := n2_; have BK300 := n3_; have BK309 := n4_; have HB := n5_; clear n0_ n1_ n2_ n3_ n4_ n5_; (try clear hb); (try clear hb2); (try clear hk); (try clear hi)) | ((with_reducible refine gate_dst (N := 9) rfl ?_); refine box_event ?hg (N := 9) ?hd (cs := #[.int .u64 0, .int .u64 0]) (t := 65) ?hr ?_; (case hd => rfl); (case hg => rfl); (case hr => first | (go_simp; done) | (go_simp; rfl)); intro gb312 hg w49 hbox hb; have n0_ := Aside0.mk (blk_below (g := gb297) (o := .cells #[.int .u64 a0_0, .int .u64 a0_1] 65 (0, 0)) (by exact BK297.out) hb); have n1_ := Aside0.mk (blk_below (g := gb298) (o := .cells #[.int .u64 a1_0, .int .u64 a1_1] 65 (0, 0)) (by exact BK298.out) hb); have n2_ := Aside0.mk (blk_below (g := gb299) (o := .cells #[.int .u64 0, .int .u64 0] 65 (0, 0)) (by exact BK299.out) hb); have n3_ := Aside0.mk (blk_below (g := gb300) (o := .cells #[.int .u64 0, .int .u64 0] 65 (0, 0)) (by exact BK300.out) hb); have n4_ := Aside0.mk (blk_below (g := gb309) (o := .cells #[.int .u64 t307, .int .u64 t308] 65 (0, 0)) (by exact BK309.out) hb); have n5_ := Aside0.mk (below_step (by repeat (first | (with_reducible first | exact HB.out | apply below_alloc | apply pw_below_drewN | apply below_drew1 | refine below_set ?_ GE297.out | refine below_set ?_ GE298.out | refine below_set ?_ GE299.out | refine below_set ?_ GE300.out | refine below_set ?_ GE309.out) | exact HB.out)) hb); have n6_ := Aside0.mk (hbox); have n7_ := Aside0.mk ((by rw [hg]; exact (below_size (by repeat (first | (with_reducible first | exact HB.out | apply below_alloc | apply pw_below_drewN | apply below_drew1 | refine below_set ?_ GE297.out | refine below_set ?_ GE298.out | refine below_set ?_ GE299.out | refine below_set ?_ GE300.out | refine below_set ?_ GE309.out) | exact HB.out))) : w.heap.size ≤ gb312)); have n8_ := Aside0.mk ((by rw [hg]; exact (below_size (by repeat (first | (with_reducible first | exact HB.out | apply below_alloc | apply pw_below_drewN | apply below_drew1 | refine below_set ?_ GE297.out | refine below_set ?_ GE298.out | refine below_set ?_ GE299.out | refine below_set ?_ GE300.out | refine below_set ?_ GE309.out) | exact HB.out))) : w.heap.size ≤ gb312)); have n9_ := Aside0.mk ((by rw [hg]; exact Nat.ne_of_lt (blk_lt (g := gb297) (o := .cells #[.int .u64 a0_0, .int .u64 a0_1] 65 (0, 0)) (by exact BK297.out)) : gb297 ≠ gb312)); have n10_ := Aside0.mk ((by rw [hg]; exact Nat.ne_of_gt (blk_lt (g := gb297) (o := .cells #[.int .u64 a0_0, .int .u64 a0_1] 65 (0, 0)) (by exact BK297.out)) : gb312 ≠ gb297)); have n11_ := Aside0.mk ((by rw [hg]; exact Nat.ne_of_lt (blk_lt (g := gb298) (o := .cells #[.int .u64 a1_0, .int .u64 a1_1] 65 (0, 0)) (by exact BK298.out)) : gb298 ≠ gb312)); have n12_ := Aside0.mk ((by rw [hg]; exact Nat.ne_of_gt (blk_lt (g := gb298) (o := .cells #[.int .u64 a1_0, .int .u64 a1_1] 65 (0, 0)) (by exact BK298.out)) : gb312 ≠ gb298)); have n13_ := Aside0.mk ((by rw [hg]; exact Nat.ne_of_lt (blk_lt (g := gb299) (o := .cells #[.int .u64 0, .int .u64 0] 65 (0, 0)) (by exact BK299.out)) : gb299 ≠ gb312)); have n14_ := Aside0.mk ((by rw [hg]; exact Nat.ne_of_gt (blk_lt (g := gb299) (o := .cells #[.int .u64 0, .int .u64 0] 65 (0, 0)) (by exact BK299.out)) : gb312 ≠ gb299)); have n15_ := Aside0.mk ((by rw [hg]; exact Nat.ne_of_lt (blk_lt (g := gb300) (o := .cells #[.int .u64 0, .int .u64 0] 65 (0, 0)) (by exact BK300.out)) : gb300 ≠ gb312)); have n16_ := Aside0.mk ((by rw [hg]; exact Nat.ne_of_gt (blk_lt (g := gb300) (o := .cells #[.int .u64 0, .int .u64 0] 65 (0, 0)) (by exact BK300.out)) : gb312 ≠ gb300)); have n17_ := Aside0.mk ((by rw [hg]; exact Nat.ne_of_lt (blk_lt (g := gb309) (o := .cells #[.int .u64 t307, .int .u64 t308] 65 (0, 0)) (by exact BK309.out)) : gb309 ≠ gb312)); have n18_ := Aside0.mk ((by rw [hg]; exact Nat.ne_of_gt (blk_lt (g := gb309) (o := .cells #[.int .u64 t307, .int .u64 t308] 65 (0, 0)) (by exact BK309.out)) : gb312 ≠ gb309)); clear BK297; clear BK298; clear BK299; clear BK300; clear BK309; clear HB; have BK297 := n0_; have BK298 := n1_; have BK299 := n2_; have BK300 := n3_; have BK309 := n4_; have HB := n5_; have BK312 := n6_; have GW312 := n7_; have GE312 := n8_; have NB297_312 := n9_; have NB312_297 := n10_; have NB298_312 := n11_; have NB312_298 := n12_; have NB299_312 := n13_; have NB312_299 := n14_; have NB300_312 := n15_; have NB312_300 := n16_; have NB309_312 := n17_; have NB312_309 := n18_; clear n0_ n1_ n2_ n3_ n4_ n5_ n6_ n7_ n8_ n9_ n10_ n11_ n12_ n13_ n14_ n15_ n16_ n17_ n18_; clear hb hbox hg; have hnb50 := NB312_297.out; have hnc50 := NB297_312.out; have hnb51 := NB312_298.out; have hnc51 := NB298_312.out; have hnb52 := NB312_299.out; have hnc52 := NB299_312.out; have hnb53 := NB312_300.out; have hnc53 := NB300_312.out; have hnb54 := NB312_309.out; have hnc54 := NB309_312.out; have hcz55_0 : w49.cell? ⟨gb312, 0, none⟩ = some (.int .u64 0) := (blk_cell BK312.out 0).trans rfl; have hcz55_1 : w49.cell? ⟨gb312, 1, none⟩ = some (.int .u64 0) := (blk_cell BK312.out 1).trans rfl; have hfz55_0 := blk_frozen BK312.out 0; have hfz55_1 := blk_frozen BK312.out 1; have hcz56_0 : w49.cell? ⟨gb309, 0, none⟩ = some (.int .u64 t307) := (blk_cell BK309.out 0).trans rfl; have hcz56_1 : w49.cell? ⟨gb309, 1, none⟩ = some (.int .u64 t308) := (blk_cell BK309.out 1).trans rfl; have hfz56_0 := blk_frozen BK309.out 0; have hfz56_1 := blk_frozen BK309.out 1) | ((with_reducible refine gate_callee (f := 104) rfl ?_); refine goesL_ (some 40) rfl rfl Tryd.func104 (by kernel_rfl) rfl #[.int .u64 t311, .int .u64 t310, .int .u64 t308] rfl (by (try simp only [List.map_toArray, List.map_cons, List.map_nil]); first | done | rfl | (simp only [List.length_drop, List.length_take]; rfl)) ?_; (with_reducible refine (gobits_Div64.calls k t311 t310 t308 t313 t314 _ A25.out).mono ?_); rintro e w' ⟨rfl, ⟨nd, rfl⟩⟩; refine ⟨_, rfl, ?_⟩))
      (try simp only [Act.put, List.setIfInBounds_toArray, List.set_cons_zero, List.set_cons_succ])
      go_cut [10] (fun v10 wc => ∃ (kq : Nat) (x10_28 : Int), v10 = .int .u64 x10_28 ∧ Aside0 (uint128_Uint128_QuoRem.j0 kq x10_28 a0_0 a0_1 a1_0 a1_1 = some (r1, r2, r3, r4)) ∧ Aside0 (kq ≤ k) ∧ Aside0 (wc.heap[gb297]? = some (.cells #[.int .u64 a0_0, .int .u64 a0_1] 65 (0, 0))) ∧ Aside0 (wc.heap[gb298]? = some (.cells #[.int .u64 a1_0, .int .u64 a1_1] 65 (0, 0))) ∧ Aside0 (wc.heap[gb299]? = some (.cells #[.int .u64 0, .int .u64 0] 65 (0, 0))) ∧ Aside0 (wc.heap[gb300]? = some (.cells #[.int .u64 0, .int .u64 0] 65 (0, 0))) ∧ Aside0 (wc.heap[gb309]? = some (.cells #[.int .u64 t307, .int .u64 t308] 65 (0, 0))) ∧ Aside0 (wc.heap[gb312]? = some (.cells #[.int .u64 t310, .int .u64 t311] 65 (0, 0))) ∧ Aside0 (Below w.heap.size w wc))
      case first =>
        have H := HC29.out
        clear HC29
        by_cases c57 : (ji28) = 0
        · rw [if_pos c57] at H
          have c57b0 : ((ji28) == 0) = true := beq_iff_eq.mpr c57
          have c57b1 : ((ji28) != 0) = false := bne_eq_false_iff_eq.mpr c57
          clear c57
          (first | rw [c57b0] | (simp only [i64_w, i32_w]; rw [c57b0]) | skip)
          have H' := Aside0.mk H
          clear H
          go_wp2
          go_meet
          case rel => exact ⟨_, (ji28), (by first | rfl | (simp; done) | (simp only [← hji28] <;> (first | rfl | simp)) | (simp [*]; done)), H', ⟨by first | omega | exact Nat.le_refl _⟩, ⟨by (with_reducible repeat (first | refine blk_drewN ?_ _ | refine blk_drew ?_ | refine blk_alloc ?_ _)); refine blk_far ?_ NB297_312.out _; (with_reducible repeat (first | refine blk_drewN ?_ _ | refine blk_drew ?_ | refine blk_alloc ?_ _)); refine blk_far ?_ NB297_312.out _; (with_reducible repeat (first | refine blk_drewN ?_ _ | refine blk_drew ?_ | refine blk_alloc ?_ _)); exact BK297.out⟩, ⟨by (with_reducible repeat (first | refine blk_drewN ?_ _ | refine blk_drew ?_ | refine blk_alloc ?_ _)); refine blk_far ?_ NB298_312.out _; (with_reducible repeat (first | refine blk_drewN ?_ _ | refine blk_drew ?_ | refine blk_alloc ?_ _)); refine blk_far ?_ NB298_312.out _; (with_reducible repeat (first | refine blk_drewN ?_ _ | refine blk_drew ?_ | refine blk_alloc ?_ _)); exact BK298.out⟩, ⟨by (with_reducible repeat (first | refine blk_drewN ?_ _ | refine blk_drew ?_ | refine blk_alloc ?_ _)); refine blk_far ?_ NB299_312.out _; (with_reducible repeat (first | refine blk_drewN ?_ _ | refine blk_drew ?_ | refine blk_alloc ?_ _)); refine blk_far ?_ NB299_312.out _; (with_reducible repeat (first | refine blk_drewN ?_ _ | refine blk_drew ?_ | refine blk_alloc ?_ _)); exact BK299.out⟩, ⟨by (with_reducible repeat (first | refine blk_drewN ?_ _ | refine blk_drew ?_ | refine blk_alloc ?_ _)); refine blk_far ?_ NB300_312.out _; (with_reducible repeat (first | refine blk_drewN ?_ _ | refine blk_drew ?_ | refine blk_alloc ?_ _)); refine blk_far ?_ NB300_312.out _; (with_reducible repeat (first | refine blk_drewN ?_ _ | refine blk_drew ?_ | refine blk_alloc ?_ _)); exact BK300.out⟩, ⟨by (with_reducible repeat (first | refine blk_drewN ?_ _ | refine blk_drew ?_ | refine blk_alloc ?_ _)); refine blk_far ?_ NB309_312.out _; (with_reducible repeat (first | refine blk_drewN ?_ _ | refine blk_drew ?_ | refine blk_alloc ?_ _)); refine blk_far ?_ NB309_312.out _; (with_reducible repeat (first | refine blk_drewN ?_ _ | refine blk_drew ?_ | refine blk_alloc ?_ _)); exact BK309.out⟩, ⟨by (with_reducible repeat (first | refine blk_drewN ?_ _ | refine blk_drew ?_ | refine blk_alloc ?_ _)); refine blk_put (cs := #[.int .u64 t310, .int .u64 0]) ?_ 1 _ rfl; (with_reducible repeat (first | refine blk_drewN ?_ _ | refine blk_drew ?_ | refine blk_alloc ?_ _)); refine blk_put (cs := #[.int .u64 0, .int .u64 0]) ?_ 0 _ rfl; (with_reducible repeat (first | refine blk_drewN ?_ _ | refine blk_drew ?_ | refine blk_alloc ?_ _)); exact BK312.out⟩, ⟨by repeat (first | (with_reducible first | exact HB.out | apply below_alloc | apply pw_below_drewN | apply below_drew1 | refine below_set ?_ GE297.out | refine below_set ?_ GE298.out | refine below_set ?_ GE299.out | refine below_set ?_ GE300.out | refine below_set ?_ GE309.out | refine below_set ?_ GE312.out) | exact HB.out)⟩⟩
        · rw [if_neg c57] at H
          have c57b0 : ((ji28) == 0) = false := beq_eq_false_iff_ne.mpr c57
          have c57b1 : ((ji28) != 0) = true := bne_iff_ne.mpr c57
          (first | rw [c57b0] | (simp only [i64_w, i32_w]; rw [c57b0]) | skip)
          have H' := Aside0.mk H
          clear H
          go_wp2
          go_meet
          case rel => exact ⟨_, (IntKind.u64.wrap ((ji28) - 1)), (by first | rfl | (simp; done) | (simp only [← hji28] <;> (first | rfl | simp)) | (simp [*]; done)), H', ⟨by first | omega | exact Nat.le_refl _⟩, ⟨by (with_reducible repeat (first | refine blk_drewN ?_ _ | refine blk_drew ?_ | refine blk_alloc ?_ _)); refine blk_far ?_ NB297_312.out _; (with_reducible repeat (first | refine blk_drewN ?_ _ | refine blk_drew ?_ | refine blk_alloc ?_ _)); refine blk_far ?_ NB297_312.out _; (with_reducible repeat (first | refine blk_drewN ?_ _ | refine blk_drew ?_ | refine blk_alloc ?_ _)); exact BK297.out⟩, ⟨by (with_reducible repeat (first | refine blk_drewN ?_ _ | refine blk_drew ?_ | refine blk_alloc ?_ _)); refine blk_far ?_ NB298_312.out _; (with_reducible repeat (first | refine blk_drewN ?_ _ | refine blk_drew ?_ | refine blk_alloc ?_ _)); refine blk_far ?_ NB298_312.out _; (with_reducible repeat (first | refine blk_drewN ?_ _ | refine blk_drew ?_ | refine blk_alloc ?_ _)); exact BK298.out⟩, ⟨by (with_reducible repeat (first | refine blk_drewN ?_ _ | refine blk_drew ?_ | refine blk_alloc ?_ _)); refine blk_far ?_ NB299_312.out _; (with_reducible repeat (first | refine blk_drewN ?_ _ | refine blk_drew ?_ | refine blk_alloc ?_ _)); refine blk_far ?_ NB299_312.out _; (with_reducible repeat (first | refine blk_drewN ?_ _ | refine blk_drew ?_ | refine blk_alloc ?_ _)); exact BK299.out⟩, ⟨by (with_reducible repeat (first | refine blk_drewN ?_ _ | refine blk_drew ?_ | refine blk_alloc ?_ _)); refine blk_far ?_ NB300_312.out _; (with_reducible repeat (first | refine blk_drewN ?_ _ | refine blk_drew ?_ | refine blk_alloc ?_ _)); refine blk_far ?_ NB300_312.out _; (with_reducible repeat (first | refine blk_drewN ?_ _ | refine blk_drew ?_ | refine blk_alloc ?_ _)); exact BK300.out⟩, ⟨by (with_reducible repeat (first | refine blk_drewN ?_ _ | refine blk_drew ?_ | refine blk_alloc ?_ _)); refine blk_far ?_ NB309_312.out _; (with_reducible repeat (first | refine blk_drewN ?_ _ | refine blk_drew ?_ | refine blk_alloc ?_ _)); refine blk_far ?_ NB309_312.out _; (with_reducible repeat (first | refine blk_drewN ?_ _ | refine blk_drew ?_ | refine blk_alloc ?_ _)); exact BK309.out⟩, ⟨by (with_reducible repeat (first | refine blk_drewN ?_ _ | refine blk_drew ?_ | refine blk_alloc ?_ _)); refine blk_put (cs := #[.int .u64 t310, .int .u64 0]) ?_ 1 _ rfl; (with_reducible repeat (first | refine blk_drewN ?_ _ | refine blk_drew ?_ | refine blk_alloc ?_ _)); refine blk_put (cs := #[.int .u64 0, .int .u64 0]) ?_ 0 _ rfl; (with_reducible repeat (first | refine blk_drewN ?_ _ | refine blk_drew ?_ | refine blk_alloc ?_ _)); exact BK312.out⟩, ⟨by repeat (first | (with_reducible first | exact HB.out | apply below_alloc | apply pw_below_drewN | apply below_drew1 | refine below_set ?_ GE297.out | refine below_set ?_ GE298.out | refine below_set ?_ GE299.out | refine below_set ?_ GE300.out | refine below_set ?_ GE309.out | refine below_set ?_ GE312.out) | exact HB.out)⟩⟩
      case rest =>
        clear HC29
        try clear c1
        try clear c2
        try clear p2
        try clear c3
        try clear c3b0
        try clear c3b1
        try clear c4
        try clear c5
        try clear c6
        try clear c9
        try clear c10
        try clear c11
        try clear c12
        try clear c14
        try clear c15
        try clear c18
        try clear c27
        try clear c27b0
        try clear c27b1
        try clear c34
        try clear c35
        try clear c36
        try clear c40
        try clear c41
        try clear c42
        try clear c43
        try clear c45
        try clear c46
        try clear c50
        try clear c51
        try clear c52
        try clear c53
        try clear c54
        try clear c57
        try clear c57b0
        try clear c57b1
        try clear hcz13_0
        try clear hcz13_1
        try clear hcz16_0
        try clear hcz16_1
        try clear hcz19_0
        try clear hcz19_1
        try clear hcz21_0
        try clear hcz21_1
        try clear hcz37_0
        try clear hcz37_1
        try clear hcz44_0
        try clear hcz44_1
        try clear hcz47_0
        try clear hcz47_1
        try clear hcz55_0
        try clear hcz55_1
        try clear hcz56_0
        try clear hcz56_1
        try clear hfz13_0
        try clear hfz13_1
        try clear hfz16_0
        try clear hfz16_1
        try clear hfz19_0
        try clear hfz19_1
        try clear hfz21_0
        try clear hfz21_1
        try clear hfz37_0
        try clear hfz37_1
        try clear hfz44_0
        try clear hfz44_1
        try clear hfz47_0
        try clear hfz47_1
        try clear hfz55_0
        try clear hfz55_1
        try clear hfz56_0
        try clear hfz56_1
        obtain ⟨kq, x10_28, rfl, HA, HJ28, BK297, BK298, BK299, BK300, BK309, BK312, HB⟩ := hcut
        cases kq with
        | zero => exact absurd HA.out (by simp [uint128_Uint128_QuoRem.j0])
        | succ kj28 =>
          have H := HA.out
          clear HA
          simp only [uint128_Uint128_QuoRem.j0] at H
          replace H := Option.bind_eq_some_iff.mp H
          obtain ⟨⟨t315, t316⟩, A580, H⟩ := H
          replace H : ((uint128_Uint128_Mul64.f a1_0 a1_1 x10_28).bind fun bt317 => ((uint128_Uint128_Sub.f a0_0 a0_1 bt317.1 bt317.2).bind fun bt319 => ((uint128_Uint128_Cmp.f bt319.1 bt319.2 a1_0 a1_1).bind fun t321 => (if t321 ≥ 0 then ((uint128_Uint128_Add64.f t315 t316 1).bind fun bt322 => ((uint128_Uint128_Sub.f bt319.1 bt319.2 a1_0 a1_1).bind fun bt324 => (some (bt322.1, bt322.2, bt324.1, bt324.2)))) else (some (t315, t316, bt319.1, bt319.2)))))) = some (r1, r2, r3, r4) := H
          have A58 := Aside0.mk A580
          clear A580
          replace H := Option.bind_eq_some_iff.mp H
          obtain ⟨⟨t317, t318⟩, A590, H⟩ := H
          replace H : ((uint128_Uint128_Sub.f a0_0 a0_1 t317 t318).bind fun bt319 => ((uint128_Uint128_Cmp.f bt319.1 bt319.2 a1_0 a1_1).bind fun t321 => (if t321 ≥ 0 then ((uint128_Uint128_Add64.f t315 t316 1).bind fun bt322 => ((uint128_Uint128_Sub.f bt319.1 bt319.2 a1_0 a1_1).bind fun bt324 => (some (bt322.1, bt322.2, bt324.1, bt324.2)))) else (some (t315, t316, bt319.1, bt319.2))))) = some (r1, r2, r3, r4) := H
          have A59 := Aside0.mk A590
          clear A590
          replace H := Option.bind_eq_some_iff.mp H
          obtain ⟨⟨t319, t320⟩, A600, H⟩ := H
          replace H : ((uint128_Uint128_Cmp.f t319 t320 a1_0 a1_1).bind fun t321 => (if t321 ≥ 0 then ((uint128_Uint128_Add64.f t315 t316 1).bind fun bt322 => ((uint128_Uint128_Sub.f t319 t320 a1_0 a1_1).bind fun bt324 => (some (bt322.1, bt322.2, bt324.1, bt324.2)))) else (some (t315, t316, t319, t320)))) = some (r1, r2, r3, r4) := H
          have A60 := Aside0.mk A600
          clear A600
          replace H := Option.bind_eq_some_iff.mp H
          obtain ⟨t321, A610, H⟩ := H
          replace H : (if t321 ≥ 0 then ((uint128_Uint128_Add64.f t315 t316 1).bind fun bt322 => ((uint128_Uint128_Sub.f t319 t320 a1_0 a1_1).bind fun bt324 => (some (bt322.1, bt322.2, bt324.1, bt324.2)))) else (some (t315, t316, t319, t320))) = some (r1, r2, r3, r4) := H
          have A61 := Aside0.mk A610
          clear A610
          by_cases c62 : t321 ≥ 0
          · rw [if_pos c62] at H
            have c62b0 : decide (0 ≤ t321) = true := decide_eq_true c62
            clear c62
            replace H := Option.bind_eq_some_iff.mp H
            obtain ⟨⟨t322, t323⟩, A630, H⟩ := H
            replace H : ((uint128_Uint128_Sub.f t319 t320 a1_0 a1_1).bind fun bt324 => (some (t322, t323, bt324.1, bt324.2))) = some (r1, r2, r3, r4) := H
            have A63 := Aside0.mk A630
            clear A630
            replace H := Option.bind_eq_some_iff.mp H
            obtain ⟨⟨t324, t325⟩, A640, H⟩ := H
            replace H : (some (t322, t323, t324, t325)) = some (r1, r2, r3, r4) := H
            have A64 := Aside0.mk A640
            clear A640
            simp only [Option.some.injEq, Prod.mk.injEq] at H
            obtain ⟨rfl, rfl, rfl, rfl⟩ := H
            try go_wp2_with (first | ((with_reducible refine gate_callee (f := 42) rfl ?_); refine goesL_ (some 52) rfl rfl Tryd.func42 (by kernel_rfl) rfl #[.int .u64 x10_28] rfl (by (try simp only [List.map_toArray, List.map_cons, List.map_nil]); first | done | rfl | (simp only [List.length_drop, List.length_take]; rfl)) ?_; (with_reducible refine (uint128_From64.calls x10_28 t315 t316 _ A58.out).mono ?_); rintro e w65 ⟨rfl, hb⟩; refine ⟨_, rfl, ?_⟩; have n0_ := Aside0.mk (blk_below (g := gb297) (o := .cells #[.int .u64 a0_0, .int .u64 a0_1] 65 (0, 0)) (by exact BK297.out) hb); have n1_ := Aside0.mk (blk_below (g := gb298) (o := .cells #[.int .u64 a1_0, .int .u64 a1_1] 65 (0, 0)) (by exact BK298.out) hb); have n2_ := Aside0.mk (blk_below (g := gb299) (o := .cells #[.int .u64 0, .int .u64 0] 65 (0, 0)) (by exact BK299.out) hb); have n3_ := Aside0.mk (blk_below (g := gb300) (o := .cells #[.int .u64 0, .int .u64 0] 65 (0, 0)) (by exact BK300.out) hb); have n4_ := Aside0.mk (blk_below (g := gb309) (o := .cells #[.int .u64 t307, .int .u64 t308] 65 (0, 0)) (by exact BK309.out) hb); have n5_ := Aside0.mk (blk_below (g := gb312) (o := .cells #[.int .u64 t310, .int .u64 t311] 65 (0, 0)) (by exact BK312.out) hb); have n6_ := Aside0.mk (below_step (by repeat (first | (with_reducible first | exact HB.out | apply below_alloc | apply pw_below_drewN | apply below_drew1 | refine below_set ?_ GE297.out | refine below_set ?_ GE298.out | refine below_set ?_ GE299.out | refine below_set ?_ GE300.out | refine below_set ?_ GE309.out | refine below_set ?_ GE312.out) | exact HB.out)) hb); clear BK297; clear BK298; clear BK299; clear BK300; clear BK309; clear BK312; clear HB; have BK297 := n0_; have BK298 := n1_; have BK299 := n2_; have BK300 := n3_; have BK309 := n4_; have BK312 := n5_; have HB := n6_; clear n0_ n1_ n2_ n3_ n4_ n5_ n6_; (try clear hb); (try clear hb2); (try clear hk); (try clear hi); have hnb66 := NB299_297.out; have hnc66 := NB297_299.out; have hnb67 := NB299_298.out; have hnc67 := NB298_299.out; have hnb68 := NB299_300.out; have hnc68 := NB300_299.out; have hnb69 := NB299_309.out; have hnc69 := NB309_299.out; have hnb70 := NB299_312.out; have hnc70 := NB312_299.out; have hcz71_0 : w65.cell? ⟨gb299, 0, none⟩ = some (.int .u64 0) := (blk_cell BK299.out 0).trans rfl; have hcz71_1 : w65.cell? ⟨gb299, 1, none⟩ = some (.int .u64 0) := (blk_cell BK299.out 1).trans rfl; have hfz71_0 := blk_frozen BK299.out 0; have hfz71_1 := blk_frozen BK299.out 1))
            have n0_ : Aside0 (((w65.setCell ⟨gb299, 0, none⟩ (.int .u64 t315)).setCell ⟨gb299, 1, none⟩ (.int .u64 t316)).heap[gb297]? = some (.cells #[.int .u64 a0_0, .int .u64 a0_1] 65 (0, 0))) := ⟨by (with_reducible repeat (first | refine blk_drewN ?_ _ | refine blk_drew ?_ | refine blk_alloc ?_ _)); refine blk_far ?_ NB297_299.out _; (with_reducible repeat (first | refine blk_drewN ?_ _ | refine blk_drew ?_ | refine blk_alloc ?_ _)); refine blk_far ?_ NB297_299.out _; (with_reducible repeat (first | refine blk_drewN ?_ _ | refine blk_drew ?_ | refine blk_alloc ?_ _)); exact BK297.out⟩
            have n1_ : Aside0 (((w65.setCell ⟨gb299, 0, none⟩ (.int .u64 t315)).setCell ⟨gb299, 1, none⟩ (.int .u64 t316)).heap[gb298]? = some (.cells #[.int .u64 a1_0, .int .u64 a1_1] 65 (0, 0))) := ⟨by (with_reducible repeat (first | refine blk_drewN ?_ _ | refine blk_drew ?_ | refine blk_alloc ?_ _)); refine blk_far ?_ NB298_299.out _; (with_reducible repeat (first | refine blk_drewN ?_ _ | refine blk_drew ?_ | refine blk_alloc ?_ _)); refine blk_far ?_ NB298_299.out _; (with_reducible repeat (first | refine blk_drewN ?_ _ | refine blk_drew ?_ | refine blk_alloc ?_ _)); exact BK298.out⟩
            have n2_ : Aside0 (((w65.setCell ⟨gb299, 0, none⟩ (.int .u64 t315)).setCell ⟨gb299, 1, none⟩ (.int .u64 t316)).heap[gb299]? = some (.cells #[.int .u64 t315, .int .u64 t316] 65 (0, 0))) := ⟨by (with_reducible repeat (first | refine blk_drewN ?_ _ | refine blk_drew ?_ | refine blk_alloc ?_ _)); refine blk_put (cs := #[.int .u64 t315, .int .u64 0]) ?_ 1 _ rfl; (with_reducible repeat (first | refine blk_drewN ?_ _ | refine blk_drew ?_ | refine blk_alloc ?_ _)); refine blk_put (cs := #[.int .u64 0, .int .u64 0]) ?_ 0 _ rfl; (with_reducible repeat (first | refine blk_drewN ?_ _ | refine blk_drew ?_ | refine blk_alloc ?_ _)); exact BK299.out⟩
            have n3_ : Aside0 (((w65.setCell ⟨gb299, 0, none⟩ (.int .u64 t315)).setCell ⟨gb299, 1, none⟩ (.int .u64 t316)).heap[gb300]? = some (.cells #[.int .u64 0, .int .u64 0] 65 (0, 0))) := ⟨by (with_reducible repeat (first | refine blk_drewN ?_ _ | refine blk_drew ?_ | refine blk_alloc ?_ _)); refine blk_far ?_ NB300_299.out _; (with_reducible repeat (first | refine blk_drewN ?_ _ | refine blk_drew ?_ | refine blk_alloc ?_ _)); refine blk_far ?_ NB300_299.out _; (with_reducible repeat (first | refine blk_drewN ?_ _ | refine blk_drew ?_ | refine blk_alloc ?_ _)); exact BK300.out⟩
            have n4_ : Aside0 (((w65.setCell ⟨gb299, 0, none⟩ (.int .u64 t315)).setCell ⟨gb299, 1, none⟩ (.int .u64 t316)).heap[gb309]? = some (.cells #[.int .u64 t307, .int .u64 t308] 65 (0, 0))) := ⟨by (with_reducible repeat (first | refine blk_drewN ?_ _ | refine blk_drew ?_ | refine blk_alloc ?_ _)); refine blk_far ?_ NB309_299.out _; (with_reducible repeat (first | refine blk_drewN ?_ _ | refine blk_drew ?_ | refine blk_alloc ?_ _)); refine blk_far ?_ NB309_299.out _; (with_reducible repeat (first | refine blk_drewN ?_ _ | refine blk_drew ?_ | refine blk_alloc ?_ _)); exact BK309.out⟩
            have n5_ : Aside0 (((w65.setCell ⟨gb299, 0, none⟩ (.int .u64 t315)).setCell ⟨gb299, 1, none⟩ (.int .u64 t316)).heap[gb312]? = some (.cells #[.int .u64 t310, .int .u64 t311] 65 (0, 0))) := ⟨by (with_reducible repeat (first | refine blk_drewN ?_ _ | refine blk_drew ?_ | refine blk_alloc ?_ _)); refine blk_far ?_ NB312_299.out _; (with_reducible repeat (first | refine blk_drewN ?_ _ | refine blk_drew ?_ | refine blk_alloc ?_ _)); refine blk_far ?_ NB312_299.out _; (with_reducible repeat (first | refine blk_drewN ?_ _ | refine blk_drew ?_ | refine blk_alloc ?_ _)); exact BK312.out⟩
            have n6_ : Aside0 (Below w.heap.size w ((w65.setCell ⟨gb299, 0, none⟩ (.int .u64 t315)).setCell ⟨gb299, 1, none⟩ (.int .u64 t316))) := ⟨by repeat (first | (with_reducible first | exact HB.out | apply below_alloc | apply pw_below_drewN | apply below_drew1 | refine below_set ?_ GE297.out | refine below_set ?_ GE298.out | refine below_set ?_ GE299.out | refine below_set ?_ GE300.out | refine below_set ?_ GE309.out | refine below_set ?_ GE312.out) | exact HB.out)⟩
            (try clear BK297)
            (try clear BK298)
            (try clear BK299)
            (try clear BK300)
            (try clear BK309)
            (try clear BK312)
            (try clear HB)
            generalize ((w65.setCell ⟨gb299, 0, none⟩ (.int .u64 t315)).setCell ⟨gb299, 1, none⟩ (.int .u64 t316)) = w72 at n0_ n1_ n2_ n3_ n4_ n5_ n6_ ⊢
            have BK297 := n0_
            have BK298 := n1_
            have BK299 := n2_
            have BK300 := n3_
            have BK309 := n4_
            have BK312 := n5_
            have HB := n6_
            clear n0_ n1_ n2_ n3_ n4_ n5_ n6_
            have n0_ := Aside0.mk (blk_drew BK297.out)
            have n1_ := Aside0.mk (blk_drew BK298.out)
            have n2_ := Aside0.mk (blk_drew BK299.out)
            have n3_ := Aside0.mk (blk_drew BK300.out)
            have n4_ := Aside0.mk (blk_drew BK309.out)
            have n5_ := Aside0.mk (blk_drew BK312.out)
            have n6_ := Aside0.mk (below_drew1 HB.out)
            clear BK297
            clear BK298
            clear BK299
            clear BK300
            clear BK309
            clear BK312
            clear HB
            have BK297 := n0_
            have BK298 := n1_
            have BK299 := n2_
            have BK300 := n3_
            have BK309 := n4_
            have BK312 := n5_
            have HB := n6_
            clear n0_ n1_ n2_ n3_ n4_ n5_ n6_
            refine start_ (n := 6) (S := fun w' => w'.cell? ⟨gb297, 0, none⟩ = some (.int .u64 a0_0) ∧ w'.cell? ⟨gb297, 1, none⟩ = some (.int .u64 a0_1) ∧ w'.cell? ⟨gb298, 0, none⟩ = some (.int .u64 a1_0) ∧ w'.cell? ⟨gb298, 1, none⟩ = some (.int .u64 a1_1)) (ds := []) #[false, false, false, false, false, false] (by kernel_rfl) rfl rfl ⟨(blk_cell BK297.out 0).trans rfl, (blk_cell BK297.out 1).trans rfl, (blk_cell BK298.out 0).trans rfl, (blk_cell BK298.out 1).trans rfl⟩ (fun hHeld => ?_)
            generalize w72.drew = w73 at BK297 BK298 BK299 BK300 BK309 BK312 HB hHeld ⊢
            refine pure_ (i := 2) (N := some 55) (v := ?_) (a' := ?_) #[false, false, true, false, false, false] rfl rfl (by kernel_rfl) (fun _ _ _ h => h) (Or.inl ⟨by rfl, ?_⟩) ?_ ?_
            rotate_left
            · intro w'
              go_simp
              with_reducible rfl
            rotate_left
            · simp only [Act.put, List.setIfInBounds_toArray, List.set_cons_zero, List.set_cons_succ, i64_w, i32_w]
              rfl
            refine take_ (i := 0) (N := some 53) (v := ?_) (a' := ?_) #[true, false, true, false, false, false] rfl rfl (by kernel_rfl) (fun _ _ _ h => h) (Or.inl ⟨by rfl, ?_⟩) hHeld ?_ ?_
            rotate_left
            · rintro w' ⟨s0, s1, s2, s3⟩
              go_simp
              with_reducible rfl
            rotate_left
            · simp only [Act.put, List.setIfInBounds_toArray, List.set_cons_zero, List.set_cons_succ, i64_w, i32_w]
              rfl
            refine take_ (i := 1) (N := some 54) (v := ?_) (a' := ?_) #[true, true, true, false, false, false] rfl rfl (by kernel_rfl) (fun _ _ _ h => h) (Or.inl ⟨by rfl, ?_⟩) hHeld ?_ ?_
            rotate_left
            · rintro w' ⟨s0, s1, s2, s3⟩
              go_simp
              with_reducible rfl
            rotate_left
            · simp only [Act.put, List.setIfInBounds_toArray, List.set_cons_zero, List.set_cons_succ, i64_w, i32_w]
              rfl
            refine one_ (i := 3) (N := some 56) #[true, true, true, true, false, false] rfl rfl (by kernel_rfl) (by decide) (fun K hK => ?_)
            refine goes_ Tryd.func108 (by kernel_rfl) rfl #[.agg #[.int .u64 a1_0, .int .u64 a1_1], .int .u64 x10_28] (by rfl) rfl rfl (by (try simp only [List.map_toArray, List.map_cons, List.map_nil]); first | done | rfl | (simp only [List.length_drop, List.length_take]; rfl)) ?_
            with_reducible refine (uint128_Uint128_Mul64.calls a1_0 a1_1 x10_28 t317 t318 _ A59.out).mono ?_
            rintro e w74 ⟨rfl, hb⟩
            refine ⟨_, rfl, ?_⟩
            have n0_ := Aside0.mk (blk_below (g := gb297) (o := .cells #[.int .u64 a0_0, .int .u64 a0_1] 65 (0, 0)) (by exact BK297.out) hb)
            have n1_ := Aside0.mk (blk_below (g := gb298) (o := .cells #[.int .u64 a1_0, .int .u64 a1_1] 65 (0, 0)) (by exact BK298.out) hb)
            have n2_ := Aside0.mk (blk_below (g := gb299) (o := .cells #[.int .u64 t315, .int .u64 t316] 65 (0, 0)) (by exact BK299.out) hb)
            have n3_ := Aside0.mk (blk_below (g := gb300) (o := .cells #[.int .u64 0, .int .u64 0] 65 (0, 0)) (by exact BK300.out) hb)
            have n4_ := Aside0.mk (blk_below (g := gb309) (o := .cells #[.int .u64 t307, .int .u64 t308] 65 (0, 0)) (by exact BK309.out) hb)
            have n5_ := Aside0.mk (blk_below (g := gb312) (o := .cells #[.int .u64 t310, .int .u64 t311] 65 (0, 0)) (by exact BK312.out) hb)
            have n6_ := Aside0.mk (below_step (by repeat (first | (with_reducible first | exact HB.out | apply below_alloc | apply pw_below_drewN | apply below_drew1 | refine below_set ?_ GE297.out | refine below_set ?_ GE298.out | refine below_set ?_ GE299.out | refine below_set ?_ GE300.out | refine below_set ?_ GE309.out | refine below_set ?_ GE312.out) | exact HB.out)) hb)
            clear BK297
            clear BK298
            clear BK299
            clear BK300
            clear BK309
            clear BK312
            clear HB
            have BK297 := n0_
            have BK298 := n1_
            have BK299 := n2_
            have BK300 := n3_
            have BK309 := n4_
            have BK312 := n5_
            have HB := n6_
            clear n0_ n1_ n2_ n3_ n4_ n5_ n6_
            (try clear hb)
            (try clear hb2)
            (try clear hk)
            (try clear hi)
            refine hK.out _ _ ⟨(blk_cell BK297.out 0).trans rfl, (blk_cell BK297.out 1).trans rfl, (blk_cell BK298.out 0).trans rfl, (blk_cell BK298.out 1).trans rfl⟩ (fun hHeld => ?_)
            clear hK K
            refine norm_ (a' := ?_) ?_ ?_
            rotate_left
            · show Act.put _ (some 56) _ = _
              simp only [Act.put, List.setIfInBounds_toArray, List.set_cons_zero, List.set_cons_succ, i64_w, i32_w]
              rfl
            refine one_ (i := 4) (N := some 57) #[true, true, true, true, true, false] rfl rfl (by kernel_rfl) (by decide) (fun K hK => ?_)
            refine goes_ Tryd.func107 (by kernel_rfl) rfl #[.agg #[.int .u64 a0_0, .int .u64 a0_1], .agg #[.int .u64 t317, .int .u64 t318]] (by rfl) rfl rfl (by (try simp only [List.map_toArray, List.map_cons, List.map_nil]); first | done | rfl | (simp only [List.length_drop, List.length_take]; rfl)) ?_
            with_reducible refine (uint128_Uint128_Sub.calls a0_0 a0_1 t317 t318 t319 t320 _ A60.out).mono ?_
            rintro e w75 ⟨rfl, hb⟩
            refine ⟨_, rfl, ?_⟩
            have n0_ := Aside0.mk (blk_below (g := gb297) (o := .cells #[.int .u64 a0_0, .int .u64 a0_1] 65 (0, 0)) (by exact BK297.out) hb)
            have n1_ := Aside0.mk (blk_below (g := gb298) (o := .cells #[.int .u64 a1_0, .int .u64 a1_1] 65 (0, 0)) (by exact BK298.out) hb)
            have n2_ := Aside0.mk (blk_below (g := gb299) (o := .cells #[.int .u64 t315, .int .u64 t316] 65 (0, 0)) (by exact BK299.out) hb)
            have n3_ := Aside0.mk (blk_below (g := gb300) (o := .cells #[.int .u64 0, .int .u64 0] 65 (0, 0)) (by exact BK300.out) hb)
            have n4_ := Aside0.mk (blk_below (g := gb309) (o := .cells #[.int .u64 t307, .int .u64 t308] 65 (0, 0)) (by exact BK309.out) hb)
            have n5_ := Aside0.mk (blk_below (g := gb312) (o := .cells #[.int .u64 t310, .int .u64 t311] 65 (0, 0)) (by exact BK312.out) hb)
            have n6_ := Aside0.mk (below_step (by repeat (first | (with_reducible first | exact HB.out | apply below_alloc | apply pw_below_drewN | apply below_drew1 | refine below_set ?_ GE297.out | refine below_set ?_ GE298.out | refine below_set ?_ GE299.out | refine below_set ?_ GE300.out | refine below_set ?_ GE309.out | refine below_set ?_ GE312.out) | exact HB.out)) hb)
            clear BK297
            clear BK298
            clear BK299
            clear BK300
            clear BK309
            clear BK312
            clear HB
            have BK297 := n0_
            have BK298 := n1_
            have BK299 := n2_
            have BK300 := n3_
            have BK309 := n4_
            have BK312 := n5_
            have HB := n6_
            clear n0_ n1_ n2_ n3_ n4_ n5_ n6_
            (try clear hb)
            (try clear hb2)
            (try clear hk)
            (try clear hi)
            refine hK.out _ _ ⟨(blk_cell BK297.out 0).trans rfl, (blk_cell BK297.out 1).trans rfl, (blk_cell BK298.out 0).trans rfl, (blk_cell BK298.out 1).trans rfl⟩ (fun hHeld => ?_)
            clear hK K
            refine norm_ (a' := ?_) ?_ ?_
            rotate_left
            · show Act.put _ (some 57) _ = _
              simp only [Act.put, List.setIfInBounds_toArray, List.set_cons_zero, List.set_cons_succ, i64_w, i32_w]
              rfl
            refine one_ (i := 5) (N := none) #[true, true, true, true, true, true] rfl rfl (by kernel_rfl) (by decide) (fun K hK => ?_)
            have hs76 : w75.cell? ⟨gb300, 0, none⟩ = some (.int .u64 0) := (blk_cell BK300.out 0).trans rfl
            have hfs76 := blk_frozen BK300.out 0
            have hns76_0 := NB297_300.out
            have hns76_1 := NB298_300.out
            have hns76_2 := NB299_300.out
            have hns76_4 := NB309_300.out
            have hns76_5 := NB312_300.out
            have hms76_0 := NB300_297.out
            have hms76_1 := NB300_298.out
            have hms76_2 := NB300_299.out
            have hms76_4 := NB300_309.out
            have hms76_5 := NB300_312.out
            have hs77 : w75.cell? ⟨gb300, 1, none⟩ = some (.int .u64 0) := (blk_cell BK300.out 1).trans rfl
            have hfs77 := blk_frozen BK300.out 1
            have hns77_0 := NB297_300.out
            have hns77_1 := NB298_300.out
            have hns77_2 := NB299_300.out
            have hns77_4 := NB309_300.out
            have hns77_5 := NB312_300.out
            have hms77_0 := NB300_297.out
            have hms77_1 := NB300_298.out
            have hms77_2 := NB300_299.out
            have hms77_4 := NB300_309.out
            have hms77_5 := NB300_312.out
            refine skip_ (w1 := ?_) (by rfl) rfl ?_ ?_
            rotate_left
            · go_simp
              rfl
            refine hK.out _ _ ⟨((cell_far (p := ⟨gb300, _, none⟩) NB297_300.out _).trans (((cell_far (p := ⟨gb300, _, none⟩) NB297_300.out _).trans (hHeld.1)))), ((cell_far (p := ⟨gb300, _, none⟩) NB297_300.out _).trans (((cell_far (p := ⟨gb300, _, none⟩) NB297_300.out _).trans (hHeld.2.1)))), ((cell_far (p := ⟨gb300, _, none⟩) NB298_300.out _).trans (((cell_far (p := ⟨gb300, _, none⟩) NB298_300.out _).trans (hHeld.2.2.1)))), ((cell_far (p := ⟨gb300, _, none⟩) NB298_300.out _).trans (((cell_far (p := ⟨gb300, _, none⟩) NB298_300.out _).trans (hHeld.2.2.2))))⟩ (fun hHeld => ?_)
            clear hK K
            refine done_ (by kernel_rfl) ?_
            have hnb78 := NB300_297.out
            have hnc78 := NB297_300.out
            have hnb79 := NB300_298.out
            have hnc79 := NB298_300.out
            have hnb80 := NB300_309.out
            have hnc80 := NB309_300.out
            have hnb81 := NB300_312.out
            have hnc81 := NB312_300.out
            have hcz82_0 : w75.cell? ⟨gb300, 0, none⟩ = some (.int .u64 0) := (blk_cell BK300.out 0).trans rfl
            have hcz82_1 : w75.cell? ⟨gb300, 1, none⟩ = some (.int .u64 0) := (blk_cell BK300.out 1).trans rfl
            have hfz82_0 := blk_frozen BK300.out 0
            have hfz82_1 := blk_frozen BK300.out 1
            have hnb83 := NB298_297.out
            have hnc83 := NB297_298.out
            have hnb84 := NB298_309.out
            have hnc84 := NB309_298.out
            have hnb85 := NB298_312.out
            have hnc85 := NB312_298.out
            have hcz86_0 : w75.cell? ⟨gb298, 0, none⟩ = some (.int .u64 a1_0) := (blk_cell BK298.out 0).trans rfl
            have hcz86_1 : w75.cell? ⟨gb298, 1, none⟩ = some (.int .u64 a1_1) := (blk_cell BK298.out 1).trans rfl
            have hfz86_0 := blk_frozen BK298.out 0
            have hfz86_1 := blk_frozen BK298.out 1
            try go_wp2_with (first | ((with_reducible refine gate_callee (f := 73) rfl ?_); refine goesL_ (some 60) rfl rfl Tryd.func73 (by kernel_rfl) rfl #[.agg #[.int .u64 t319, .int .u64 t320], .agg #[.int .u64 a1_0, .int .u64 a1_1]] rfl (by (try simp only [List.map_toArray, List.map_cons, List.map_nil]); first | done | rfl | (simp only [List.length_drop, List.length_take]; rfl)) ?_; (with_reducible refine (uint128_Uint128_Cmp.calls t319 t320 a1_0 a1_1 t321 _ A61.out).mono ?_); rintro e w87 ⟨rfl, hb⟩; refine ⟨_, rfl, ?_⟩; have n0_ := Aside0.mk (blk_below (g := gb297) (o := .cells #[.int .u64 a0_0, .int .u64 a0_1] 65 (0, 0)) (by (with_reducible repeat (first | refine blk_drewN ?_ _ | refine blk_drew ?_ | refine blk_alloc ?_ _)); refine blk_far ?_ NB297_300.out _; (with_reducible repeat (first | refine blk_drewN ?_ _ | refine blk_drew ?_ | refine blk_alloc ?_ _)); refine blk_far ?_ NB297_300.out _; (with_reducible repeat (first | refine blk_drewN ?_ _ | refine blk_drew ?_ | refine blk_alloc ?_ _)); exact BK297.out) hb); have n1_ := Aside0.mk (blk_below (g := gb298) (o := .cells #[.int .u64 a1_0, .int .u64 a1_1] 65 (0, 0)) (by (with_reducible repeat (first | refine blk_drewN ?_ _ | refine blk_drew ?_ | refine blk_alloc ?_ _)); refine blk_far ?_ NB298_300.out _; (with_reducible repeat (first | refine blk_drewN ?_ _ | refine blk_drew ?_ | refine blk_alloc ?_ _)); refine blk_far ?_ NB298_300.out _; (with_reducible repeat (first | refine blk_drewN ?_ _ | refine blk_drew ?_ | refine blk_alloc ?_ _)); exact BK298.out) hb); have n2_ := Aside0.mk (blk_below (g := gb299) (o := .cells #[.int .u64 t315, .int .u64 t316] 65 (0, 0)) (by (with_reducible repeat (first | refine blk_drewN ?_ _ | refine blk_drew ?_ | refine blk_alloc ?_ _)); refine blk_far ?_ NB299_300.out _; (with_reducible repeat (first | refine blk_drewN ?_ _ | refine blk_drew ?_ | refine blk_alloc ?_ _)); refine blk_far ?_ NB299_300.out _; (with_reducible repeat (first | refine blk_drewN ?_ _ | refine blk_drew ?_ | refine blk_alloc ?_ _)); exact BK299.out) hb); have n3_ := Aside0.mk (blk_below (g := gb300) (o := .cells #[.int .u64 t319, .int .u64 t320] 65 (0, 0)) (by (with_reducible repeat (first | refine blk_drewN ?_ _ | refine blk_drew ?_ | refine blk_alloc ?_ _)); refine blk_put (cs := #[.int .u64 t319, .int .u64 0]) ?_ 1 _ rfl; (with_reducible repeat (first | refine blk_drewN ?_ _ | refine blk_drew ?_ | refine blk_alloc ?_ _)); refine blk_put (cs := #[.int .u64 0, .int .u64 0]) ?_ 0 _ rfl; (with_reducible repeat (first | refine blk_drewN ?_ _ | refine blk_drew ?_ | refine blk_alloc ?_ _)); exact BK300.out) hb); have n4_ := Aside0.mk (blk_below (g := gb309) (o := .cells #[.int .u64 t307, .int .u64 t308] 65 (0, 0)) (by (with_reducible repeat (first | refine blk_drewN ?_ _ | refine blk_drew ?_ | refine blk_alloc ?_ _)); refine blk_far ?_ NB309_300.out _; (with_reducible repeat (first | refine blk_drewN ?_ _ | refine blk_drew ?_ | refine blk_alloc ?_ _)); refine blk_far ?_ NB309_300.out _; (with_reducible repeat (first | refine blk_drewN ?_ _ | refine blk_drew ?_ | refine blk_alloc ?_ _)); exact BK309.out) hb); have n5_ := Aside0.mk (blk_below (g := gb312) (o := .cells #[.int .u64 t310, .int .u64 t311] 65 (0, 0)) (by (with_reducible repeat (first | refine blk_drewN ?_ _ | refine blk_drew ?_ | refine blk_alloc ?_ _)); refine blk_far ?_ NB312_300.out _; (with_reducible repeat (first | refine blk_drewN ?_ _ | refine blk_drew ?_ | refine blk_alloc ?_ _)); refine blk_far ?_ NB312_300.out _; (with_reducible repeat (first | refine blk_drewN ?_ _ | refine blk_drew ?_ | refine blk_alloc ?_ _)); exact BK312.out) hb); have n6_ := Aside0.mk (below_step (by repeat (first | (with_reducible first | exact HB.out | apply below_alloc | apply pw_below_drewN | apply below_drew1 | refine below_set ?_ GE297.out | refine below_set ?_ GE298.out | refine below_set ?_ GE299.out | refine below_set ?_ GE300.out | refine below_set ?_ GE309.out | refine below_set ?_ GE312.out) | exact HB.out)) hb); clear BK297; clear BK298; clear BK299; clear BK300; clear BK309; clear BK312; clear HB; have BK297 := n0_; have BK298 := n1_; have BK299 := n2_; have BK300 := n3_; have BK309 := n4_; have BK312 := n5_; have HB := n6_; clear n0_ n1_ n2_ n3_ n4_ n5_ n6_; (try clear hb); (try clear hb2); (try clear hk); (try clear hi); have hcz88_0 : w87.cell? ⟨gb299, 0, none⟩ = some (.int .u64 t315) := (blk_cell BK299.out 0).trans rfl; have hcz88_1 : w87.cell? ⟨gb299, 1, none⟩ = some (.int .u64 t316) := (blk_cell BK299.out 1).trans rfl; have hfz88_0 := blk_frozen BK299.out 0; have hfz88_1 := blk_frozen BK299.out 1) | ((with_reducible refine gate_callee (f := 109) rfl ?_); refine goesL_ (some 63) rfl rfl Tryd.func109 (by kernel_rfl) rfl #[.agg #[.int .u64 t315, .int .u64 t316], .int .u64 1] rfl (by (try simp only [List.map_toArray, List.map_cons, List.map_nil]); first | done | rfl | (simp only [List.length_drop, List.length_take]; rfl)) ?_; (with_reducible refine (uint128_Uint128_Add64.calls t315 t316 1 t322 t323 _ A63.out).mono ?_); rintro e w89 ⟨rfl, hb⟩; refine ⟨_, rfl, ?_⟩; have n0_ := Aside0.mk (blk_below (g := gb297) (o := .cells #[.int .u64 a0_0, .int .u64 a0_1] 65 (0, 0)) (by exact BK297.out) hb); have n1_ := Aside0.mk (blk_below (g := gb298) (o := .cells #[.int .u64 a1_0, .int .u64 a1_1] 65 (0, 0)) (by exact BK298.out) hb); have n2_ := Aside0.mk (blk_below (g := gb299) (o := .cells #[.int .u64 t315, .int .u64 t316] 65 (0, 0)) (by exact BK299.out) hb); have n3_ := Aside0.mk (blk_below (g := gb300) (o := .cells #[.int .u64 t319, .int .u64 t320] 65 (0, 0)) (by exact BK300.out) hb); have n4_ := Aside0.mk (blk_below (g := gb309) (o := .cells #[.int .u64 t307, .int .u64 t308] 65 (0, 0)) (by exact BK309.out) hb); have n5_ := Aside0.mk (blk_below (g := gb312) (o := .cells #[.int .u64 t310, .int .u64 t311] 65 (0, 0)) (by exact BK312.out) hb); have n6_ := Aside0.mk (below_step (by repeat (first | (with_reducible first | exact HB.out | apply below_alloc | apply pw_below_drewN | apply below_drew1 | refine below_set ?_ GE297.out | refine below_set ?_ GE298.out | refine below_set ?_ GE299.out | refine below_set ?_ GE300.out | refine below_set ?_ GE309.out | refine below_set ?_ GE312.out) | exact HB.out)) hb); clear BK297; clear BK298; clear BK299; clear BK300; clear BK309; clear BK312; clear HB; have BK297 := n0_; have BK298 := n1_; have BK299 := n2_; have BK300 := n3_; have BK309 := n4_; have BK312 := n5_; have HB := n6_; clear n0_ n1_ n2_ n3_ n4_ n5_ n6_; (try clear hb); (try clear hb2); (try clear hk); (try clear hi); have hcz90_0 : w89.cell? ⟨gb299, 0, none⟩ = some (.int .u64 t315) := (blk_cell BK299.out 0).trans rfl; have hcz90_1 : w89.cell? ⟨gb299, 1, none⟩ = some (.int .u64 t316) := (blk_cell BK299.out 1).trans rfl; have hfz90_0 := blk_frozen BK299.out 0; have hfz90_1 := blk_frozen BK299.out 1; have hcz91_0 : w89.cell? ⟨gb300, 0, none⟩ = some (.int .u64 t319) := (blk_cell BK300.out 0).trans rfl; have hcz91_1 : w89.cell? ⟨gb300, 1, none⟩ = some (.int .u64 t320) := (blk_cell BK300.out 1).trans rfl; have hfz91_0 := blk_frozen BK300.out 0; have hfz91_1 := blk_frozen BK300.out 1; have hcz92_0 : w89.cell? ⟨gb298, 0, none⟩ = some (.int .u64 a1_0) := (blk_cell BK298.out 0).trans rfl; have hcz92_1 : w89.cell? ⟨gb298, 1, none⟩ = some (.int .u64 a1_1) := (blk_cell BK298.out 1).trans rfl; have hfz92_0 := blk_frozen BK298.out 0; have hfz92_1 := blk_frozen BK298.out 1) | ((with_reducible refine gate_callee (f := 107) rfl ?_); refine goesL_ (some 66) rfl rfl Tryd.func107 (by kernel_rfl) rfl #[.agg #[.int .u64 t319, .int .u64 t320], .agg #[.int .u64 a1_0, .int .u64 a1_1]] rfl (by (try simp only [List.map_toArray, List.map_cons, List.map_nil]); first | done | rfl | (simp only [List.length_drop, List.length_take]; rfl)) ?_; (with_reducible refine (uint128_Uint128_Sub.calls t319 t320 a1_0 a1_1 t324 t325 _ A64.out).mono ?_); rintro e w93 ⟨rfl, hb⟩; refine ⟨_, rfl, ?_⟩; have n0_ := Aside0.mk (blk_below (g := gb297) (o := .cells #[.int .u64 a0_0, .int .u64 a0_1] 65 (0, 0)) (by (with_reducible repeat (first | refine blk_drewN ?_ _ | refine blk_drew ?_ | refine blk_alloc ?_ _)); refine blk_far ?_ NB297_299.out _; (with_reducible repeat (first | refine blk_drewN ?_ _ | refine blk_drew ?_ | refine blk_alloc ?_ _)); refine blk_far ?_ NB297_299.out _; (with_reducible repeat (first | refine blk_drewN ?_ _ | refine blk_drew ?_ | refine blk_alloc ?_ _)); exact BK297.out) hb); have n1_ := Aside0.mk (blk_below (g := gb298) (o := .cells #[.int .u64 a1_0, .int .u64 a1_1] 65 (0, 0)) (by (with_reducible repeat (first | refine blk_drewN ?_ _ | refine blk_drew ?_ | refine blk_alloc ?_ _)); refine blk_far ?_ NB298_299.out _; (with_reducible repeat (first | refine blk_drewN ?_ _ | refine blk_drew ?_ | refine blk_alloc ?_ _)); refine blk_far ?_ NB298_299.out _; (with_reducible repeat (first | refine blk_drewN ?_ _ | refine blk_drew ?_ | refine blk_alloc ?_ _)); exact BK298.out) hb); have n2_ := Aside0.mk (blk_below (g := gb299) (o := .cells #[.int .u64 t322, .int .u64 t323] 65 (0, 0)) (by (with_reducible repeat (first | refine blk_drewN ?_ _ | refine blk_drew ?_ | refine blk_alloc ?_ _)); refine blk_put (cs := #[.int .u64 t322, .int .u64 t316]) ?_ 1 _ rfl; (with_reducible repeat (first | refine blk_drewN ?_ _ | refine blk_drew ?_ | refine blk_alloc ?_ _)); refine blk_put (cs := #[.int .u64 t315, .int .u64 t316]) ?_ 0 _ rfl; (with_reducible repeat (first | refine blk_drewN ?_ _ | refine blk_drew ?_ | refine blk_alloc ?_ _)); exact BK299.out) hb); have n3_ := Aside0.mk (blk_below (g := gb300) (o := .cells #[.int .u64 t319, .int .u64 t320] 65 (0, 0)) (by (with_reducible repeat (first | refine blk_drewN ?_ _ | refine blk_drew ?_ | refine blk_alloc ?_ _)); refine blk_far ?_ NB300_299.out _; (with_reducible repeat (first | refine blk_drewN ?_ _ | refine blk_drew ?_ | refine blk_alloc ?_ _)); refine blk_far ?_ NB300_299.out _; (with_reducible repeat (first | refine blk_drewN ?_ _ | refine blk_drew ?_ | refine blk_alloc ?_ _)); exact BK300.out) hb); have n4_ := Aside0.mk (blk_below (g := gb309) (o := .cells #[.int .u64 t307, .int .u64 t308] 65 (0, 0)) (by (with_reducible repeat (first | refine blk_drewN ?_ _ | refine blk_drew ?_ | refine blk_alloc ?_ _)); refine blk_far ?_ NB309_299.out _; (with_reducible repeat (first | refine blk_drewN ?_ _ | refine blk_drew ?_ | refine blk_alloc ?_ _)); refine blk_far ?_ NB309_299.out _; (with_reducible repeat (first | refine blk_drewN ?_ _ | refine blk_drew ?_ | refine blk_alloc ?_ _)); exact BK309.out) hb); have n5_ := Aside0.mk (blk_below (g := gb312) (o := .cells #[.int .u64 t310, .int .u64 t311] 65 (0, 0)) (by (with_reducible repeat (first | refine blk_drewN ?_ _ | refine blk_drew ?_ | refine blk_alloc ?_ _)); refine blk_far ?_ NB312_299.out _; (with_reducible repeat (first | refine blk_drewN ?_ _ | refine blk_drew ?_ | refine blk_alloc ?_ _)); refine blk_far ?_ NB312_299.out _; (with_reducible repeat (first | refine blk_drewN ?_ _ | refine blk_drew ?_ | refine blk_alloc ?_ _)); exact BK312.out) hb); have n6_ := Aside0.mk (below_step (by repeat (first | (with_reducible first | exact HB.out | apply below_alloc | apply pw_below_drewN | apply below_drew1 | refine below_set ?_ GE297.out | refine below_set ?_ GE298.out | refine below_set ?_ GE299.out | refine below_set ?_ GE300.out | refine below_set ?_ GE309.out | refine below_set ?_ GE312.out) | exact HB.out)) hb); clear BK297; clear BK298; clear BK299; clear BK300; clear BK309; clear BK312; clear HB; have BK297 := n0_; have BK298 := n1_; have BK299 := n2_; have BK300 := n3_; have BK309 := n4_; have BK312 := n5_; have HB := n6_; clear n0_ n1_ n2_ n3_ n4_ n5_ n6_; (try clear hb); (try clear hb2); (try clear hk); (try clear hi); have hcz94_0 : w93.cell? ⟨gb300, 0, none⟩ = some (.int .u64 t319) := (blk_cell BK300.out 0).trans rfl; have hcz94_1 : w93.cell? ⟨gb300, 1, none⟩ = some (.int .u64 t320) := (blk_cell BK300.out 1).trans rfl; have hfz94_0 := blk_frozen BK300.out 0; have hfz94_1 := blk_frozen BK300.out 1))
            refine bodyPost_ret (results_cc rfl _ _ gb299 gb300 65 65 #[.int .u64 t322, .int .u64 t323] #[.int .u64 t324, .int .u64 t325] (0, 0) (0, 0) _ _ rfl (by (with_reducible repeat (first | refine blk_drewN ?_ _ | refine blk_drew ?_ | refine blk_alloc ?_ _)); refine blk_far ?_ NB299_300.out _; (with_reducible repeat (first | refine blk_drewN ?_ _ | refine blk_drew ?_ | refine blk_alloc ?_ _)); refine blk_far ?_ NB299_300.out _; (with_reducible repeat (first | refine blk_drewN ?_ _ | refine blk_drew ?_ | refine blk_alloc ?_ _)); exact BK299.out) Tryd.underlying65 rfl (by kernel_rfl) rfl (by (with_reducible repeat (first | refine blk_drewN ?_ _ | refine blk_drew ?_ | refine blk_alloc ?_ _)); refine blk_put (cs := #[.int .u64 t324, .int .u64 t320]) ?_ 1 _ rfl; (with_reducible repeat (first | refine blk_drewN ?_ _ | refine blk_drew ?_ | refine blk_alloc ?_ _)); refine blk_put (cs := #[.int .u64 t319, .int .u64 t320]) ?_ 0 _ rfl; (with_reducible repeat (first | refine blk_drewN ?_ _ | refine blk_drew ?_ | refine blk_alloc ?_ _)); exact BK300.out) Tryd.underlying65 rfl (by kernel_rfl)) rfl ?_
            exact ⟨by first | rfl | (simp [errW_none, errW_some] <;> rfl) | (simp only [← hji26, ← hji28]; first | rfl | (simp [errW_none, errW_some] <;> rfl)) | (simp [*, errW_none, errW_some] <;> rfl), by repeat (first | (with_reducible first | exact HB.out | apply below_alloc | apply pw_below_drewN | apply below_drew1 | refine below_set ?_ GE297.out | refine below_set ?_ GE298.out | refine below_set ?_ GE299.out | refine below_set ?_ GE300.out | refine below_set ?_ GE309.out | refine below_set ?_ GE312.out) | exact HB.out)⟩
          · rw [if_neg c62] at H
            have c62b0 : decide (0 ≤ t321) = false := decide_eq_false c62
            clear c62
            simp only [Option.some.injEq, Prod.mk.injEq] at H
            obtain ⟨rfl, rfl, rfl, rfl⟩ := H
            try go_wp2_with (first | ((with_reducible refine gate_callee (f := 42) rfl ?_); refine goesL_ (some 52) rfl rfl Tryd.func42 (by kernel_rfl) rfl #[.int .u64 x10_28] rfl (by (try simp only [List.map_toArray, List.map_cons, List.map_nil]); first | done | rfl | (simp only [List.length_drop, List.length_take]; rfl)) ?_; (with_reducible refine (uint128_From64.calls x10_28 t315 t316 _ A58.out).mono ?_); rintro e w95 ⟨rfl, hb⟩; refine ⟨_, rfl, ?_⟩; have n0_ := Aside0.mk (blk_below (g := gb297) (o := .cells #[.int .u64 a0_0, .int .u64 a0_1] 65 (0, 0)) (by exact BK297.out) hb); have n1_ := Aside0.mk (blk_below (g := gb298) (o := .cells #[.int .u64 a1_0, .int .u64 a1_1] 65 (0, 0)) (by exact BK298.out) hb); have n2_ := Aside0.mk (blk_below (g := gb299) (o := .cells #[.int .u64 0, .int .u64 0] 65 (0, 0)) (by exact BK299.out) hb); have n3_ := Aside0.mk (blk_below (g := gb300) (o := .cells #[.int .u64 0, .int .u64 0] 65 (0, 0)) (by exact BK300.out) hb); have n4_ := Aside0.mk (blk_below (g := gb309) (o := .cells #[.int .u64 t307, .int .u64 t308] 65 (0, 0)) (by exact BK309.out) hb); have n5_ := Aside0.mk (blk_below (g := gb312) (o := .cells #[.int .u64 t310, .int .u64 t311] 65 (0, 0)) (by exact BK312.out) hb); have n6_ := Aside0.mk (below_step (by repeat (first | (with_reducible first | exact HB.out | apply below_alloc | apply pw_below_drewN | apply below_drew1 | refine below_set ?_ GE297.out | refine below_set ?_ GE298.out | refine below_set ?_ GE299.out | refine below_set ?_ GE300.out | refine below_set ?_ GE309.out | refine below_set ?_ GE312.out) | exact HB.out)) hb); clear BK297; clear BK298; clear BK299; clear BK300; clear BK309; clear BK312; clear HB; have BK297 := n0_; have BK298 := n1_; have BK299 := n2_; have BK300 := n3_; have BK309 := n4_; have BK312 := n5_; have HB := n6_; clear n0_ n1_ n2_ n3_ n4_ n5_ n6_; (try clear hb); (try clear hb2); (try clear hk); (try clear hi); have hnb96 := NB299_297.out; have hnc96 := NB297_299.out; have hnb97 := NB299_298.out; have hnc97 := NB298_299.out; have hnb98 := NB299_300.out; have hnc98 := NB300_299.out; have hnb99 := NB299_309.out; have hnc99 := NB309_299.out; have hnb100 := NB299_312.out; have hnc100 := NB312_299.out; have hcz101_0 : w95.cell? ⟨gb299, 0, none⟩ = some (.int .u64 0) := (blk_cell BK299.out 0).trans rfl; have hcz101_1 : w95.cell? ⟨gb299, 1, none⟩ = some (.int .u64 0) := (blk_cell BK299.out 1).trans rfl; have hfz101_0 := blk_frozen BK299.out 0; have hfz101_1 := blk_frozen BK299.out 1))
            have n0_ : Aside0 (((w95.setCell ⟨gb299, 0, none⟩ (.int .u64 t315)).setCell ⟨gb299, 1, none⟩ (.int .u64 t316)).heap[gb297]? = some (.cells #[.int .u64 a0_0, .int .u64 a0_1] 65 (0, 0))) := ⟨by (with_reducible repeat (first | refine blk_drewN ?_ _ | refine blk_drew ?_ | refine blk_alloc ?_ _)); refine blk_far ?_ NB297_299.out _; (with_reducible repeat (first | refine blk_drewN ?_ _ | refine blk_drew ?_ | refine blk_alloc ?_ _)); refine blk_far ?_ NB297_299.out _; (with_reducible repeat (first | refine blk_drewN ?_ _ | refine blk_drew ?_ | refine blk_alloc ?_ _)); exact BK297.out⟩
            have n1_ : Aside0 (((w95.setCell ⟨gb299, 0, none⟩ (.int .u64 t315)).setCell ⟨gb299, 1, none⟩ (.int .u64 t316)).heap[gb298]? = some (.cells #[.int .u64 a1_0, .int .u64 a1_1] 65 (0, 0))) := ⟨by (with_reducible repeat (first | refine blk_drewN ?_ _ | refine blk_drew ?_ | refine blk_alloc ?_ _)); refine blk_far ?_ NB298_299.out _; (with_reducible repeat (first | refine blk_drewN ?_ _ | refine blk_drew ?_ | refine blk_alloc ?_ _)); refine blk_far ?_ NB298_299.out _; (with_reducible repeat (first | refine blk_drewN ?_ _ | refine blk_drew ?_ | refine blk_alloc ?_ _)); exact BK298.out⟩
            have n2_ : Aside0 (((w95.setCell ⟨gb299, 0, none⟩ (.int .u64 t315)).setCell ⟨gb299, 1, none⟩ (.int .u64 t316)).heap[gb299]? = some (.cells #[.int .u64 t315, .int .u64 t316] 65 (0, 0))) := ⟨by (with_reducible repeat (first | refine blk_drewN ?_ _ | refine blk_drew ?_ | refine blk_alloc ?_ _)); refine blk_put (cs := #[.int .u64 t315, .int .u64 0]) ?_ 1 _ rfl; (with_reducible repeat (first | refine blk_drewN ?_ _ | refine blk_drew ?_ | refine blk_alloc ?_ _)); refine blk_put (cs := #[.int .u64 0, .int .u64 0]) ?_ 0 _ rfl; (with_reducible repeat (first | refine blk_drewN ?_ _ | refine blk_drew ?_ | refine blk_alloc ?_ _)); exact BK299.out⟩
            have n3_ : Aside0 (((w95.setCell ⟨gb299, 0, none⟩ (.int .u64 t315)).setCell ⟨gb299, 1, none⟩ (.int .u64 t316)).heap[gb300]? = some (.cells #[.int .u64 0, .int .u64 0] 65 (0, 0))) := ⟨by (with_reducible repeat (first | refine blk_drewN ?_ _ | refine blk_drew ?_ | refine blk_alloc ?_ _)); refine blk_far ?_ NB300_299.out _; (with_reducible repeat (first | refine blk_drewN ?_ _ | refine blk_drew ?_ | refine blk_alloc ?_ _)); refine blk_far ?_ NB300_299.out _; (with_reducible repeat (first | refine blk_drewN ?_ _ | refine blk_drew ?_ | refine blk_alloc ?_ _)); exact BK300.out⟩
            have n4_ : Aside0 (((w95.setCell ⟨gb299, 0, none⟩ (.int .u64 t315)).setCell ⟨gb299, 1, none⟩ (.int .u64 t316)).heap[gb309]? = some (.cells #[.int .u64 t307, .int .u64 t308] 65 (0, 0))) := ⟨by (with_reducible repeat (first | refine blk_drewN ?_ _ | refine blk_drew ?_ | refine blk_alloc ?_ _)); refine blk_far ?_ NB309_299.out _; (with_reducible repeat (first | refine blk_drewN ?_ _ | refine blk_drew ?_ | refine blk_alloc ?_ _)); refine blk_far ?_ NB309_299.out _; (with_reducible repeat (first | refine blk_drewN ?_ _ | refine blk_drew ?_ | refine blk_alloc ?_ _)); exact BK309.out⟩
            have n5_ : Aside0 (((w95.setCell ⟨gb299, 0, none⟩ (.int .u64 t315)).setCell ⟨gb299, 1, none⟩ (.int .u64 t316)).heap[gb312]? = some (.cells #[.int .u64 t310, .int .u64 t311] 65 (0, 0))) := ⟨by (with_reducible repeat (first | refine blk_drewN ?_ _ | refine blk_drew ?_ | refine blk_alloc ?_ _)); refine blk_far ?_ NB312_299.out _; (with_reducible repeat (first | refine blk_drewN ?_ _ | refine blk_drew ?_ | refine blk_alloc ?_ _)); refine blk_far ?_ NB312_299.out _; (with_reducible repeat (first | refine blk_drewN ?_ _ | refine blk_drew ?_ | refine blk_alloc ?_ _)); exact BK312.out⟩
            have n6_ : Aside0 (Below w.heap.size w ((w95.setCell ⟨gb299, 0, none⟩ (.int .u64 t315)).setCell ⟨gb299, 1, none⟩ (.int .u64 t316))) := ⟨by repeat (first | (with_reducible first | exact HB.out | apply below_alloc | apply pw_below_drewN | apply below_drew1 | refine below_set ?_ GE297.out | refine below_set ?_ GE298.out | refine below_set ?_ GE299.out | refine below_set ?_ GE300.out | refine below_set ?_ GE309.out | refine below_set ?_ GE312.out) | exact HB.out)⟩
            (try clear BK297)
            (try clear BK298)
            (try clear BK299)
            (try clear BK300)
            (try clear BK309)
            (try clear BK312)
            (try clear HB)
            generalize ((w95.setCell ⟨gb299, 0, none⟩ (.int .u64 t315)).setCell ⟨gb299, 1, none⟩ (.int .u64 t316)) = w102 at n0_ n1_ n2_ n3_ n4_ n5_ n6_ ⊢
            have BK297 := n0_
            have BK298 := n1_
            have BK299 := n2_
            have BK300 := n3_
            have BK309 := n4_
            have BK312 := n5_
            have HB := n6_
            clear n0_ n1_ n2_ n3_ n4_ n5_ n6_
            have n0_ := Aside0.mk (blk_drew BK297.out)
            have n1_ := Aside0.mk (blk_drew BK298.out)
            have n2_ := Aside0.mk (blk_drew BK299.out)
            have n3_ := Aside0.mk (blk_drew BK300.out)
            have n4_ := Aside0.mk (blk_drew BK309.out)
            have n5_ := Aside0.mk (blk_drew BK312.out)
            have n6_ := Aside0.mk (below_drew1 HB.out)
            clear BK297
            clear BK298
            clear BK299
            clear BK300
            clear BK309
            clear BK312
            clear HB
            have BK297 := n0_
            have BK298 := n1_
            have BK299 := n2_
            have BK300 := n3_
            have BK309 := n4_
            have BK312 := n5_
            have HB := n6_
            clear n0_ n1_ n2_ n3_ n4_ n5_ n6_
            refine start_ (n := 6) (S := fun w' => w'.cell? ⟨gb297, 0, none⟩ = some (.int .u64 a0_0) ∧ w'.cell? ⟨gb297, 1, none⟩ = some (.int .u64 a0_1) ∧ w'.cell? ⟨gb298, 0, none⟩ = some (.int .u64 a1_0) ∧ w'.cell? ⟨gb298, 1, none⟩ = some (.int .u64 a1_1)) (ds := []) #[false, false, false, false, false, false] (by kernel_rfl) rfl rfl ⟨(blk_cell BK297.out 0).trans rfl, (blk_cell BK297.out 1).trans rfl, (blk_cell BK298.out 0).trans rfl, (blk_cell BK298.out 1).trans rfl⟩ (fun hHeld => ?_)
            generalize w102.drew = w103 at BK297 BK298 BK299 BK300 BK309 BK312 HB hHeld ⊢
            refine pure_ (i := 2) (N := some 55) (v := ?_) (a' := ?_) #[false, false, true, false, false, false] rfl rfl (by kernel_rfl) (fun _ _ _ h => h) (Or.inl ⟨by rfl, ?_⟩) ?_ ?_
            rotate_left
            · intro w'
              go_simp
              with_reducible rfl
            rotate_left
            · simp only [Act.put, List.setIfInBounds_toArray, List.set_cons_zero, List.set_cons_succ, i64_w, i32_w]
              rfl
            refine take_ (i := 0) (N := some 53) (v := ?_) (a' := ?_) #[true, false, true, false, false, false] rfl rfl (by kernel_rfl) (fun _ _ _ h => h) (Or.inl ⟨by rfl, ?_⟩) hHeld ?_ ?_
            rotate_left
            · rintro w' ⟨s0, s1, s2, s3⟩
              go_simp
              with_reducible rfl
            rotate_left
            · simp only [Act.put, List.setIfInBounds_toArray, List.set_cons_zero, List.set_cons_succ, i64_w, i32_w]
              rfl
            refine take_ (i := 1) (N := some 54) (v := ?_) (a' := ?_) #[true, true, true, false, false, false] rfl rfl (by kernel_rfl) (fun _ _ _ h => h) (Or.inl ⟨by rfl, ?_⟩) hHeld ?_ ?_
            rotate_left
            · rintro w' ⟨s0, s1, s2, s3⟩
              go_simp
              with_reducible rfl
            rotate_left
            · simp only [Act.put, List.setIfInBounds_toArray, List.set_cons_zero, List.set_cons_succ, i64_w, i32_w]
              rfl
            refine one_ (i := 3) (N := some 56) #[true, true, true, true, false, false] rfl rfl (by kernel_rfl) (by decide) (fun K hK => ?_)
            refine goes_ Tryd.func108 (by kernel_rfl) rfl #[.agg #[.int .u64 a1_0, .int .u64 a1_1], .int .u64 x10_28] (by rfl) rfl rfl (by (try simp only [List.map_toArray, List.map_cons, List.map_nil]); first | done | rfl | (simp only [List.length_drop, List.length_take]; rfl)) ?_
            with_reducible refine (uint128_Uint128_Mul64.calls a1_0 a1_1 x10_28 t317 t318 _ A59.out).mono ?_
            rintro e w104 ⟨rfl, hb⟩
            refine ⟨_, rfl, ?_⟩
            have n0_ := Aside0.mk (blk_below (g := gb297) (o := .cells #[.int .u64 a0_0, .int .u64 a0_1] 65 (0, 0)) (by exact BK297.out) hb)
            have n1_ := Aside0.mk (blk_below (g := gb298) (o := .cells #[.int .u64 a1_0, .int .u64 a1_1] 65 (0, 0)) (by exact BK298.out) hb)
            have n2_ := Aside0.mk (blk_below (g := gb299) (o := .cells #[.int .u64 t315, .int .u64 t316] 65 (0, 0)) (by exact BK299.out) hb)
            have n3_ := Aside0.mk (blk_below (g := gb300) (o := .cells #[.int .u64 0, .int .u64 0] 65 (0, 0)) (by exact BK300.out) hb)
            have n4_ := Aside0.mk (blk_below (g := gb309) (o := .cells #[.int .u64 t307, .int .u64 t308] 65 (0, 0)) (by exact BK309.out) hb)
            have n5_ := Aside0.mk (blk_below (g := gb312) (o := .cells #[.int .u64 t310, .int .u64 t311] 65 (0, 0)) (by exact BK312.out) hb)
            have n6_ := Aside0.mk (below_step (by repeat (first | (with_reducible first | exact HB.out | apply below_alloc | apply pw_below_drewN | apply below_drew1 | refine below_set ?_ GE297.out | refine below_set ?_ GE298.out | refine below_set ?_ GE299.out | refine below_set ?_ GE300.out | refine below_set ?_ GE309.out | refine below_set ?_ GE312.out) | exact HB.out)) hb)
            clear BK297
            clear BK298
            clear BK299
            clear BK300
            clear BK309
            clear BK312
            clear HB
            have BK297 := n0_
            have BK298 := n1_
            have BK299 := n2_
            have BK300 := n3_
            have BK309 := n4_
            have BK312 := n5_
            have HB := n6_
            clear n0_ n1_ n2_ n3_ n4_ n5_ n6_
            (try clear hb)
            (try clear hb2)
            (try clear hk)
            (try clear hi)
            refine hK.out _ _ ⟨(blk_cell BK297.out 0).trans rfl, (blk_cell BK297.out 1).trans rfl, (blk_cell BK298.out 0).trans rfl, (blk_cell BK298.out 1).trans rfl⟩ (fun hHeld => ?_)
            clear hK K
            refine norm_ (a' := ?_) ?_ ?_
            rotate_left
            · show Act.put _ (some 56) _ = _
              simp only [Act.put, List.setIfInBounds_toArray, List.set_cons_zero, List.set_cons_succ, i64_w, i32_w]
              rfl
            refine one_ (i := 4) (N := some 57) #[true, true, true, true, true, false] rfl rfl (by kernel_rfl) (by decide) (fun K hK => ?_)
            refine goes_ Tryd.func107 (by kernel_rfl) rfl #[.agg #[.int .u64 a0_0, .int .u64 a0_1], .agg #[.int .u64 t317, .int .u64 t318]] (by rfl) rfl rfl (by (try simp only [List.map_toArray, List.map_cons, List.map_nil]); first | done | rfl | (simp only [List.length_drop, List.length_take]; rfl)) ?_
            with_reducible refine (uint128_Uint128_Sub.calls a0_0 a0_1 t317 t318 t319 t320 _ A60.out).mono ?_
            rintro e w105 ⟨rfl, hb⟩
            refine ⟨_, rfl, ?_⟩
            have n0_ := Aside0.mk (blk_below (g := gb297) (o := .cells #[.int .u64 a0_0, .int .u64 a0_1] 65 (0, 0)) (by exact BK297.out) hb)
            have n1_ := Aside0.mk (blk_below (g := gb298) (o := .cells #[.int .u64 a1_0, .int .u64 a1_1] 65 (0, 0)) (by exact BK298.out) hb)
            have n2_ := Aside0.mk (blk_below (g := gb299) (o := .cells #[.int .u64 t315, .int .u64 t316] 65 (0, 0)) (by exact BK299.out) hb)
            have n3_ := Aside0.mk (blk_below (g := gb300) (o := .cells #[.int .u64 0, .int .u64 0] 65 (0, 0)) (by exact BK300.out) hb)
            have n4_ := Aside0.mk (blk_below (g := gb309) (o := .cells #[.int .u64 t307, .int .u64 t308] 65 (0, 0)) (by exact BK309.out) hb)
            have n5_ := Aside0.mk (blk_below (g := gb312) (o := .cells #[.int .u64 t310, .int .u64 t311] 65 (0, 0)) (by exact BK312.out) hb)
            have n6_ := Aside0.mk (below_step (by repeat (first | (with_reducible first | exact HB.out | apply below_alloc | apply pw_below_drewN | apply below_drew1 | refine below_set ?_ GE297.out | refine below_set ?_ GE298.out | refine below_set ?_ GE299.out | refine below_set ?_ GE300.out | refine below_set ?_ GE309.out | refine below_set ?_ GE312.out) | exact HB.out)) hb)
            clear BK297
            clear BK298
            clear BK299
            clear BK300
            clear BK309
            clear BK312
            clear HB
            have BK297 := n0_
            have BK298 := n1_
            have BK299 := n2_
            have BK300 := n3_
            have BK309 := n4_
            have BK312 := n5_
            have HB := n6_
            clear n0_ n1_ n2_ n3_ n4_ n5_ n6_
            (try clear hb)
            (try clear hb2)
            (try clear hk)
            (try clear hi)
            refine hK.out _ _ ⟨(blk_cell BK297.out 0).trans rfl, (blk_cell BK297.out 1).trans rfl, (blk_cell BK298.out 0).trans rfl, (blk_cell BK298.out 1).trans rfl⟩ (fun hHeld => ?_)
            clear hK K
            refine norm_ (a' := ?_) ?_ ?_
            rotate_left
            · show Act.put _ (some 57) _ = _
              simp only [Act.put, List.setIfInBounds_toArray, List.set_cons_zero, List.set_cons_succ, i64_w, i32_w]
              rfl
            refine one_ (i := 5) (N := none) #[true, true, true, true, true, true] rfl rfl (by kernel_rfl) (by decide) (fun K hK => ?_)
            have hs106 : w105.cell? ⟨gb300, 0, none⟩ = some (.int .u64 0) := (blk_cell BK300.out 0).trans rfl
            have hfs106 := blk_frozen BK300.out 0
            have hns106_0 := NB297_300.out
            have hns106_1 := NB298_300.out
            have hns106_2 := NB299_300.out
            have hns106_4 := NB309_300.out
            have hns106_5 := NB312_300.out
            have hms106_0 := NB300_297.out
            have hms106_1 := NB300_298.out
            have hms106_2 := NB300_299.out
            have hms106_4 := NB300_309.out
            have hms106_5 := NB300_312.out
            have hs107 : w105.cell? ⟨gb300, 1, none⟩ = some (.int .u64 0) := (blk_cell BK300.out 1).trans rfl
            have hfs107 := blk_frozen BK300.out 1
            have hns107_0 := NB297_300.out
            have hns107_1 := NB298_300.out
            have hns107_2 := NB299_300.out
            have hns107_4 := NB309_300.out
            have hns107_5 := NB312_300.out
            have hms107_0 := NB300_297.out
            have hms107_1 := NB300_298.out
            have hms107_2 := NB300_299.out
            have hms107_4 := NB300_309.out
            have hms107_5 := NB300_312.out
            refine skip_ (w1 := ?_) (by rfl) rfl ?_ ?_
            rotate_left
            · go_simp
              rfl
            refine hK.out _ _ ⟨((cell_far (p := ⟨gb300, _, none⟩) NB297_300.out _).trans (((cell_far (p := ⟨gb300, _, none⟩) NB297_300.out _).trans (hHeld.1)))), ((cell_far (p := ⟨gb300, _, none⟩) NB297_300.out _).trans (((cell_far (p := ⟨gb300, _, none⟩) NB297_300.out _).trans (hHeld.2.1)))), ((cell_far (p := ⟨gb300, _, none⟩) NB298_300.out _).trans (((cell_far (p := ⟨gb300, _, none⟩) NB298_300.out _).trans (hHeld.2.2.1)))), ((cell_far (p := ⟨gb300, _, none⟩) NB298_300.out _).trans (((cell_far (p := ⟨gb300, _, none⟩) NB298_300.out _).trans (hHeld.2.2.2))))⟩ (fun hHeld => ?_)
            clear hK K
            refine done_ (by kernel_rfl) ?_
            have hnb108 := NB300_297.out
            have hnc108 := NB297_300.out
            have hnb109 := NB300_298.out
            have hnc109 := NB298_300.out
            have hnb110 := NB300_309.out
            have hnc110 := NB309_300.out
            have hnb111 := NB300_312.out
            have hnc111 := NB312_300.out
            have hcz112_0 : w105.cell? ⟨gb300, 0, none⟩ = some (.int .u64 0) := (blk_cell BK300.out 0).trans rfl
            have hcz112_1 : w105.cell? ⟨gb300, 1, none⟩ = some (.int .u64 0) := (blk_cell BK300.out 1).trans rfl
            have hfz112_0 := blk_frozen BK300.out 0
            have hfz112_1 := blk_frozen BK300.out 1
            have hnb113 := NB298_297.out
            have hnc113 := NB297_298.out
            have hnb114 := NB298_309.out
            have hnc114 := NB309_298.out
            have hnb115 := NB298_312.out
            have hnc115 := NB312_298.out
            have hcz116_0 : w105.cell? ⟨gb298, 0, none⟩ = some (.int .u64 a1_0) := (blk_cell BK298.out 0).trans rfl
            have hcz116_1 : w105.cell? ⟨gb298, 1, none⟩ = some (.int .u64 a1_1) := (blk_cell BK298.out 1).trans rfl
            have hfz116_0 := blk_frozen BK298.out 0
            have hfz116_1 := blk_frozen BK298.out 1
            try go_wp2_with (first | ((with_reducible refine gate_callee (f := 73) rfl ?_); refine goesL_ (some 60) rfl rfl Tryd.func73 (by kernel_rfl) rfl #[.agg #[.int .u64 t319, .int .u64 t320], .agg #[.int .u64 a1_0, .int .u64 a1_1]] rfl (by (try simp only [List.map_toArray, List.map_cons, List.map_nil]); first | done | rfl | (simp only [List.length_drop, List.length_take]; rfl)) ?_; (with_reducible refine (uint128_Uint128_Cmp.calls t319 t320 a1_0 a1_1 t321 _ A61.out).mono ?_); rintro e w117 ⟨rfl, hb⟩; refine ⟨_, rfl, ?_⟩; have n0_ := Aside0.mk (blk_below (g := gb297) (o := .cells #[.int .u64 a0_0, .int .u64 a0_1] 65 (0, 0)) (by (with_reducible repeat (first | refine blk_drewN ?_ _ | refine blk_drew ?_ | refine blk_alloc ?_ _)); refine blk_far ?_ NB297_300.out _; (with_reducible repeat (first | refine blk_drewN ?_ _ | refine blk_drew ?_ | refine blk_alloc ?_ _)); refine blk_far ?_ NB297_300.out _; (with_reducible repeat (first | refine blk_drewN ?_ _ | refine blk_drew ?_ | refine blk_alloc ?_ _)); exact BK297.out) hb); have n1_ := Aside0.mk (blk_below (g := gb298) (o := .cells #[.int .u64 a1_0, .int .u64 a1_1] 65 (0, 0)) (by (with_reducible repeat (first | refine blk_drewN ?_ _ | refine blk_drew ?_ | refine blk_alloc ?_ _)); refine blk_far ?_ NB298_300.out _; (with_reducible repeat (first | refine blk_drewN ?_ _ | refine blk_drew ?_ | refine blk_alloc ?_ _)); refine blk_far ?_ NB298_300.out _; (with_reducible repeat (first | refine blk_drewN ?_ _ | refine blk_drew ?_ | refine blk_alloc ?_ _)); exact BK298.out) hb); have n2_ := Aside0.mk (blk_below (g := gb299) (o := .cells #[.int .u64 t315, .int .u64 t316] 65 (0, 0)) (by (with_reducible repeat (first | refine blk_drewN ?_ _ | refine blk_drew ?_ | refine blk_alloc ?_ _)); refine blk_far ?_ NB299_300.out _; (with_reducible repeat (first | refine blk_drewN ?_ _ | refine blk_drew ?_ | refine blk_alloc ?_ _)); refine blk_far ?_ NB299_300.out _; (with_reducible repeat (first | refine blk_drewN ?_ _ | refine blk_drew ?_ | refine blk_alloc ?_ _)); exact BK299.out) hb); have n3_ := Aside0.mk (blk_below (g := gb300) (o := .cells #[.int .u64 t319, .int .u64 t320] 65 (0, 0)) (by (with_reducible repeat (first | refine blk_drewN ?_ _ | refine blk_drew ?_ | refine blk_alloc ?_ _)); refine blk_put (cs := #[.int .u64 t319, .int .u64 0]) ?_ 1 _ rfl; (with_reducible repeat (first | refine blk_drewN ?_ _ | refine blk_drew ?_ | refine blk_alloc ?_ _)); refine blk_put (cs := #[.int .u64 0, .int .u64 0]) ?_ 0 _ rfl; (with_reducible repeat (first | refine blk_drewN ?_ _ | refine blk_drew ?_ | refine blk_alloc ?_ _)); exact BK300.out) hb); have n4_ := Aside0.mk (blk_below (g := gb309) (o := .cells #[.int .u64 t307, .int .u64 t308] 65 (0, 0)) (by (with_reducible repeat (first | refine blk_drewN ?_ _ | refine blk_drew ?_ | refine blk_alloc ?_ _)); refine blk_far ?_ NB309_300.out _; (with_reducible repeat (first | refine blk_drewN ?_ _ | refine blk_drew ?_ | refine blk_alloc ?_ _)); refine blk_far ?_ NB309_300.out _; (with_reducible repeat (first | refine blk_drewN ?_ _ | refine blk_drew ?_ | refine blk_alloc ?_ _)); exact BK309.out) hb); have n5_ := Aside0.mk (blk_below (g := gb312) (o := .cells #[.int .u64 t310, .int .u64 t311] 65 (0, 0)) (by (with_reducible repeat (first | refine blk_drewN ?_ _ | refine blk_drew ?_ | refine blk_alloc ?_ _)); refine blk_far ?_ NB312_300.out _; (with_reducible repeat (first | refine blk_drewN ?_ _ | refine blk_drew ?_ | refine blk_alloc ?_ _)); refine blk_far ?_ NB312_300.out _; (with_reducible repeat (first | refine blk_drewN ?_ _ | refine blk_drew ?_ | refine blk_alloc ?_ _)); exact BK312.out) hb); have n6_ := Aside0.mk (below_step (by repeat (first | (with_reducible first | exact HB.out | apply below_alloc | apply pw_below_drewN | apply below_drew1 | refine below_set ?_ GE297.out | refine below_set ?_ GE298.out | refine below_set ?_ GE299.out | refine below_set ?_ GE300.out | refine below_set ?_ GE309.out | refine below_set ?_ GE312.out) | exact HB.out)) hb); clear BK297; clear BK298; clear BK299; clear BK300; clear BK309; clear BK312; clear HB; have BK297 := n0_; have BK298 := n1_; have BK299 := n2_; have BK300 := n3_; have BK309 := n4_; have BK312 := n5_; have HB := n6_; clear n0_ n1_ n2_ n3_ n4_ n5_ n6_; (try clear hb); (try clear hb2); (try clear hk); (try clear hi)))
            refine bodyPost_ret (results_cc rfl _ _ gb299 gb300 65 65 #[.int .u64 t315, .int .u64 t316] #[.int .u64 t319, .int .u64 t320] (0, 0) (0, 0) _ _ rfl (by exact BK299.out) Tryd.underlying65 rfl (by kernel_rfl) rfl (by exact BK300.out) Tryd.underlying65 rfl (by kernel_rfl)) rfl ?_
            exact ⟨by first | rfl | (simp [errW_none, errW_some] <;> rfl) | (simp only [← hji26, ← hji28]; first | rfl | (simp [errW_none, errW_some] <;> rfl)) | (simp [*, errW_none, errW_some] <;> rfl), by repeat (first | (with_reducible first | exact HB.out | apply below_alloc | apply pw_below_drewN | apply below_drew1 | refine below_set ?_ GE297.out | refine below_set ?_ GE298.out | refine below_set ?_ GE299.out | refine below_set ?_ GE300.out | refine below_set ?_ GE309.out | refine below_set ?_ GE312.out) | exact HB.out)⟩
    · rw [if_neg c27] at H
      exact absurd H (by simp)
/-- What the walks need to know of gobits' variable for a division by 0: it holds an error. -/
def GlobE (w : World) : Prop := ∃ pv, w.cell? ⟨3, 0, none⟩ = some (.iface 104 pv)
theorem GlobE.below {w w' : World} (h : GlobE w) (hb : Below w.heap.size w w') : GlobE w' := by
  obtain ⟨pv, h⟩ := h
  exact ⟨pv, (hb.cell (World.block_lt_of_cell? w _ h)).trans h⟩
set_option maxHeartbeats 1000000 in
set_option maxRecDepth 100000 in
theorem Div64_panics (x y : Int) (w : World) (HZ : GlobE w) :
    Calls Tryd.prog 104 #[.int .u64 x, .int .u64 y, .int .u64 0] w fun e w' => (∃ pv, e = .panicked [{ v := .iface 104 pv, recovered := false }]) ∧ Below w.heap.size w w' := by
  obtain ⟨pv, hc⟩ := HZ
  go_enter Tryd.func104, Tryd.ntmps104
  go_wp2
  exact ⟨rfl, ⟨_, rfl⟩, Below.refl _ _⟩
set_option maxHeartbeats 1000000 in
set_option maxRecDepth 100000 in
theorem QuoRem64_panics (a b : Int) (w : World) (hb : decide (b < 0) = false) (HZ : GlobE w) :
    Calls Tryd.prog 54 #[.agg #[.int .u64 a, .int .u64 b], .int .u64 0] w fun e w' => (∃ pv, e = .panicked [{ v := .iface 104 pv, recovered := false }]) ∧ Below w.heap.size w w' := by
  have HE := Lib.hid HZ
  clear HZ
  go_enter Tryd.func54, Tryd.ntmps54
  go_wp2_with fail
  have B0 : Below w.heap.size w ((w.alloc (.cells #[.int .u64 a, .int .u64 b] 65)).alloc (.cells #[.int .u64 0, .int .u64 0] 65)) := ((Below.refl w.heap.size w).alloc (Nat.le_refl _) _).alloc (by simp) _
  refine (Div64_panics 0 b _ (GlobE.below HE.out B0)).mono ?_
  rintro e W2 ⟨⟨pv, rfl⟩, hb2⟩
  exact ⟨rfl, ⟨_, rfl⟩, B0.trans (hb2.mono B0.size)⟩
set_option maxHeartbeats 1000000 in
set_option maxRecDepth 100000 in
theorem QuoRem_panics (a b : Int) (w : World) (hb : decide (b < 0) = false) (HZ : GlobE w) :
    Calls Tryd.prog 64 #[.agg #[.int .u64 a, .int .u64 b], .agg #[.int .u64 0, .int .u64 0]] w fun e w' => (∃ pv, e = .panicked [{ v := .iface 104 pv, recovered := false }]) ∧ Below w.heap.size w w' := by
  have HE := Lib.hid HZ
  have HBB := Lib.hid hb
  clear HZ hb
  go_enter Tryd.func64, Tryd.ntmps64
  go_wp2_with fail
  have B0 : Below w.heap.size w ((((w.alloc (.cells #[.int .u64 a, .int .u64 b] 65)).alloc (.cells #[.int .u64 0, .int .u64 0] 65)).alloc (.cells #[.int .u64 0, .int .u64 0] 65)).alloc (.cells #[.int .u64 0, .int .u64 0] 65)) := ((((Below.refl w.heap.size w).alloc (Nat.le_refl _) _).alloc (by simp) _).alloc (by simp; omega) _).alloc (by simp; omega) _
  refine (QuoRem64_panics a b _ HBB.out (GlobE.below HE.out B0)).mono ?_
  rintro e W2 ⟨⟨pv, rfl⟩, hb2⟩
  exact ⟨rfl, ⟨_, rfl⟩, B0.trans (hb2.mono B0.size)⟩
end Go.Proofs.YtiifnofghicnaaaDoor.PAll
