/- Printed by the kit's print.py, called for several laws at once: functions as plain Lean, and the walks' contracts. -/
import Derived.Test.YtiifnofghicnaaaDoorQAllx0
import Derived.Test.YtiifnofghicnaaaDoorQAllx1
import Derived.Test.YtiifnofghicnaaaDoorQAllx2
import Derived.Test.YtiifnofghicnaaaDoorQAllx3
namespace Go.Proofs.YtiifnofghicnaaaDoor.PAll
open Go.RowKit Go.Proofs.YtiifnofghicnaaaDoorW.PrintWords Go.Proofs.YtiifnofghicnaaaDoorW.PrintLast Go.Proofs.YtiifnofghicnaaaDoorW.PrintMore
attribute [local go_sem] max2_int min2_int max_two min_two max_three min_three max_four min_four   -- for this text's walks alone
set_option linter.unusedVariables false
set_option linter.unusedSimpArgs false
/-! ### uint128_Uint128_QuoRem: function 64 -/
def uint128_Uint128_QuoRem.j0 : Nat → Int → Int → Int → Int → Int → Option (Int × Int × Int × Int)
  | 0, _, _, _, _, _ => none
  | k + 1, x10, x147000, x147001, x148000, x148001 => (uint128_From64.f x10).bind fun bt164 => ((uint128_Uint128_Mul64.f x148000 x148001 x10).bind fun bt166 => ((uint128_Uint128_Sub.f x147000 x147001 bt166.1 bt166.2).bind fun bt168 => ((uint128_Uint128_Cmp.f bt168.1 bt168.2 x148000 x148001).bind fun t170 => (if t170 ≥ 0 then ((uint128_Uint128_Add64.f bt164.1 bt164.2 1).bind fun bt171 => ((uint128_Uint128_Sub.f bt168.1 bt168.2 x148000 x148001).bind fun bt173 => (some (bt171.1, bt171.2, bt173.1, bt173.2)))) else (some (bt164.1, bt164.2, bt168.1, bt168.2))))))
def uint128_Uint128_QuoRem.f (k : Nat) (a0_0 : Int) (a0_1 : Int) (a1_0 : Int) (a1_1 : Int) : Option (Int × Int × Int × Int) := if a1_1 = 0 then ((uint128_Uint128_QuoRem64.f k a0_0 a0_1 a1_0).bind fun bt150 => ((uint128_From64.f bt150.2.2).bind fun bt153 => (some (bt150.1, bt150.2.1, bt153.1, bt153.2)))) else ((bits_LeadingZeros64.f a1_1).bind fun t155 => ((uint128_Uint128_Lsh.f a1_0 a1_1 (IntKind.u64.wrap (t155))).bind fun bt156 => ((uint128_Uint128_Rsh.f a0_0 a0_1 1).bind fun bt159 => ((gobits_Div64.f k bt159.2 bt159.1 bt156.2).bind fun bt162 => (if 0 ≤ (IntKind.u64.wrap (63 - (IntKind.u64.wrap (t155)))) then (if (shr .u64 bt162.1 (IntKind.u64.wrap (63 - (IntKind.u64.wrap (t155))))) = 0 then (uint128_Uint128_QuoRem.j0 k (shr .u64 bt162.1 (IntKind.u64.wrap (63 - (IntKind.u64.wrap (t155))))) a0_0 a0_1 a1_0 a1_1) else (uint128_Uint128_QuoRem.j0 k (IntKind.u64.wrap ((shr .u64 bt162.1 (IntKind.u64.wrap (63 - (IntKind.u64.wrap (t155))))) - 1)) a0_0 a0_1 a1_0 a1_1)) else (none))))))
theorem uint128_Uint128_QuoRem.mono_l : ∀ k, (∀ y0 y1 y2 y3 y4, LeO (uint128_Uint128_QuoRem.j0 k y0 y1 y2 y3 y4) (uint128_Uint128_QuoRem.j0 (k + 1) y0 y1 y2 y3 y4))
  | 0 => fun _ _ _ _ _ r h => by simp [uint128_Uint128_QuoRem.j0] at h
  | k + 1 => by
    have ih0 := uint128_Uint128_QuoRem.mono_l k
    · intro y0 y1 y2 y3 y4
      unfold uint128_Uint128_QuoRem.j0
      repeat' first
      | (with_reducible exact ih0 _ _ _ _ _)
      | (with_reducible exact gobits_Div64.mono _ _ _ _)
      | (with_reducible exact uint128_Uint128_QuoRem64.mono _ _ _ _)
      | (with_reducible exact LeO.refl _)
      | (with_reducible exact LeO.none _)
      | (with_reducible refine LeO.ite ?_ ?_)
      | (with_reducible refine LeO.bind ?_ (fun _ => ?_))
      | exact ih0 _ _ _ _ _
      | exact gobits_Div64.mono _ _ _ _
      | exact uint128_Uint128_QuoRem64.mono _ _ _ _
      | exact LeO.none _
      | refine LeO.ite ?_ ?_
      | refine LeO.bind ?_ (fun _ => ?_)
theorem uint128_Uint128_QuoRem.mono : ∀ a0 a1 a2 a3 k, LeO (uint128_Uint128_QuoRem.f k a0 a1 a2 a3) (uint128_Uint128_QuoRem.f (k + 1) a0 a1 a2 a3) := by
  intro a0 a1 a2 a3 k
  have ih0 := uint128_Uint128_QuoRem.mono_l k
  unfold uint128_Uint128_QuoRem.f
  repeat' first
      | (with_reducible exact ih0 _ _ _ _ _)
      | (with_reducible exact gobits_Div64.mono _ _ _ _)
      | (with_reducible exact uint128_Uint128_QuoRem64.mono _ _ _ _)
      | (with_reducible exact LeO.refl _)
      | (with_reducible exact LeO.none _)
      | (with_reducible refine LeO.ite ?_ ?_)
      | (with_reducible refine LeO.bind ?_ (fun _ => ?_))
      | exact ih0 _ _ _ _ _
      | exact gobits_Div64.mono _ _ _ _
      | exact uint128_Uint128_QuoRem64.mono _ _ _ _
      | exact LeO.none _
      | refine LeO.ite ?_ ?_
      | refine LeO.bind ?_ (fun _ => ?_)
set_option maxHeartbeats 8000000 in
set_option maxRecDepth 100000 in
theorem uint128_Uint128_QuoRem.calls (k : Nat) (a0_0 : Int) (a0_1 : Int) (a1_0 : Int) (a1_1 : Int) (r1 : Int) (r2 : Int) (r3 : Int) (r4 : Int) (w : World) (h : uint128_Uint128_QuoRem.f k a0_0 a0_1 a1_0 a1_1 = some (r1, r2, r3, r4)) :
    Calls Tryd.prog 64 #[.agg #[.int .u64 a0_0, .int .u64 a0_1], .agg #[.int .u64 a1_0, .int .u64 a1_1]] w fun e w' => e = .returned (.tuple #[.agg #[.int .u64 r1, .int .u64 r2], .agg #[.int .u64 r3, .int .u64 r4]]) ∧ Below w.heap.size w w' := by
  have hu65 := Tryd.underlying65
  have HB := Aside0.mk (Below.refl w.heap.size w)
  have H : (if a1_1 = 0 then ((uint128_Uint128_QuoRem64.f k a0_0 a0_1 a1_0).bind fun bt150 => ((uint128_From64.f bt150.2.2).bind fun bt153 => (some (bt150.1, bt150.2.1, bt153.1, bt153.2)))) else ((bits_LeadingZeros64.f a1_1).bind fun t155 => ((uint128_Uint128_Lsh.f a1_0 a1_1 (IntKind.u64.wrap (t155))).bind fun bt156 => ((uint128_Uint128_Rsh.f a0_0 a0_1 1).bind fun bt159 => ((gobits_Div64.f k bt159.2 bt159.1 bt156.2).bind fun bt162 => (if 0 ≤ (IntKind.u64.wrap (63 - (IntKind.u64.wrap (t155)))) then (if (shr .u64 bt162.1 (IntKind.u64.wrap (63 - (IntKind.u64.wrap (t155))))) = 0 then (uint128_Uint128_QuoRem.j0 k (shr .u64 bt162.1 (IntKind.u64.wrap (63 - (IntKind.u64.wrap (t155))))) a0_0 a0_1 a1_0 a1_1) else (uint128_Uint128_QuoRem.j0 k (IntKind.u64.wrap ((shr .u64 bt162.1 (IntKind.u64.wrap (63 - (IntKind.u64.wrap (t155))))) - 1)) a0_0 a0_1 a1_0 a1_1)) else (none))))))) = some (r1, r2, r3, r4) := h
  clear h
  by_cases c3 : a1_1 = 0
  · rw [if_pos c3] at H
    have c3b0 : (a1_1 == 0) = true := beq_iff_eq.mpr c3
    have c3b1 : (a1_1 != 0) = false := bne_eq_false_iff_eq.mpr c3
    clear c3
    replace H := Option.bind_eq_some_iff.mp H
    obtain ⟨⟨t150, t151, t152⟩, A40, H⟩ := H
    replace H : ((uint128_From64.f t152).bind fun bt153 => (some (t150, t151, bt153.1, bt153.2))) = some (r1, r2, r3, r4) := H
    have A4 := Aside0.mk A40
    clear A40
    replace H := Option.bind_eq_some_iff.mp H
    obtain ⟨⟨t153, t154⟩, A50, H⟩ := H
    replace H : (some (t150, t151, t153, t154)) = some (r1, r2, r3, r4) := H
    have A5 := Aside0.mk A50
    clear A50
    simp only [Option.some.injEq, Prod.mk.injEq] at H
    obtain ⟨rfl, rfl, rfl, rfl⟩ := H
    go_enter Tryd.func64, Tryd.ntmps64
    go_wp2_with (first | ((with_reducible refine gate_dst (N := 2) rfl ?_); refine box_event ?hg (N := 2) ?hd (cs := #[.int .u64 a0_0, .int .u64 a0_1]) (t := 65) ?hr ?_; (case hd => rfl); (case hg => rfl); (case hr => first | (go_simp; done) | (go_simp; rfl)); intro gb146 hg w6 hbox hb; have n0_ := Aside0.mk (below_step (by repeat (first | (with_reducible first | exact HB.out | apply below_alloc | apply pw_below_drewN | apply below_drew1) | exact HB.out)) hb); have n1_ := Aside0.mk (hbox); have n2_ := Aside0.mk ((by rw [hg]; exact (below_size (by repeat (first | (with_reducible first | exact HB.out | apply below_alloc | apply pw_below_drewN | apply below_drew1) | exact HB.out))) : w.heap.size ≤ gb146)); have n3_ := Aside0.mk ((by rw [hg]; exact (below_size (by repeat (first | (with_reducible first | exact HB.out | apply below_alloc | apply pw_below_drewN | apply below_drew1) | exact HB.out))) : w.heap.size ≤ gb146)); clear HB; have HB := n0_; have BK146 := n1_; have GW146 := n2_; have GE146 := n3_; clear n0_ n1_ n2_ n3_; clear hb hbox hg) | ((with_reducible refine gate_dst (N := 3) rfl ?_); refine box_event ?hg (N := 3) ?hd (cs := #[.int .u64 a1_0, .int .u64 a1_1]) (t := 65) ?hr ?_; (case hd => rfl); (case hg => rfl); (case hr => first | (go_simp; done) | (go_simp; rfl)); intro gb147 hg w7 hbox hb; have n0_ := Aside0.mk (blk_below (g := gb146) (o := .cells #[.int .u64 a0_0, .int .u64 a0_1] 65 (0, 0)) (by exact BK146.out) hb); have n1_ := Aside0.mk (below_step (by repeat (first | (with_reducible first | exact HB.out | apply below_alloc | apply pw_below_drewN | apply below_drew1 | refine below_set ?_ GE146.out) | exact HB.out)) hb); have n2_ := Aside0.mk (hbox); have n3_ := Aside0.mk ((by rw [hg]; exact (below_size (by repeat (first | (with_reducible first | exact HB.out | apply below_alloc | apply pw_below_drewN | apply below_drew1 | refine below_set ?_ GE146.out) | exact HB.out))) : w.heap.size ≤ gb147)); have n4_ := Aside0.mk ((by rw [hg]; exact (below_size (by repeat (first | (with_reducible first | exact HB.out | apply below_alloc | apply pw_below_drewN | apply below_drew1 | refine below_set ?_ GE146.out) | exact HB.out))) : w.heap.size ≤ gb147)); have n5_ := Aside0.mk ((by rw [hg]; exact Nat.ne_of_lt (blk_lt (g := gb146) (o := .cells #[.int .u64 a0_0, .int .u64 a0_1] 65 (0, 0)) (by exact BK146.out)) : gb146 ≠ gb147)); have n6_ := Aside0.mk ((by rw [hg]; exact Nat.ne_of_gt (blk_lt (g := gb146) (o := .cells #[.int .u64 a0_0, .int .u64 a0_1] 65 (0, 0)) (by exact BK146.out)) : gb147 ≠ gb146)); clear BK146; clear HB; have BK146 := n0_; have HB := n1_; have BK147 := n2_; have GW147 := n3_; have GE147 := n4_; have NB146_147 := n5_; have NB147_146 := n6_; clear n0_ n1_ n2_ n3_ n4_ n5_ n6_; clear hb hbox hg) | ((with_reducible refine gate_dst (N := 4) rfl ?_); refine box_event ?hg (N := 4) ?hd (cs := #[.int .u64 0, .int .u64 0]) (t := 65) ?hr ?_; (case hd => rfl); (case hg => rfl); (case hr => first | (go_simp; done) | (go_simp; rfl)); intro gb148 hg w8 hbox hb; have n0_ := Aside0.mk (blk_below (g := gb146) (o := .cells #[.int .u64 a0_0, .int .u64 a0_1] 65 (0, 0)) (by exact BK146.out) hb); have n1_ := Aside0.mk (blk_below (g := gb147) (o := .cells #[.int .u64 a1_0, .int .u64 a1_1] 65 (0, 0)) (by exact BK147.out) hb); have n2_ := Aside0.mk (below_step (by repeat (first | (with_reducible first | exact HB.out | apply below_alloc | apply pw_below_drewN | apply below_drew1 | refine below_set ?_ GE146.out | refine below_set ?_ GE147.out) | exact HB.out)) hb); have n3_ := Aside0.mk (hbox); have n4_ := Aside0.mk ((by rw [hg]; exact (below_size (by repeat (first | (with_reducible first | exact HB.out | apply below_alloc | apply pw_below_drewN | apply below_drew1 | refine below_set ?_ GE146.out | refine below_set ?_ GE147.out) | exact HB.out))) : w.heap.size ≤ gb148)); have n5_ := Aside0.mk ((by rw [hg]; exact (below_size (by repeat (first | (with_reducible first | exact HB.out | apply below_alloc | apply pw_below_drewN | apply below_drew1 | refine below_set ?_ GE146.out | refine below_set ?_ GE147.out) | exact HB.out))) : w.heap.size ≤ gb148)); have n6_ := Aside0.mk ((by rw [hg]; exact Nat.ne_of_lt (blk_lt (g := gb146) (o := .cells #[.int .u64 a0_0, .int .u64 a0_1] 65 (0, 0)) (by exact BK146.out)) : gb146 ≠ gb148)); have n7_ := Aside0.mk ((by rw [hg]; exact Nat.ne_of_gt (blk_lt (g := gb146) (o := .cells #[.int .u64 a0_0, .int .u64 a0_1] 65 (0, 0)) (by exact BK146.out)) : gb148 ≠ gb146)); have n8_ := Aside0.mk ((by rw [hg]; exact Nat.ne_of_lt (blk_lt (g := gb147) (o := .cells #[.int .u64 a1_0, .int .u64 a1_1] 65 (0, 0)) (by exact BK147.out)) : gb147 ≠ gb148)); have n9_ := Aside0.mk ((by rw [hg]; exact Nat.ne_of_gt (blk_lt (g := gb147) (o := .cells #[.int .u64 a1_0, .int .u64 a1_1] 65 (0, 0)) (by exact BK147.out)) : gb148 ≠ gb147)); clear BK146; clear BK147; clear HB; have BK146 := n0_; have BK147 := n1_; have HB := n2_; have BK148 := n3_; have GW148 := n4_; have GE148 := n5_; have NB146_148 := n6_; have NB148_146 := n7_; have NB147_148 := n8_; have NB148_147 := n9_; clear n0_ n1_ n2_ n3_ n4_ n5_ n6_ n7_ n8_ n9_; clear hb hbox hg) | ((with_reducible refine gate_dst (N := 5) rfl ?_); refine box_event ?hg (N := 5) ?hd (cs := #[.int .u64 0, .int .u64 0]) (t := 65) ?hr ?_; (case hd => rfl); (case hg => rfl); (case hr => first | (go_simp; done) | (go_simp; rfl)); intro gb149 hg w9 hbox hb; have n0_ := Aside0.mk (blk_below (g := gb146) (o := .cells #[.int .u64 a0_0, .int .u64 a0_1] 65 (0, 0)) (by exact BK146.out) hb); have n1_ := Aside0.mk (blk_below (g := gb147) (o := .cells #[.int .u64 a1_0, .int .u64 a1_1] 65 (0, 0)) (by exact BK147.out) hb); have n2_ := Aside0.mk (blk_below (g := gb148) (o := .cells #[.int .u64 0, .int .u64 0] 65 (0, 0)) (by exact BK148.out) hb); have n3_ := Aside0.mk (below_step (by repeat (first | (with_reducible first | exact HB.out | apply below_alloc | apply pw_below_drewN | apply below_drew1 | refine below_set ?_ GE146.out | refine below_set ?_ GE147.out | refine below_set ?_ GE148.out) | exact HB.out)) hb); have n4_ := Aside0.mk (hbox); have n5_ := Aside0.mk ((by rw [hg]; exact (below_size (by repeat (first | (with_reducible first | exact HB.out | apply below_alloc | apply pw_below_drewN | apply below_drew1 | refine below_set ?_ GE146.out | refine below_set ?_ GE147.out | refine below_set ?_ GE148.out) | exact HB.out))) : w.heap.size ≤ gb149)); have n6_ := Aside0.mk ((by rw [hg]; exact (below_size (by repeat (first | (with_reducible first | exact HB.out | apply below_alloc | apply pw_below_drewN | apply below_drew1 | refine below_set ?_ GE146.out | refine below_set ?_ GE147.out | refine below_set ?_ GE148.out) | exact HB.out))) : w.heap.size ≤ gb149)); have n7_ := Aside0.mk ((by rw [hg]; exact Nat.ne_of_lt (blk_lt (g := gb146) (o := .cells #[.int .u64 a0_0, .int .u64 a0_1] 65 (0, 0)) (by exact BK146.out)) : gb146 ≠ gb149)); have n8_ := Aside0.mk ((by rw [hg]; exact Nat.ne_of_gt (blk_lt (g := gb146) (o := .cells #[.int .u64 a0_0, .int .u64 a0_1] 65 (0, 0)) (by exact BK146.out)) : gb149 ≠ gb146)); have n9_ := Aside0.mk ((by rw [hg]; exact Nat.ne_of_lt (blk_lt (g := gb147) (o := .cells #[.int .u64 a1_0, .int .u64 a1_1] 65 (0, 0)) (by exact BK147.out)) : gb147 ≠ gb149)); have n10_ := Aside0.mk ((by rw [hg]; exact Nat.ne_of_gt (blk_lt (g := gb147) (o := .cells #[.int .u64 a1_0, .int .u64 a1_1] 65 (0, 0)) (by exact BK147.out)) : gb149 ≠ gb147)); have n11_ := Aside0.mk ((by rw [hg]; exact Nat.ne_of_lt (blk_lt (g := gb148) (o := .cells #[.int .u64 0, .int .u64 0] 65 (0, 0)) (by exact BK148.out)) : gb148 ≠ gb149)); have n12_ := Aside0.mk ((by rw [hg]; exact Nat.ne_of_gt (blk_lt (g := gb148) (o := .cells #[.int .u64 0, .int .u64 0] 65 (0, 0)) (by exact BK148.out)) : gb149 ≠ gb148)); clear BK146; clear BK147; clear BK148; clear HB; have BK146 := n0_; have BK147 := n1_; have BK148 := n2_; have HB := n3_; have BK149 := n4_; have GW149 := n5_; have GE149 := n6_; have NB146_149 := n7_; have NB149_146 := n8_; have NB147_149 := n9_; have NB149_147 := n10_; have NB148_149 := n11_; have NB149_148 := n12_; clear n0_ n1_ n2_ n3_ n4_ n5_ n6_ n7_ n8_ n9_ n10_ n11_ n12_; clear hb hbox hg; have hnb10 := NB147_146.out; have hnc10 := NB146_147.out; have hnb11 := NB147_148.out; have hnc11 := NB148_147.out; have hnb12 := NB147_149.out; have hnc12 := NB149_147.out; have hcz13_0 : w9.cell? ⟨gb147, 0, none⟩ = some (.int .u64 a1_0) := (blk_cell BK147.out 0).trans rfl; have hcz13_1 : w9.cell? ⟨gb147, 1, none⟩ = some (.int .u64 a1_1) := (blk_cell BK147.out 1).trans rfl; have hfz13_0 := blk_frozen BK147.out 0; have hfz13_1 := blk_frozen BK147.out 1; have hnb14 := NB146_148.out; have hnc14 := NB148_146.out; have hnb15 := NB146_149.out; have hnc15 := NB149_146.out; have hcz16_0 : w9.cell? ⟨gb146, 0, none⟩ = some (.int .u64 a0_0) := (blk_cell BK146.out 0).trans rfl; have hcz16_1 : w9.cell? ⟨gb146, 1, none⟩ = some (.int .u64 a0_1) := (blk_cell BK146.out 1).trans rfl; have hfz16_0 := blk_frozen BK146.out 0; have hfz16_1 := blk_frozen BK146.out 1) | ((with_reducible refine gate_callee (f := 54) rfl ?_); refine goesL_ (some 19) rfl rfl Tryd.func54 (by kernel_rfl) rfl #[.agg #[.int .u64 a0_0, .int .u64 a0_1], .int .u64 a1_0] rfl (by (try simp only [List.map_toArray, List.map_cons, List.map_nil]); first | done | rfl | (simp only [List.length_drop, List.length_take]; rfl)) ?_; (with_reducible refine (uint128_Uint128_QuoRem64.calls k a0_0 a0_1 a1_0 t150 t151 t152 _ A4.out).mono ?_); rintro e w17 ⟨rfl, hb⟩; refine ⟨_, rfl, ?_⟩; have n0_ := Aside0.mk (blk_below (g := gb146) (o := .cells #[.int .u64 a0_0, .int .u64 a0_1] 65 (0, 0)) (by exact BK146.out) hb); have n1_ := Aside0.mk (blk_below (g := gb147) (o := .cells #[.int .u64 a1_0, .int .u64 a1_1] 65 (0, 0)) (by exact BK147.out) hb); have n2_ := Aside0.mk (blk_below (g := gb148) (o := .cells #[.int .u64 0, .int .u64 0] 65 (0, 0)) (by exact BK148.out) hb); have n3_ := Aside0.mk (blk_below (g := gb149) (o := .cells #[.int .u64 0, .int .u64 0] 65 (0, 0)) (by exact BK149.out) hb); have n4_ := Aside0.mk (below_step (by repeat (first | (with_reducible first | exact HB.out | apply below_alloc | apply pw_below_drewN | apply below_drew1 | refine below_set ?_ GE146.out | refine below_set ?_ GE147.out | refine below_set ?_ GE148.out | refine below_set ?_ GE149.out) | exact HB.out)) hb); clear BK146; clear BK147; clear BK148; clear BK149; clear HB; have BK146 := n0_; have BK147 := n1_; have BK148 := n2_; have BK149 := n3_; have HB := n4_; clear n0_ n1_ n2_ n3_ n4_; (try clear hb); (try clear hb2); (try clear hk); (try clear hi); have hnb18 := NB148_149.out; have hnc18 := NB149_148.out; have hcz19_0 : w17.cell? ⟨gb148, 0, none⟩ = some (.int .u64 0) := (blk_cell BK148.out 0).trans rfl; have hcz19_1 : w17.cell? ⟨gb148, 1, none⟩ = some (.int .u64 0) := (blk_cell BK148.out 1).trans rfl; have hfz19_0 := blk_frozen BK148.out 0; have hfz19_1 := blk_frozen BK148.out 1) | ((with_reducible refine gate_callee (f := 42) rfl ?_); refine goesL_ (some 23) rfl rfl Tryd.func42 (by kernel_rfl) rfl #[.int .u64 t152] rfl (by (try simp only [List.map_toArray, List.map_cons, List.map_nil]); first | done | rfl | (simp only [List.length_drop, List.length_take]; rfl)) ?_; (with_reducible refine (uint128_From64.calls t152 t153 t154 _ A5.out).mono ?_); rintro e w20 ⟨rfl, hb⟩; refine ⟨_, rfl, ?_⟩; have n0_ := Aside0.mk (blk_below (g := gb146) (o := .cells #[.int .u64 a0_0, .int .u64 a0_1] 65 (0, 0)) (by (with_reducible repeat (first | refine blk_drewN ?_ _ | refine blk_drew ?_ | refine blk_alloc ?_ _)); refine blk_far ?_ NB146_148.out _; (with_reducible repeat (first | refine blk_drewN ?_ _ | refine blk_drew ?_ | refine blk_alloc ?_ _)); refine blk_far ?_ NB146_148.out _; (with_reducible repeat (first | refine blk_drewN ?_ _ | refine blk_drew ?_ | refine blk_alloc ?_ _)); exact BK146.out) hb); have n1_ := Aside0.mk (blk_below (g := gb147) (o := .cells #[.int .u64 a1_0, .int .u64 a1_1] 65 (0, 0)) (by (with_reducible repeat (first | refine blk_drewN ?_ _ | refine blk_drew ?_ | refine blk_alloc ?_ _)); refine blk_far ?_ NB147_148.out _; (with_reducible repeat (first | refine blk_drewN ?_ _ | refine blk_drew ?_ | refine blk_alloc ?_ _)); refine blk_far ?_ NB147_148.out _; (with_reducible repeat (first | refine blk_drewN ?_ _ | refine blk_drew ?_ | refine blk_alloc ?_ _)); exact BK147.out) hb); have n2_ := Aside0.mk (blk_below (g := gb148) (o := .cells #[.int .u64 t150, .int .u64 t151] 65 (0, 0)) (by (with_reducible repeat (first | refine blk_drewN ?_ _ | refine blk_drew ?_ | refine blk_alloc ?_ _)); refine blk_put (cs := #[.int .u64 t150, .int .u64 0]) ?_ 1 _ rfl; (with_reducible repeat (first | refine blk_drewN ?_ _ | refine blk_drew ?_ | refine blk_alloc ?_ _)); refine blk_put (cs := #[.int .u64 0, .int .u64 0]) ?_ 0 _ rfl; (with_reducible repeat (first | refine blk_drewN ?_ _ | refine blk_drew ?_ | refine blk_alloc ?_ _)); exact BK148.out) hb); have n3_ := Aside0.mk (blk_below (g := gb149) (o := .cells #[.int .u64 0, .int .u64 0] 65 (0, 0)) (by (with_reducible repeat (first | refine blk_drewN ?_ _ | refine blk_drew ?_ | refine blk_alloc ?_ _)); refine blk_far ?_ NB149_148.out _; (with_reducible repeat (first | refine blk_drewN ?_ _ | refine blk_drew ?_ | refine blk_alloc ?_ _)); refine blk_far ?_ NB149_148.out _; (with_reducible repeat (first | refine blk_drewN ?_ _ | refine blk_drew ?_ | refine blk_alloc ?_ _)); exact BK149.out) hb); have n4_ := Aside0.mk (below_step (by repeat (first | (with_reducible first | exact HB.out | apply below_alloc | apply pw_below_drewN | apply below_drew1 | refine below_set ?_ GE146.out | refine below_set ?_ GE147.out | refine below_set ?_ GE148.out | refine below_set ?_ GE149.out) | exact HB.out)) hb); clear BK146; clear BK147; clear BK148; clear BK149; clear HB; have BK146 := n0_; have BK147 := n1_; have BK148 := n2_; have BK149 := n3_; have HB := n4_; clear n0_ n1_ n2_ n3_ n4_; (try clear hb); (try clear hb2); (try clear hk); (try clear hi); have hcz21_0 : w20.cell? ⟨gb149, 0, none⟩ = some (.int .u64 0) := (blk_cell BK149.out 0).trans rfl; have hcz21_1 : w20.cell? ⟨gb149, 1, none⟩ = some (.int .u64 0) := (blk_cell BK149.out 1).trans rfl; have hfz21_0 := blk_frozen BK149.out 0; have hfz21_1 := blk_frozen BK149.out 1))
    refine bodyPost_ret (results_cc rfl _ _ gb148 gb149 65 65 #[.int .u64 t150, .int .u64 t151] #[.int .u64 t153, .int .u64 t154] (0, 0) (0, 0) _ _ rfl (by (with_reducible repeat (first | refine blk_drewN ?_ _ | refine blk_drew ?_ | refine blk_alloc ?_ _)); refine blk_far ?_ NB148_149.out _; (with_reducible repeat (first | refine blk_drewN ?_ _ | refine blk_drew ?_ | refine blk_alloc ?_ _)); refine blk_far ?_ NB148_149.out _; (with_reducible repeat (first | refine blk_drewN ?_ _ | refine blk_drew ?_ | refine blk_alloc ?_ _)); exact BK148.out) Tryd.underlying65 rfl (by kernel_rfl) rfl (by (with_reducible repeat (first | refine blk_drewN ?_ _ | refine blk_drew ?_ | refine blk_alloc ?_ _)); refine blk_put (cs := #[.int .u64 t153, .int .u64 0]) ?_ 1 _ rfl; (with_reducible repeat (first | refine blk_drewN ?_ _ | refine blk_drew ?_ | refine blk_alloc ?_ _)); refine blk_put (cs := #[.int .u64 0, .int .u64 0]) ?_ 0 _ rfl; (with_reducible repeat (first | refine blk_drewN ?_ _ | refine blk_drew ?_ | refine blk_alloc ?_ _)); exact BK149.out) Tryd.underlying65 rfl (by kernel_rfl)) rfl ?_
    exact ⟨by first | rfl | (simp [errW_none, errW_some] <;> rfl) | (simp [*, errW_none, errW_some] <;> rfl), by repeat (first | (with_reducible first | exact HB.out | apply below_alloc | apply pw_below_drewN | apply below_drew1 | refine below_set ?_ GE146.out | refine below_set ?_ GE147.out | refine below_set ?_ GE148.out | refine below_set ?_ GE149.out) | exact HB.out)⟩
  · rw [if_neg c3] at H
    have c3b0 : (a1_1 == 0) = false := beq_eq_false_iff_ne.mpr c3
    have c3b1 : (a1_1 != 0) = true := bne_iff_ne.mpr c3
    replace H := Option.bind_eq_some_iff.mp H
    obtain ⟨t155, A220, H⟩ := H
    replace H : ((uint128_Uint128_Lsh.f a1_0 a1_1 (IntKind.u64.wrap (t155))).bind fun bt156 => ((uint128_Uint128_Rsh.f a0_0 a0_1 1).bind fun bt159 => ((gobits_Div64.f k bt159.2 bt159.1 bt156.2).bind fun bt162 => (if 0 ≤ (IntKind.u64.wrap (63 - (IntKind.u64.wrap (t155)))) then (if (shr .u64 bt162.1 (IntKind.u64.wrap (63 - (IntKind.u64.wrap (t155))))) = 0 then (uint128_Uint128_QuoRem.j0 k (shr .u64 bt162.1 (IntKind.u64.wrap (63 - (IntKind.u64.wrap (t155))))) a0_0 a0_1 a1_0 a1_1) else (uint128_Uint128_QuoRem.j0 k (IntKind.u64.wrap ((shr .u64 bt162.1 (IntKind.u64.wrap (63 - (IntKind.u64.wrap (t155))))) - 1)) a0_0 a0_1 a1_0 a1_1)) else (none))))) = some (r1, r2, r3, r4) := H
    have A22 := Aside0.mk A220
    clear A220
    replace H := Option.bind_eq_some_iff.mp H
    obtain ⟨⟨t156, t157⟩, A230, H⟩ := H
    replace H : ((uint128_Uint128_Rsh.f a0_0 a0_1 1).bind fun bt159 => ((gobits_Div64.f k bt159.2 bt159.1 t157).bind fun bt162 => (if 0 ≤ (IntKind.u64.wrap (63 - (IntKind.u64.wrap (t155)))) then (if (shr .u64 bt162.1 (IntKind.u64.wrap (63 - (IntKind.u64.wrap (t155))))) = 0 then (uint128_Uint128_QuoRem.j0 k (shr .u64 bt162.1 (IntKind.u64.wrap (63 - (IntKind.u64.wrap (t155))))) a0_0 a0_1 a1_0 a1_1) else (uint128_Uint128_QuoRem.j0 k (IntKind.u64.wrap ((shr .u64 bt162.1 (IntKind.u64.wrap (63 - (IntKind.u64.wrap (t155))))) - 1)) a0_0 a0_1 a1_0 a1_1)) else (none)))) = some (r1, r2, r3, r4) := H
    have A23 := Aside0.mk A230
    clear A230
    replace H := Option.bind_eq_some_iff.mp H
    obtain ⟨⟨t159, t160⟩, A240, H⟩ := H
    replace H : ((gobits_Div64.f k t160 t159 t157).bind fun bt162 => (if 0 ≤ (IntKind.u64.wrap (63 - (IntKind.u64.wrap (t155)))) then (if (shr .u64 bt162.1 (IntKind.u64.wrap (63 - (IntKind.u64.wrap (t155))))) = 0 then (uint128_Uint128_QuoRem.j0 k (shr .u64 bt162.1 (IntKind.u64.wrap (63 - (IntKind.u64.wrap (t155))))) a0_0 a0_1 a1_0 a1_1) else (uint128_Uint128_QuoRem.j0 k (IntKind.u64.wrap ((shr .u64 bt162.1 (IntKind.u64.wrap (63 - (IntKind.u64.wrap (t155))))) - 1)) a0_0 a0_1 a1_0 a1_1)) else (none))) = some (r1, r2, r3, r4) := H
    have A24 := Aside0.mk A240
    clear A240
    replace H := Option.bind_eq_some_iff.mp H
    obtain ⟨⟨t162, t163⟩, A250, H⟩ := H
    replace H : (if 0 ≤ (IntKind.u64.wrap (63 - (IntKind.u64.wrap (t155)))) then (if (shr .u64 t162 (IntKind.u64.wrap (63 - (IntKind.u64.wrap (t155))))) = 0 then (uint128_Uint128_QuoRem.j0 k (shr .u64 t162 (IntKind.u64.wrap (63 - (IntKind.u64.wrap (t155))))) a0_0 a0_1 a1_0 a1_1) else (uint128_Uint128_QuoRem.j0 k (IntKind.u64.wrap ((shr .u64 t162 (IntKind.u64.wrap (63 - (IntKind.u64.wrap (t155))))) - 1)) a0_0 a0_1 a1_0 a1_1)) else (none)) = some (r1, r2, r3, r4) := H
    have A25 := Aside0.mk A250
    clear A250
    obtain ⟨ji26, hji26⟩ : ∃ j_ : Int, (IntKind.u64.wrap (63 - (IntKind.u64.wrap (t155)))) = j_ := ⟨_, rfl⟩
    replace H : (if 0 ≤ (ji26) then (if (shr .u64 t162 (ji26)) = 0 then (uint128_Uint128_QuoRem.j0 k (shr .u64 t162 (ji26)) a0_0 a0_1 a1_0 a1_1) else (uint128_Uint128_QuoRem.j0 k (IntKind.u64.wrap ((shr .u64 t162 (ji26)) - 1)) a0_0 a0_1 a1_0 a1_1)) else (none)) = some (r1, r2, r3, r4) := by first | (rw [hji26] at H; exact H) | (simp only [hji26] at H ⊢; exact H)
    (try rw [hji26] at A22)
    (try rw [hji26] at A23)
    (try rw [hji26] at A24)
    (try rw [hji26] at A25)
    by_cases c27 : 0 ≤ (ji26)
    · rw [if_pos c27] at H
      have c27b0 := eq_true c27
      have c27b1 : decide (0 ≤ (ji26)) = true := decide_eq_true c27
      clear c27
      obtain ⟨ji28, hji28⟩ : ∃ j_ : Int, (shr .u64 t162 (ji26)) = j_ := ⟨_, rfl⟩
      replace H : (if (ji28) = 0 then (uint128_Uint128_QuoRem.j0 k ji28 a0_0 a0_1 a1_0 a1_1) else (uint128_Uint128_QuoRem.j0 k (IntKind.u64.wrap ((ji28) - 1)) a0_0 a0_1 a1_0 a1_1)) = some (r1, r2, r3, r4) := by first | (rw [hji28] at H; exact H) | (simp only [hji28] at H ⊢; exact H)
      (try rw [hji28] at A22)
      (try rw [hji28] at A23)
      (try rw [hji28] at A24)
      (try rw [hji28] at A25)
      have hji28_ : (t162 / 2 ^ min (ji26).toNat 64) = ji28 := hji28
      have hji28z : (ji26) ≤ 64 → (t162 / 2 ^ (ji26).toNat) = ji28 := shr_small hji28
      have HC29 := Aside0.mk H
      clear H
      go_enter Tryd.func64, Tryd.ntmps64
      go_upto_if 48 with (first | ((with_reducible refine gate_dst (N := 2) rfl ?_); refine box_event ?hg (N := 2) ?hd (cs := #[.int .u64 a0_0, .int .u64 a0_1]) (t := 65) ?hr ?_; (case hd => rfl); (case hg => rfl); (case hr => first | (go_simp; done) | (go_simp; rfl)); intro gb146 hg w30 hbox hb; have n0_ := Aside0.mk (below_step (by repeat (first | (with_reducible first | exact HB.out | apply below_alloc | apply pw_below_drewN | apply below_drew1) | exact HB.out)) hb); have n1_ := Aside0.mk (hbox); have n2_ := Aside0.mk ((by rw [hg]; exact (below_size (by repeat (first | (with_reducible first | exact HB.out | apply below_alloc | apply pw_below_drewN | apply below_drew1) | exact HB.out))) : w.heap.size ≤ gb146)); have n3_ := Aside0.mk ((by rw [hg]; exact (below_size (by repeat (first | (with_reducible first | exact HB.out | apply below_alloc | apply pw_below_drewN | apply below_drew1) | exact HB.out))) : w.heap.size ≤ gb146)); clear HB; have HB := n0_; have BK146 := n1_; have GW146 := n2_; have GE146 := n3_; clear n0_ n1_ n2_ n3_; clear hb hbox hg) | ((with_reducible refine gate_dst (N := 3) rfl ?_); refine box_event ?hg (N := 3) ?hd (cs := #[.int .u64 a1_0, .int .u64 a1_1]) (t := 65) ?hr ?_; (case hd => rfl); (case hg => rfl); (case hr => first | (go_simp; done) | (go_simp; rfl)); intro gb147 hg w31 hbox hb; have n0_ := Aside0.mk (blk_below (g := gb146) (o := .cells #[.int .u64 a0_0, .int .u64 a0_1] 65 (0, 0)) (by exact BK146.out) hb); have n1_ := Aside0.mk (below_step (by repeat (first | (with_reducible first | exact HB.out | apply below_alloc | apply pw_below_drewN | apply below_drew1 | refine below_set ?_ GE146.out) | exact HB.out)) hb); have n2_ := Aside0.mk (hbox); have n3_ := Aside0.mk ((by rw [hg]; exact (below_size (by repeat (first | (with_reducible first | exact HB.out | apply below_alloc | apply pw_below_drewN | apply below_drew1 | refine below_set ?_ GE146.out) | exact HB.out))) : w.heap.size ≤ gb147)); have n4_ := Aside0.mk ((by rw [hg]; exact (below_size (by repeat (first | (with_reducible first | exact HB.out | apply below_alloc | apply pw_below_drewN | apply below_drew1 | refine below_set ?_ GE146.out) | exact HB.out))) : w.heap.size ≤ gb147)); have n5_ := Aside0.mk ((by rw [hg]; exact Nat.ne_of_lt (blk_lt (g := gb146) (o := .cells #[.int .u64 a0_0, .int .u64 a0_1] 65 (0, 0)) (by exact BK146.out)) : gb146 ≠ gb147)); have n6_ := Aside0.mk ((by rw [hg]; exact Nat.ne_of_gt (blk_lt (g := gb146) (o := .cells #[.int .u64 a0_0, .int .u64 a0_1] 65 (0, 0)) (by exact BK146.out)) : gb147 ≠ gb146)); clear BK146; clear HB; have BK146 := n0_; have HB := n1_; have BK147 := n2_; have GW147 := n3_; have GE147 := n4_; have NB146_147 := n5_; have NB147_146 := n6_; clear n0_ n1_ n2_ n3_ n4_ n5_ n6_; clear hb hbox hg) | ((with_reducible refine gate_dst (N := 4) rfl ?_); refine box_event ?hg (N := 4) ?hd (cs := #[.int .u64 0, .int .u64 0]) (t := 65) ?hr ?_; (case hd => rfl); (case hg => rfl); (case hr => first | (go_simp; done) | (go_simp; rfl)); intro gb148 hg w32 hbox hb; have n0_ := Aside0.mk (blk_below (g := gb146) (o := .cells #[.int .u64 a0_0, .int .u64 a0_1] 65 (0, 0)) (by exact BK146.out) hb); have n1_ := Aside0.mk (blk_below (g := gb147) (o := .cells #[.int .u64 a1_0, .int .u64 a1_1] 65 (0, 0)) (by exact BK147.out) hb); have n2_ := Aside0.mk (below_step (by repeat (first | (with_reducible first | exact HB.out | apply below_alloc | apply pw_below_drewN | apply below_drew1 | refine below_set ?_ GE146.out | refine below_set ?_ GE147.out) | exact HB.out)) hb); have n3_ := Aside0.mk (hbox); have n4_ := Aside0.mk ((by rw [hg]; exact (below_size (by repeat (first | (with_reducible first | exact HB.out | apply below_alloc | apply pw_below_drewN | apply below_drew1 | refine below_set ?_ GE146.out | refine below_set ?_ GE147.out) | exact HB.out))) : w.heap.size ≤ gb148)); have n5_ := Aside0.mk ((by rw [hg]; exact (below_size (by repeat (first | (with_reducible first | exact HB.out | apply below_alloc | apply pw_below_drewN | apply below_drew1 | refine below_set ?_ GE146.out | refine below_set ?_ GE147.out) | exact HB.out))) : w.heap.size ≤ gb148)); have n6_ := Aside0.mk ((by rw [hg]; exact Nat.ne_of_lt (blk_lt (g := gb146) (o := .cells #[.int .u64 a0_0, .int .u64 a0_1] 65 (0, 0)) (by exact BK146.out)) : gb146 ≠ gb148)); have n7_ := Aside0.mk ((by rw [hg]; exact Nat.ne_of_gt (blk_lt (g := gb146) (o := .cells #[.int .u64 a0_0, .int .u64 a0_1] 65 (0, 0)) (by exact BK146.out)) : gb148 ≠ gb146)); have n8_ := Aside0.mk ((by rw [hg]; exact Nat.ne_of_lt (blk_lt (g := gb147) (o := .cells #[.int .u64 a1_0, .int .u64 a1_1] 65 (0, 0)) (by exact BK147.out)) : gb147 ≠ gb148)); have n9_ := Aside0.mk ((by rw [hg]; exact Nat.ne_of_gt (blk_lt (g := gb147) (o := .cells #[.int .u64 a1_0, .int .u64 a1_1] 65 (0, 0)) (by exact BK147.out)) : gb148 ≠ gb147)); clear BK146; clear BK147; clear HB; have BK146 := n0_; have BK147 := n1_; have HB := n2_; have BK148 := n3_; have GW148 := n4_; have GE148 := n5_; have NB146_148 := n6_; have NB148_146 := n7_; have NB147_148 := n8_; have NB148_147 := n9_; clear n0_ n1_ n2_ n3_ n4_ n5_ n6_ n7_ n8_ n9_; clear hb hbox hg) | ((with_reducible refine gate_dst (N := 5) rfl ?_); refine box_event ?hg (N := 5) ?hd (cs := #[.int .u64 0, .int .u64 0]) (t := 65) ?hr ?_; (case hd => rfl); (case hg => rfl); (case hr => first | (go_simp; done) | (go_simp; rfl)); intro gb149 hg w33 hbox hb; have n0_ := Aside0.mk (blk_below (g := gb146) (o := .cells #[.int .u64 a0_0, .int .u64 a0_1] 65 (0, 0)) (by exact BK146.out) hb); have n1_ := Aside0.mk (blk_below (g := gb147) (o := .cells #[.int .u64 a1_0, .int .u64 a1_1] 65 (0, 0)) (by exact BK147.out) hb); have n2_ := Aside0.mk (blk_below (g := gb148) (o := .cells #[.int .u64 0, .int .u64 0] 65 (0, 0)) (by exact BK148.out) hb); have n3_ := Aside0.mk (below_step (by repeat (first | (with_reducible first | exact HB.out | apply below_alloc | apply pw_below_drewN | apply below_drew1 | refine below_set ?_ GE146.out | refine below_set ?_ GE147.out | refine below_set ?_ GE148.out) | exact HB.out)) hb); have n4_ := Aside0.mk (hbox); have n5_ := Aside0.mk ((by rw [hg]; exact (below_size (by repeat (first | (with_reducible first | exact HB.out | apply below_alloc | apply pw_below_drewN | apply below_drew1 | refine below_set ?_ GE146.out | refine below_set ?_ GE147.out | refine below_set ?_ GE148.out) | exact HB.out))) : w.heap.size ≤ gb149)); have n6_ := Aside0.mk ((by rw [hg]; exact (below_size (by repeat (first | (with_reducible first | exact HB.out | apply below_alloc | apply pw_below_drewN | apply below_drew1 | refine below_set ?_ GE146.out | refine below_set ?_ GE147.out | refine below_set ?_ GE148.out) | exact HB.out))) : w.heap.size ≤ gb149)); have n7_ := Aside0.mk ((by rw [hg]; exact Nat.ne_of_lt (blk_lt (g := gb146) (o := .cells #[.int .u64 a0_0, .int .u64 a0_1] 65 (0, 0)) (by exact BK146.out)) : gb146 ≠ gb149)); have n8_ := Aside0.mk ((by rw [hg]; exact Nat.ne_of_gt (blk_lt (g := gb146) (o := .cells #[.int .u64 a0_0, .int .u64 a0_1] 65 (0, 0)) (by exact BK146.out)) : gb149 ≠ gb146)); have n9_ := Aside0.mk ((by rw [hg]; exact Nat.ne_of_lt (blk_lt (g := gb147) (o := .cells #[.int .u64 a1_0, .int .u64 a1_1] 65 (0, 0)) (by exact BK147.out)) : gb147 ≠ gb149)); have n10_ := Aside0.mk ((by rw [hg]; exact Nat.ne_of_gt (blk_lt (g := gb147) (o := .cells #[.int .u64 a1_0, .int .u64 a1_1] 65 (0, 0)) (by exact BK147.out)) : gb149 ≠ gb147)); have n11_ := Aside0.mk ((by rw [hg]; exact Nat.ne_of_lt (blk_lt (g := gb148) (o := .cells #[.int .u64 0, .int .u64 0] 65 (0, 0)) (by exact BK148.out)) : gb148 ≠ gb149)); have n12_ := Aside0.mk ((by rw [hg]; exact Nat.ne_of_gt (blk_lt (g := gb148) (o := .cells #[.int .u64 0, .int .u64 0] 65 (0, 0)) (by exact BK148.out)) : gb149 ≠ gb148)); clear BK146; clear BK147; clear BK148; clear HB; have BK146 := n0_; have BK147 := n1_; have BK148 := n2_; have HB := n3_; have BK149 := n4_; have GW149 := n5_; have GE149 := n6_; have NB146_149 := n7_; have NB149_146 := n8_; have NB147_149 := n9_; have NB149_147 := n10_; have NB148_149 := n11_; have NB149_148 := n12_; clear n0_ n1_ n2_ n3_ n4_ n5_ n6_ n7_ n8_ n9_ n10_ n11_ n12_; clear hb hbox hg; have hnb34 := NB147_146.out; have hnc34 := NB146_147.out; have hnb35 := NB147_148.out; have hnc35 := NB148_147.out; have hnb36 := NB147_149.out; have hnc36 := NB149_147.out; have hcz37_0 : w33.cell? ⟨gb147, 0, none⟩ = some (.int .u64 a1_0) := (blk_cell BK147.out 0).trans rfl; have hcz37_1 : w33.cell? ⟨gb147, 1, none⟩ = some (.int .u64 a1_1) := (blk_cell BK147.out 1).trans rfl; have hfz37_0 := blk_frozen BK147.out 0; have hfz37_1 := blk_frozen BK147.out 1) | ((with_reducible refine gate_callee (f := 100) rfl ?_); refine goesL_ (some 26) rfl rfl Tryd.func100 (by kernel_rfl) rfl #[.int .u64 a1_1] rfl (by (try simp only [List.map_toArray, List.map_cons, List.map_nil]); first | done | rfl | (simp only [List.length_drop, List.length_take]; rfl)) ?_; (with_reducible refine (bits_LeadingZeros64.calls a1_1 t155 _ A22.out).mono ?_); rintro e w' ⟨rfl, ⟨nd, rfl⟩⟩; refine ⟨_, rfl, ?_⟩; (try (rw [drewN_self w33]; generalize hq_ : World.drewN w33 _ = w33; have n0_ : Aside0 (w33.heap[gb146]? = some (.cells #[.int .u64 a0_0, .int .u64 a0_1] 65 (0, 0))) := ⟨by rw [← hq_]; exact (by exact BK146.out)⟩; have n1_ : Aside0 (w33.heap[gb147]? = some (.cells #[.int .u64 a1_0, .int .u64 a1_1] 65 (0, 0))) := ⟨by rw [← hq_]; exact (by exact BK147.out)⟩; have n2_ : Aside0 (w33.heap[gb148]? = some (.cells #[.int .u64 0, .int .u64 0] 65 (0, 0))) := ⟨by rw [← hq_]; exact (by exact BK148.out)⟩; have n3_ : Aside0 (w33.heap[gb149]? = some (.cells #[.int .u64 0, .int .u64 0] 65 (0, 0))) := ⟨by rw [← hq_]; exact (by exact BK149.out)⟩; have n4_ : Aside0 (Below w.heap.size w w33) := ⟨by rw [← hq_]; exact (by repeat (first | (with_reducible first | exact HB.out | apply below_alloc | apply pw_below_drewN | apply below_drew1 | refine below_set ?_ GE146.out | refine below_set ?_ GE147.out | refine below_set ?_ GE148.out | refine below_set ?_ GE149.out) | exact HB.out))⟩; clear BK146 BK147 BK148 BK149 HB hq_; have BK146 := n0_; have BK147 := n1_; have BK148 := n2_; have BK149 := n3_; have HB := n4_; clear n0_ n1_ n2_ n3_ n4_)); have hcy146_0 : w33.cell? ⟨gb146, 0, none⟩ = some (.int .u64 a0_0) := (blk_cell BK146.out 0).trans rfl; have hfy146_0 := blk_frozen BK146.out 0; have hcy146_1 : w33.cell? ⟨gb146, 1, none⟩ = some (.int .u64 a0_1) := (blk_cell BK146.out 1).trans rfl; have hfy146_1 := blk_frozen BK146.out 1; have hcy147_0 : w33.cell? ⟨gb147, 0, none⟩ = some (.int .u64 a1_0) := (blk_cell BK147.out 0).trans rfl; have hfy147_0 := blk_frozen BK147.out 0; have hcy147_1 : w33.cell? ⟨gb147, 1, none⟩ = some (.int .u64 a1_1) := (blk_cell BK147.out 1).trans rfl; have hfy147_1 := blk_frozen BK147.out 1; have hcy148_0 : w33.cell? ⟨gb148, 0, none⟩ = some (.int .u64 0) := (blk_cell BK148.out 0).trans rfl; have hfy148_0 := blk_frozen BK148.out 0; have hcy148_1 : w33.cell? ⟨gb148, 1, none⟩ = some (.int .u64 0) := (blk_cell BK148.out 1).trans rfl; have hfy148_1 := blk_frozen BK148.out 1; have hcy149_0 : w33.cell? ⟨gb149, 0, none⟩ = some (.int .u64 0) := (blk_cell BK149.out 0).trans rfl; have hfy149_0 := blk_frozen BK149.out 0; have hcy149_1 : w33.cell? ⟨gb149, 1, none⟩ = some (.int .u64 0) := (blk_cell BK149.out 1).trans rfl; have hfy149_1 := blk_frozen BK149.out 1) | ((with_reducible refine gate_callee (f := 93) rfl ?_); refine goesL_ (some 30) rfl rfl Tryd.func93 (by kernel_rfl) rfl #[.agg #[.int .u64 a1_0, .int .u64 a1_1], .int .u64 (IntKind.u64.wrap (t155))] rfl (by (try simp only [List.map_toArray, List.map_cons, List.map_nil]); first | done | rfl | (simp only [List.length_drop, List.length_take]; rfl)) ?_; (with_reducible refine (uint128_Uint128_Lsh.calls a1_0 a1_1 (IntKind.u64.wrap (t155)) t156 t157 _ A23.out).mono ?_); rintro e w38 ⟨rfl, hb⟩; refine ⟨_, rfl, ?_⟩; have n0_ := Aside0.mk (blk_below (g := gb146) (o := .cells #[.int .u64 a0_0, .int .u64 a0_1] 65 (0, 0)) (by exact BK146.out) hb); have n1_ := Aside0.mk (blk_below (g := gb147) (o := .cells #[.int .u64 a1_0, .int .u64 a1_1] 65 (0, 0)) (by exact BK147.out) hb); have n2_ := Aside0.mk (blk_below (g := gb148) (o := .cells #[.int .u64 0, .int .u64 0] 65 (0, 0)) (by exact BK148.out) hb); have n3_ := Aside0.mk (blk_below (g := gb149) (o := .cells #[.int .u64 0, .int .u64 0] 65 (0, 0)) (by exact BK149.out) hb); have n4_ := Aside0.mk (below_step (by repeat (first | (with_reducible first | exact HB.out | apply below_alloc | apply pw_below_drewN | apply below_drew1 | refine below_set ?_ GE146.out | refine below_set ?_ GE147.out | refine below_set ?_ GE148.out | refine below_set ?_ GE149.out) | exact HB.out)) hb); clear BK146; clear BK147; clear BK148; clear BK149; clear HB; have BK146 := n0_; have BK147 := n1_; have BK148 := n2_; have BK149 := n3_; have HB := n4_; clear n0_ n1_ n2_ n3_ n4_; (try clear hb); (try clear hb2); (try clear hk); (try clear hi)) | ((with_reducible refine gate_dst (N := 8) rfl ?_); refine box_event ?hg (N := 8) ?hd (cs := #[.int .u64 0, .int .u64 0]) (t := 65) ?hr ?_; (case hd => rfl); (case hg => rfl); (case hr => first | (go_simp; done) | (go_simp; rfl)); intro gb158 hg w39 hbox hb; have n0_ := Aside0.mk (blk_below (g := gb146) (o := .cells #[.int .u64 a0_0, .int .u64 a0_1] 65 (0, 0)) (by exact BK146.out) hb); have n1_ := Aside0.mk (blk_below (g := gb147) (o := .cells #[.int .u64 a1_0, .int .u64 a1_1] 65 (0, 0)) (by exact BK147.out) hb); have n2_ := Aside0.mk (blk_below (g := gb148) (o := .cells #[.int .u64 0, .int .u64 0] 65 (0, 0)) (by exact BK148.out) hb); have n3_ := Aside0.mk (blk_below (g := gb149) (o := .cells #[.int .u64 0, .int .u64 0] 65 (0, 0)) (by exact BK149.out) hb); have n4_ := Aside0.mk (below_step (by repeat (first | (with_reducible first | exact HB.out | apply below_alloc | apply pw_below_drewN | apply below_drew1 | refine below_set ?_ GE146.out | refine below_set ?_ GE147.out | refine below_set ?_ GE148.out | refine below_set ?_ GE149.out) | exact HB.out)) hb); have n5_ := Aside0.mk (hbox); have n6_ := Aside0.mk ((by rw [hg]; exact (below_size (by repeat (first | (with_reducible first | exact HB.out | apply below_alloc | apply pw_below_drewN | apply below_drew1 | refine below_set ?_ GE146.out | refine below_set ?_ GE147.out | refine below_set ?_ GE148.out | refine below_set ?_ GE149.out) | exact HB.out))) : w.heap.size ≤ gb158)); have n7_ := Aside0.mk ((by rw [hg]; exact (below_size (by repeat (first | (with_reducible first | exact HB.out | apply below_alloc | apply pw_below_drewN | apply below_drew1 | refine below_set ?_ GE146.out | refine below_set ?_ GE147.out | refine below_set ?_ GE148.out | refine below_set ?_ GE149.out) | exact HB.out))) : w.heap.size ≤ gb158)); have n8_ := Aside0.mk ((by rw [hg]; exact Nat.ne_of_lt (blk_lt (g := gb146) (o := .cells #[.int .u64 a0_0, .int .u64 a0_1] 65 (0, 0)) (by exact BK146.out)) : gb146 ≠ gb158)); have n9_ := Aside0.mk ((by rw [hg]; exact Nat.ne_of_gt (blk_lt (g := gb146) (o := .cells #[.int .u64 a0_0, .int .u64 a0_1] 65 (0, 0)) (by exact BK146.out)) : gb158 ≠ gb146)); have n10_ := Aside0.mk ((by rw [hg]; exact Nat.ne_of_lt (blk_lt (g := gb147) (o := .cells #[.int .u64 a1_0, .int .u64 a1_1] 65 (0, 0)) (by exact BK147.out)) : gb147 ≠ gb158)); have n11_ := Aside0.mk ((by rw [hg]; exact Nat.ne_of_gt (blk_lt (g := gb147) (o := .cells #[.int .u64 a1_0, .int .u64 a1_1] 65 (0, 0)) (by exact BK147.out)) : gb158 ≠ gb147)); have n12_ := Aside0.mk ((by rw [hg]; exact Nat.ne_of_lt (blk_lt (g := gb148) (o := .cells #[.int .u64 0, .int .u64 0] 65 (0, 0)) (by exact BK148.out)) : gb148 ≠ gb158)); have n13_ := Aside0.mk ((by rw [hg]; exact Nat.ne_of_gt (blk_lt (g := gb148) (o := .cells #[.int .u64 0, .int .u64 0] 65 (0, 0)) (by exact BK148.out)) : gb158 ≠ gb148)); have n14_ := Aside0.mk ((by rw [hg]; exact Nat.ne_of_lt (blk_lt (g := gb149) (o := .cells #[.int .u64 0, .int .u64 0] 65 (0, 0)) (by exact BK149.out)) : gb149 ≠ gb158)); have n15_ := Aside0.mk ((by rw [hg]; exact Nat.ne_of_gt (blk_lt (g := gb149) (o := .cells #[.int .u64 0, .int .u64 0] 65 (0, 0)) (by exact BK149.out)) : gb158 ≠ gb149)); clear BK146; clear BK147; clear BK148; clear BK149; clear HB; have BK146 := n0_; have BK147 := n1_; have BK148 := n2_; have BK149 := n3_; have HB := n4_; have BK158 := n5_; have GW158 := n6_; have GE158 := n7_; have NB146_158 := n8_; have NB158_146 := n9_; have NB147_158 := n10_; have NB158_147 := n11_; have NB148_158 := n12_; have NB158_148 := n13_; have NB149_158 := n14_; have NB158_149 := n15_; clear n0_ n1_ n2_ n3_ n4_ n5_ n6_ n7_ n8_ n9_ n10_ n11_ n12_ n13_ n14_ n15_; clear hb hbox hg; have hnb40 := NB158_146.out; have hnc40 := NB146_158.out; have hnb41 := NB158_147.out; have hnc41 := NB147_158.out; have hnb42 := NB158_148.out; have hnc42 := NB148_158.out; have hnb43 := NB158_149.out; have hnc43 := NB149_158.out; have hcz44_0 : w39.cell? ⟨gb158, 0, none⟩ = some (.int .u64 0) := (blk_cell BK158.out 0).trans rfl; have hcz44_1 : w39.cell? ⟨gb158, 1, none⟩ = some (.int .u64 0) := (blk_cell BK158.out 1).trans rfl; have hfz44_0 := blk_frozen BK158.out 0; have hfz44_1 := blk_frozen BK158.out 1; have hnb45 := NB146_148.out; have hnc45 := NB148_146.out; have hnb46 := NB146_149.out; have hnc46 := NB149_146.out; have hcz47_0 : w39.cell? ⟨gb146, 0, none⟩ = some (.int .u64 a0_0) := (blk_cell BK146.out 0).trans rfl; have hcz47_1 : w39.cell? ⟨gb146, 1, none⟩ = some (.int .u64 a0_1) := (blk_cell BK146.out 1).trans rfl; have hfz47_0 := blk_frozen BK146.out 0; have hfz47_1 := blk_frozen BK146.out 1) | ((with_reducible refine gate_callee (f := 94) rfl ?_); refine goesL_ (some 32) rfl rfl Tryd.func94 (by kernel_rfl) rfl #[.agg #[.int .u64 a0_0, .int .u64 a0_1], .int .u64 1] rfl (by (try simp only [List.map_toArray, List.map_cons, List.map_nil]); first | done | rfl | (simp only [List.length_drop, List.length_take]; rfl)) ?_; (with_reducible refine (uint128_Uint128_Rsh.calls a0_0 a0_1 1 t159 t160 _ A24.out).mono ?_); rintro e w48 ⟨rfl, hb⟩; refine ⟨_, rfl, ?_⟩; have n0_ := Aside0.mk (blk_below (g := gb146) (o := .cells #[.int .u64 a0_0, .int .u64 a0_1] 65 (0, 0)) (by (with_reducible repeat (first | refine blk_drewN ?_ _ | refine blk_drew ?_ | refine blk_alloc ?_ _)); refine blk_far ?_ NB146_158.out _; (with_reducible repeat (first | refine blk_drewN ?_ _ | refine blk_drew ?_ | refine blk_alloc ?_ _)); refine blk_far ?_ NB146_158.out _; (with_reducible repeat (first | refine blk_drewN ?_ _ | refine blk_drew ?_ | refine blk_alloc ?_ _)); exact BK146.out) hb); have n1_ := Aside0.mk (blk_below (g := gb147) (o := .cells #[.int .u64 a1_0, .int .u64 a1_1] 65 (0, 0)) (by (with_reducible repeat (first | refine blk_drewN ?_ _ | refine blk_drew ?_ | refine blk_alloc ?_ _)); refine blk_far ?_ NB147_158.out _; (with_reducible repeat (first | refine blk_drewN ?_ _ | refine blk_drew ?_ | refine blk_alloc ?_ _)); refine blk_far ?_ NB147_158.out _; (with_reducible repeat (first | refine blk_drewN ?_ _ | refine blk_drew ?_ | refine blk_alloc ?_ _)); exact BK147.out) hb); have n2_ := Aside0.mk (blk_below (g := gb148) (o := .cells #[.int .u64 0, .int .u64 0] 65 (0, 0)) (by (with_reducible repeat (first | refine blk_drewN ?_ _ | refine blk_drew ?_ | refine blk_alloc ?_ _)); refine blk_far ?_ NB148_158.out _; (with_reducible repeat (first | refine blk_drewN ?_ _ | refine blk_drew ?_ | refine blk_alloc ?_ _)); refine blk_far ?_ NB148_158.out _; (with_reducible repeat (first | refine blk_drewN ?_ _ | refine blk_drew ?_ | refine blk_alloc ?_ _)); exact BK148.out) hb); have n3_ := Aside0.mk (blk_below (g := gb149) (o := .cells #[.int .u64 0, .int .u64 0] 65 (0, 0)) (by (with_reducible repeat (first | refine blk_drewN ?_ _ | refine blk_drew ?_ | refine blk_alloc ?_ _)); refine blk_far ?_ NB149_158.out _; (with_reducible repeat (first | refine blk_drewN ?_ _ | refine blk_drew ?_ | refine blk_alloc ?_ _)); refine blk_far ?_ NB149_158.out _; (with_reducible repeat (first | refine blk_drewN ?_ _ | refine blk_drew ?_ | refine blk_alloc ?_ _)); exact BK149.out) hb); have n4_ := Aside0.mk (blk_below (g := gb158) (o := .cells #[.int .u64 t156, .int .u64 t157] 65 (0, 0)) (by (with_reducible repeat (first | refine blk_drewN ?_ _ | refine blk_drew ?_ | refine blk_alloc ?_ _)); refine blk_put (cs := #[.int .u64 t156, .int .u64 0]) ?_ 1 _ rfl; (with_reducible repeat (first | refine blk_drewN ?_ _ | refine blk_drew ?_ | refine blk_alloc ?_ _)); refine blk_put (cs := #[.int .u64 0, .int .u64 0]) ?_ 0 _ rfl; (with_reducible repeat (first | refine blk_drewN ?_ _ | refine blk_drew ?_ | refine blk_alloc ?_ _)); exact BK158.out) hb); have n5_ := Aside0.mk (below_step (by repeat (first | (with_reducible first | exact HB.out | apply below_alloc | apply pw_below_drewN | apply below_drew1 | refine below_set ?_ GE146.out | refine below_set ?_ GE147.out | refine below_set ?_ GE148.out | refine below_set ?_ GE149.out | refine below_set ?_ GE158.out) | exact HB.out)) hb); clear BK146; clear BK147; clear BK148; clear BK149; clear BK158; clear HB; have BK146 := n0_; have BK147 := n1_; have BK148 := n2_; have BK149 := n3_; have BK158 := n4_; have HB := n5_; clear n0_ n1_ n2_ n3_ n4_ n5_; (try clear hb); (try clear hb2); (try clear hk); (try clear hi)) | ((with_reducible refine gate_dst (N := 9) rfl ?_); refine box_event ?hg (N := 9) ?hd (cs := #[.int .u64 0, .int .u64 0]) (t := 65) ?hr ?_; (case hd => rfl); (case hg => rfl); (case hr => first | (go_simp; done) | (go_simp; rfl)); intro gb161 hg w49 hbox hb; have n0_ := Aside0.mk (blk_below (g := gb146) (o := .cells #[.int .u64 a0_0, .int .u64 a0_1] 65 (0, 0)) (by exact BK146.out) hb); have n1_ := Aside0.mk (blk_below (g := gb147) (o := .cells #[.int .u64 a1_0, .int .u64 a1_1] 65 (0, 0)) (by exact BK147.out) hb); have n2_ := Aside0.mk (blk_below (g := gb148) (o := .cells #[.int .u64 0, .int .u64 0] 65 (0, 0)) (by exact BK148.out) hb); have n3_ := Aside0.mk (blk_below (g := gb149) (o := .cells #[.int .u64 0, .int .u64 0] 65 (0, 0)) (by exact BK149.out) hb); have n4_ := Aside0.mk (blk_below (g := gb158) (o := .cells #[.int .u64 t156, .int .u64 t157] 65 (0, 0)) (by exact BK158.out) hb); have n5_ := Aside0.mk (below_step (by repeat (first | (with_reducible first | exact HB.out | apply below_alloc | apply pw_below_drewN | apply below_drew1 | refine below_set ?_ GE146.out | refine below_set ?_ GE147.out | refine below_set ?_ GE148.out | refine below_set ?_ GE149.out | refine below_set ?_ GE158.out) | exact HB.out)) hb); have n6_ := Aside0.mk (hbox); have n7_ := Aside0.mk ((by rw [hg]; exact (below_size (by repeat (first | (with_reducible first | exact HB.out | apply below_alloc | apply pw_below_drewN | apply below_drew1 | refine below_set ?_ GE146.out | refine below_set ?_ GE147.out | refine below_set ?_ GE148.out | refine below_set ?_ GE149.out | refine below_set ?_ GE158.out) | exact HB.out))) : w.heap.size ≤ gb161)); have n8_ := Aside0.mk ((by rw [hg]; exact (below_size (by repeat (first | (with_reducible first | exact HB.out | apply below_alloc | apply pw_below_drewN | apply below_drew1 | refine below_set ?_ GE146.out | refine below_set ?_ GE147.out | refine below_set ?_ GE148.out | refine below_set ?_ GE149.out | refine below_set ?_ GE158.out) | exact HB.out))) : w.heap.size ≤ gb161)); have n9_ := Aside0.mk ((by rw [hg]; exact Nat.ne_of_lt (blk_lt (g := gb146) (o := .cells #[.int .u64 a0_0, .int .u64 a0_1] 65 (0, 0)) (by exact BK146.out)) : gb146 ≠ gb161)); have n10_ := Aside0.mk ((by rw [hg]; exact Nat.ne_of_gt (blk_lt (g := gb146) (o := .cells #[.int .u64 a0_0, .int .u64 a0_1] 65 (0, 0)) (by exact BK146.out)) : gb161 ≠ gb146)); have n11_ := Aside0.mk ((by rw [hg]; exact Nat.ne_of_lt (blk_lt (g := gb147) (o := .cells #[.int .u64 a1_0, .int .u64 a1_1] 65 (0, 0)) (by exact BK147.out)) : gb147 ≠ gb161)); have n12_ := Aside0.mk ((by rw [hg]; exact Nat.ne_of_gt (blk_lt (g := gb147) (o := .cells #[.int .u64 a1_0, .int .u64 a1_1] 65 (0, 0)) (by exact BK147.out)) : gb161 ≠ gb147)); have n13_ := Aside0.mk ((by rw [hg]; exact Nat.ne_of_lt (blk_lt (g := gb148) (o := .cells #[.int .u64 0, .int .u64 0] 65 (0, 0)) (by exact BK148.out)) : gb148 ≠ gb161)); have n14_ := Aside0.mk ((by rw [hg]; exact Nat.ne_of_gt (blk_lt (g := gb148) (o := .cells #[.int .u64 0, .int .u64 0] 65 (0, 0)) (by exact BK148.out)) : gb161 ≠ gb148)); have n15_ := Aside0.mk ((by rw [hg]; exact Nat.ne_of_lt (blk_lt (g := gb149) (o := .cells #[.int .u64 0, .int .u64 0] 65 (0, 0)) (by exact BK149.out)) : gb149 ≠ gb161)); have n16_ := Aside0.mk ((by rw [hg]; exact Nat.ne_of_gt (blk_lt (g := gb149) (o := .cells #[.int .u64 0, .int .u64 0] 65 (0, 0)) (by exact BK149.out)) : gb161 ≠ gb149)); have n17_ := Aside0.mk ((by rw [hg]; exact Nat.ne_of_lt (blk_lt (g := gb158) (o := .cells #[.int .u64 t156, .int .u64 t157] 65 (0, 0)) (by exact BK158.out)) : gb158 ≠ gb161)); have n18_ := Aside0.mk ((by rw [hg]; exact Nat.ne_of_gt (blk_lt (g := gb158) (o := .cells #[.int .u64 t156, .int .u64 t157] 65 (0, 0)) (by exact BK158.out)) : gb161 ≠ gb158)); clear BK146; clear BK147; clear BK148; clear BK149; clear BK158; clear HB; have BK146 := n0_; have BK147 := n1_; have BK148 := n2_; have BK149 := n3_; have BK158 := n4_; have HB := n5_; have BK161 := n6_; have GW161 := n7_; have GE161 := n8_; have NB146_161 := n9_; have NB161_146 := n10_; have NB147_161 := n11_; have NB161_147 := n12_; have NB148_161 := n13_; have NB161_148 := n14_; have NB149_161 := n15_; have NB161_149 := n16_; have NB158_161 := n17_; have NB161_158 := n18_; clear n0_ n1_ n2_ n3_ n4_ n5_ n6_ n7_ n8_ n9_ n10_ n11_ n12_ n13_ n14_ n15_ n16_ n17_ n18_; clear hb hbox hg; have hnb50 := NB161_146.out; have hnc50 := NB146_161.out; have hnb51 := NB161_147.out; have hnc51 := NB147_161.out; have hnb52 := NB161_148.out; have hnc52 := NB148_161.out; have hnb53 := NB161_149.out; have hnc53 := NB149_161.out; have hnb54 := NB161_158.out; have hnc54 := NB158_161.out; have hcz55_0 : w49.cell? ⟨gb161, 0, none⟩ = some (.int .u64 0) := (blk_cell BK161.out 0).trans rfl; have hcz55_1 : w49.cell? ⟨gb161, 1, none⟩ = some (.int .u64 0) := (blk_cell BK161.out 1).trans rfl; have hfz55_0 := blk_frozen BK161.out 0; have hfz55_1 := blk_frozen BK161.out 1; have hcz56_0 : w49.cell? ⟨gb158, 0, none⟩ = some (.int .u64 t156) := (blk_cell BK158.out 0).trans rfl; have hcz56_1 : w49.cell? ⟨gb158, 1, none⟩ = some (.int .u64 t157) := (blk_cell BK158.out 1).trans rfl; have hfz56_0 := blk_frozen BK158.out 0; have hfz56_1 := blk_frozen BK158.out 1) | ((with_reducible refine gate_callee (f := 104) rfl ?_); refine goesL_ (some 40) rfl rfl Tryd.func104 (by kernel_rfl) rfl #[.int .u64 t160, .int .u64 t159, .int .u64 t157] rfl (by (try simp only [List.map_toArray, List.map_cons, List.map_nil]); first | done | rfl | (simp only [List.length_drop, List.length_take]; rfl)) ?_; (with_reducible refine (gobits_Div64.calls k t160 t159 t157 t162 t163 _ A25.out).mono ?_); rintro e w' ⟨rfl, ⟨nd, rfl⟩⟩; refine ⟨_, rfl, ?_⟩))
      (try simp only [Act.put, List.setIfInBounds_toArray, List.set_cons_zero, List.set_cons_succ])
      go_cut [10] (fun v10 wc => ∃ (kq : Nat) (x10_28 : Int), v10 = .int .u64 x10_28 ∧ Aside0 (uint128_Uint128_QuoRem.j0 kq x10_28 a0_0 a0_1 a1_0 a1_1 = some (r1, r2, r3, r4)) ∧ Aside0 (kq ≤ k) ∧ Aside0 (wc.heap[gb146]? = some (.cells #[.int .u64 a0_0, .int .u64 a0_1] 65 (0, 0))) ∧ Aside0 (wc.heap[gb147]? = some (.cells #[.int .u64 a1_0, .int .u64 a1_1] 65 (0, 0))) ∧ Aside0 (wc.heap[gb148]? = some (.cells #[.int .u64 0, .int .u64 0] 65 (0, 0))) ∧ Aside0 (wc.heap[gb149]? = some (.cells #[.int .u64 0, .int .u64 0] 65 (0, 0))) ∧ Aside0 (wc.heap[gb158]? = some (.cells #[.int .u64 t156, .int .u64 t157] 65 (0, 0))) ∧ Aside0 (wc.heap[gb161]? = some (.cells #[.int .u64 t159, .int .u64 t160] 65 (0, 0))) ∧ Aside0 (Below w.heap.size w wc))
      case first =>
        have H := HC29.out
        clear HC29
        by_cases c57 : (ji28) = 0
        · rw [if_pos c57] at H
          have c57b0 : ((ji28) == 0) = true := beq_iff_eq.mpr c57
          have c57b1 : ((ji28) != 0) = false := bne_eq_false_iff_eq.mpr c57
          clear c57
          (first | rw [c57b0] | (simp only [i64_w, i32_w]; rw [c57b0]) | skip)
          have H' := Aside0.mk H
          clear H
          go_wp2
          go_meet
          case rel => exact ⟨_, (ji28), (by first | rfl | (simp; done) | (simp only [← hji28] <;> (first | rfl | simp)) | (simp [*]; done)), H', ⟨by first | omega | exact Nat.le_refl _⟩, ⟨by (with_reducible repeat (first | refine blk_drewN ?_ _ | refine blk_drew ?_ | refine blk_alloc ?_ _)); refine blk_far ?_ NB146_161.out _; (with_reducible repeat (first | refine blk_drewN ?_ _ | refine blk_drew ?_ | refine blk_alloc ?_ _)); refine blk_far ?_ NB146_161.out _; (with_reducible repeat (first | refine blk_drewN ?_ _ | refine blk_drew ?_ | refine blk_alloc ?_ _)); exact BK146.out⟩, ⟨by (with_reducible repeat (first | refine blk_drewN ?_ _ | refine blk_drew ?_ | refine blk_alloc ?_ _)); refine blk_far ?_ NB147_161.out _; (with_reducible repeat (first | refine blk_drewN ?_ _ | refine blk_drew ?_ | refine blk_alloc ?_ _)); refine blk_far ?_ NB147_161.out _; (with_reducible repeat (first | refine blk_drewN ?_ _ | refine blk_drew ?_ | refine blk_alloc ?_ _)); exact BK147.out⟩, ⟨by (with_reducible repeat (first | refine blk_drewN ?_ _ | refine blk_drew ?_ | refine blk_alloc ?_ _)); refine blk_far ?_ NB148_161.out _; (with_reducible repeat (first | refine blk_drewN ?_ _ | refine blk_drew ?_ | refine blk_alloc ?_ _)); refine blk_far ?_ NB148_161.out _; (with_reducible repeat (first | refine blk_drewN ?_ _ | refine blk_drew ?_ | refine blk_alloc ?_ _)); exact BK148.out⟩, ⟨by (with_reducible repeat (first | refine blk_drewN ?_ _ | refine blk_drew ?_ | refine blk_alloc ?_ _)); refine blk_far ?_ NB149_161.out _; (with_reducible repeat (first | refine blk_drewN ?_ _ | refine blk_drew ?_ | refine blk_alloc ?_ _)); refine blk_far ?_ NB149_161.out _; (with_reducible repeat (first | refine blk_drewN ?_ _ | refine blk_drew ?_ | refine blk_alloc ?_ _)); exact BK149.out⟩, ⟨by (with_reducible repeat (first | refine blk_drewN ?_ _ | refine blk_drew ?_ | refine blk_alloc ?_ _)); refine blk_far ?_ NB158_161.out _; (with_reducible repeat (first | refine blk_drewN ?_ _ | refine blk_drew ?_ | refine blk_alloc ?_ _)); refine blk_far ?_ NB158_161.out _; (with_reducible repeat (first | refine blk_drewN ?_ _ | refine blk_drew ?_ | refine blk_alloc ?_ _)); exact BK158.out⟩, ⟨by (with_reducible repeat (first | refine blk_drewN ?_ _ | refine blk_drew ?_ | refine blk_alloc ?_ _)); refine blk_put (cs := #[.int .u64 t159, .int .u64 0]) ?_ 1 _ rfl; (with_reducible repeat (first | refine blk_drewN ?_ _ | refine blk_drew ?_ | refine blk_alloc ?_ _)); refine blk_put (cs := #[.int .u64 0, .int .u64 0]) ?_ 0 _ rfl; (with_reducible repeat (first | refine blk_drewN ?_ _ | refine blk_drew ?_ | refine blk_alloc ?_ _)); exact BK161.out⟩, ⟨by repeat (first | (with_reducible first | exact HB.out | apply below_alloc | apply pw_below_drewN | apply below_drew1 | refine below_set ?_ GE146.out | refine below_set ?_ GE147.out | refine below_set ?_ GE148.out | refine below_set ?_ GE149.out | refine below_set ?_ GE158.out | refine below_set ?_ GE161.out) | exact HB.out)⟩⟩
        · rw [if_neg c57] at H
          have c57b0 : ((ji28) == 0) = false := beq_eq_false_iff_ne.mpr c57
          have c57b1 : ((ji28) != 0) = true := bne_iff_ne.mpr c57
          (first | rw [c57b0] | (simp only [i64_w, i32_w]; rw [c57b0]) | skip)
          have H' := Aside0.mk H
          clear H
          go_wp2
          go_meet
          case rel => exact ⟨_, (IntKind.u64.wrap ((ji28) - 1)), (by first | rfl | (simp; done) | (simp only [← hji28] <;> (first | rfl | simp)) | (simp [*]; done)), H', ⟨by first | omega | exact Nat.le_refl _⟩, ⟨by (with_reducible repeat (first | refine blk_drewN ?_ _ | refine blk_drew ?_ | refine blk_alloc ?_ _)); refine blk_far ?_ NB146_161.out _; (with_reducible repeat (first | refine blk_drewN ?_ _ | refine blk_drew ?_ | refine blk_alloc ?_ _)); refine blk_far ?_ NB146_161.out _; (with_reducible repeat (first | refine blk_drewN ?_ _ | refine blk_drew ?_ | refine blk_alloc ?_ _)); exact BK146.out⟩, ⟨by (with_reducible repeat (first | refine blk_drewN ?_ _ | refine blk_drew ?_ | refine blk_alloc ?_ _)); refine blk_far ?_ NB147_161.out _; (with_reducible repeat (first | refine blk_drewN ?_ _ | refine blk_drew ?_ | refine blk_alloc ?_ _)); refine blk_far ?_ NB147_161.out _; (with_reducible repeat (first | refine blk_drewN ?_ _ | refine blk_drew ?_ | refine blk_alloc ?_ _)); exact BK147.out⟩, ⟨by (with_reducible repeat (first | refine blk_drewN ?_ _ | refine blk_drew ?_ | refine blk_alloc ?_ _)); refine blk_far ?_ NB148_161.out _; (with_reducible repeat (first | refine blk_drewN ?_ _ | refine blk_drew ?_ | refine blk_alloc ?_ _)); refine blk_far ?_ NB148_161.out _; (with_reducible repeat (first | refine blk_drewN ?_ _ | refine blk_drew ?_ | refine blk_alloc ?_ _)); exact BK148.out⟩, ⟨by (with_reducible repeat (first | refine blk_drewN ?_ _ | refine blk_drew ?_ | refine blk_alloc ?_ _)); refine blk_far ?_ NB149_161.out _; (with_reducible repeat (first | refine blk_drewN ?_ _ | refine blk_drew ?_ | refine blk_alloc ?_ _)); refine blk_far ?_ NB149_161.out _; (with_reducible repeat (first | refine blk_drewN ?_ _ | refine blk_drew ?_ | refine blk_alloc ?_ _)); exact BK149.out⟩, ⟨by (with_reducible repeat (first | refine blk_drewN ?_ _ | refine blk_drew ?_ | refine blk_alloc ?_ _)); refine blk_far ?_ NB158_161.out _; (with_reducible repeat (first | refine blk_drewN ?_ _ | refine blk_drew ?_ | refine blk_alloc ?_ _)); refine blk_far ?_ NB158_161.out _; (with_reducible repeat (first | refine blk_drewN ?_ _ | refine blk_drew ?_ | refine blk_alloc ?_ _)); exact BK158.out⟩, ⟨by (with_reducible repeat (first | refine blk_drewN ?_ _ | refine blk_drew ?_ | refine blk_alloc ?_ _)); refine blk_put (cs := #[.int .u64 t159, .int .u64 0]) ?_ 1 _ rfl; (with_reducible repeat (first | refine blk_drewN ?_ _ | refine blk_drew ?_ | refine blk_alloc ?_ _)); refine blk_put (cs := #[.int .u64 0, .int .u64 0]) ?_ 0 _ rfl; (with_reducible repeat (first | refine blk_drewN ?_ _ | refine blk_drew ?_ | refine blk_alloc ?_ _)); exact BK161.out⟩, ⟨by repeat (first | (with_reducible first | exact HB.out | apply below_alloc | apply pw_below_drewN | apply below_drew1 | refine below_set ?_ GE146.out | refine below_set ?_ GE147.out | refine below_set ?_ GE148.out | refine below_set ?_ GE149.out | refine below_set ?_ GE158.out | refine below_set ?_ GE161.out) | exact HB.out)⟩⟩
      case rest =>
        clear HC29
        try clear c1
        try clear c2
        try clear p2
        try clear c3
        try clear c3b0
        try clear c3b1
        try clear c4
        try clear c5
        try clear c6
        try clear c9
        try clear c10
        try clear c11
        try clear c12
        try clear c14
        try clear c15
        try clear c18
        try clear c27
        try clear c27b0
        try clear c27b1
        try clear c34
        try clear c35
        try clear c36
        try clear c40
        try clear c41
        try clear c42
        try clear c43
        try clear c45
        try clear c46
        try clear c50
        try clear c51
        try clear c52
        try clear c53
        try clear c54
        try clear c57
        try clear c57b0
        try clear c57b1
        try clear hcz13_0
        try clear hcz13_1
        try clear hcz16_0
        try clear hcz16_1
        try clear hcz19_0
        try clear hcz19_1
        try clear hcz21_0
        try clear hcz21_1
        try clear hcz37_0
        try clear hcz37_1
        try clear hcz44_0
        try clear hcz44_1
        try clear hcz47_0
        try clear hcz47_1
        try clear hcz55_0
        try clear hcz55_1
        try clear hcz56_0
        try clear hcz56_1
        try clear hfz13_0
        try clear hfz13_1
        try clear hfz16_0
        try clear hfz16_1
        try clear hfz19_0
        try clear hfz19_1
        try clear hfz21_0
        try clear hfz21_1
        try clear hfz37_0
        try clear hfz37_1
        try clear hfz44_0
        try clear hfz44_1
        try clear hfz47_0
        try clear hfz47_1
        try clear hfz55_0
        try clear hfz55_1
        try clear hfz56_0
        try clear hfz56_1
        obtain ⟨kq, x10_28, rfl, HA, HJ28, BK146, BK147, BK148, BK149, BK158, BK161, HB⟩ := hcut
        cases kq with
        | zero => exact absurd HA.out (by simp [uint128_Uint128_QuoRem.j0])
        | succ kj28 =>
          have H := HA.out
          clear HA
          simp only [uint128_Uint128_QuoRem.j0] at H
          replace H := Option.bind_eq_some_iff.mp H
          obtain ⟨⟨t164, t165⟩, A580, H⟩ := H
          replace H : ((uint128_Uint128_Mul64.f a1_0 a1_1 x10_28).bind fun bt166 => ((uint128_Uint128_Sub.f a0_0 a0_1 bt166.1 bt166.2).bind fun bt168 => ((uint128_Uint128_Cmp.f bt168.1 bt168.2 a1_0 a1_1).bind fun t170 => (if t170 ≥ 0 then ((uint128_Uint128_Add64.f t164 t165 1).bind fun bt171 => ((uint128_Uint128_Sub.f bt168.1 bt168.2 a1_0 a1_1).bind fun bt173 => (some (bt171.1, bt171.2, bt173.1, bt173.2)))) else (some (t164, t165, bt168.1, bt168.2)))))) = some (r1, r2, r3, r4) := H
          have A58 := Aside0.mk A580
          clear A580
          replace H := Option.bind_eq_some_iff.mp H
          obtain ⟨⟨t166, t167⟩, A590, H⟩ := H
          replace H : ((uint128_Uint128_Sub.f a0_0 a0_1 t166 t167).bind fun bt168 => ((uint128_Uint128_Cmp.f bt168.1 bt168.2 a1_0 a1_1).bind fun t170 => (if t170 ≥ 0 then ((uint128_Uint128_Add64.f t164 t165 1).bind fun bt171 => ((uint128_Uint128_Sub.f bt168.1 bt168.2 a1_0 a1_1).bind fun bt173 => (some (bt171.1, bt171.2, bt173.1, bt173.2)))) else (some (t164, t165, bt168.1, bt168.2))))) = some (r1, r2, r3, r4) := H
          have A59 := Aside0.mk A590
          clear A590
          replace H := Option.bind_eq_some_iff.mp H
          obtain ⟨⟨t168, t169⟩, A600, H⟩ := H
          replace H : ((uint128_Uint128_Cmp.f t168 t169 a1_0 a1_1).bind fun t170 => (if t170 ≥ 0 then ((uint128_Uint128_Add64.f t164 t165 1).bind fun bt171 => ((uint128_Uint128_Sub.f t168 t169 a1_0 a1_1).bind fun bt173 => (some (bt171.1, bt171.2, bt173.1, bt173.2)))) else (some (t164, t165, t168, t169)))) = some (r1, r2, r3, r4) := H
          have A60 := Aside0.mk A600
          clear A600
          replace H := Option.bind_eq_some_iff.mp H
          obtain ⟨t170, A610, H⟩ := H
          replace H : (if t170 ≥ 0 then ((uint128_Uint128_Add64.f t164 t165 1).bind fun bt171 => ((uint128_Uint128_Sub.f t168 t169 a1_0 a1_1).bind fun bt173 => (some (bt171.1, bt171.2, bt173.1, bt173.2)))) else (some (t164, t165, t168, t169))) = some (r1, r2, r3, r4) := H
          have A61 := Aside0.mk A610
          clear A610
          by_cases c62 : t170 ≥ 0
          · rw [if_pos c62] at H
            have c62b0 : decide (0 ≤ t170) = true := decide_eq_true c62
            clear c62
            replace H := Option.bind_eq_some_iff.mp H
            obtain ⟨⟨t171, t172⟩, A630, H⟩ := H
            replace H : ((uint128_Uint128_Sub.f t168 t169 a1_0 a1_1).bind fun bt173 => (some (t171, t172, bt173.1, bt173.2))) = some (r1, r2, r3, r4) := H
            have A63 := Aside0.mk A630
            clear A630
            replace H := Option.bind_eq_some_iff.mp H
            obtain ⟨⟨t173, t174⟩, A640, H⟩ := H
            replace H : (some (t171, t172, t173, t174)) = some (r1, r2, r3, r4) := H
            have A64 := Aside0.mk A640
            clear A640
            simp only [Option.some.injEq, Prod.mk.injEq] at H
            obtain ⟨rfl, rfl, rfl, rfl⟩ := H
            try go_wp2_with (first | ((with_reducible refine gate_callee (f := 42) rfl ?_); refine goesL_ (some 52) rfl rfl Tryd.func42 (by kernel_rfl) rfl #[.int .u64 x10_28] rfl (by (try simp only [List.map_toArray, List.map_cons, List.map_nil]); first | done | rfl | (simp only [List.length_drop, List.length_take]; rfl)) ?_; (with_reducible refine (uint128_From64.calls x10_28 t164 t165 _ A58.out).mono ?_); rintro e w65 ⟨rfl, hb⟩; refine ⟨_, rfl, ?_⟩; have n0_ := Aside0.mk (blk_below (g := gb146) (o := .cells #[.int .u64 a0_0, .int .u64 a0_1] 65 (0, 0)) (by exact BK146.out) hb); have n1_ := Aside0.mk (blk_below (g := gb147) (o := .cells #[.int .u64 a1_0, .int .u64 a1_1] 65 (0, 0)) (by exact BK147.out) hb); have n2_ := Aside0.mk (blk_below (g := gb148) (o := .cells #[.int .u64 0, .int .u64 0] 65 (0, 0)) (by exact BK148.out) hb); have n3_ := Aside0.mk (blk_below (g := gb149) (o := .cells #[.int .u64 0, .int .u64 0] 65 (0, 0)) (by exact BK149.out) hb); have n4_ := Aside0.mk (blk_below (g := gb158) (o := .cells #[.int .u64 t156, .int .u64 t157] 65 (0, 0)) (by exact BK158.out) hb); have n5_ := Aside0.mk (blk_below (g := gb161) (o := .cells #[.int .u64 t159, .int .u64 t160] 65 (0, 0)) (by exact BK161.out) hb); have n6_ := Aside0.mk (below_step (by repeat (first | (with_reducible first | exact HB.out | apply below_alloc | apply pw_below_drewN | apply below_drew1 | refine below_set ?_ GE146.out | refine below_set ?_ GE147.out | refine below_set ?_ GE148.out | refine below_set ?_ GE149.out | refine below_set ?_ GE158.out | refine below_set ?_ GE161.out) | exact HB.out)) hb); clear BK146; clear BK147; clear BK148; clear BK149; clear BK158; clear BK161; clear HB; have BK146 := n0_; have BK147 := n1_; have BK148 := n2_; have BK149 := n3_; have BK158 := n4_; have BK161 := n5_; have HB := n6_; clear n0_ n1_ n2_ n3_ n4_ n5_ n6_; (try clear hb); (try clear hb2); (try clear hk); (try clear hi); have hnb66 := NB148_146.out; have hnc66 := NB146_148.out; have hnb67 := NB148_147.out; have hnc67 := NB147_148.out; have hnb68 := NB148_149.out; have hnc68 := NB149_148.out; have hnb69 := NB148_158.out; have hnc69 := NB158_148.out; have hnb70 := NB148_161.out; have hnc70 := NB161_148.out; have hcz71_0 : w65.cell? ⟨gb148, 0, none⟩ = some (.int .u64 0) := (blk_cell BK148.out 0).trans rfl; have hcz71_1 : w65.cell? ⟨gb148, 1, none⟩ = some (.int .u64 0) := (blk_cell BK148.out 1).trans rfl; have hfz71_0 := blk_frozen BK148.out 0; have hfz71_1 := blk_frozen BK148.out 1))
            have n0_ : Aside0 (((w65.setCell ⟨gb148, 0, none⟩ (.int .u64 t164)).setCell ⟨gb148, 1, none⟩ (.int .u64 t165)).heap[gb146]? = some (.cells #[.int .u64 a0_0, .int .u64 a0_1] 65 (0, 0))) := ⟨by (with_reducible repeat (first | refine blk_drewN ?_ _ | refine blk_drew ?_ | refine blk_alloc ?_ _)); refine blk_far ?_ NB146_148.out _; (with_reducible repeat (first | refine blk_drewN ?_ _ | refine blk_drew ?_ | refine blk_alloc ?_ _)); refine blk_far ?_ NB146_148.out _; (with_reducible repeat (first | refine blk_drewN ?_ _ | refine blk_drew ?_ | refine blk_alloc ?_ _)); exact BK146.out⟩
            have n1_ : Aside0 (((w65.setCell ⟨gb148, 0, none⟩ (.int .u64 t164)).setCell ⟨gb148, 1, none⟩ (.int .u64 t165)).heap[gb147]? = some (.cells #[.int .u64 a1_0, .int .u64 a1_1] 65 (0, 0))) := ⟨by (with_reducible repeat (first | refine blk_drewN ?_ _ | refine blk_drew ?_ | refine blk_alloc ?_ _)); refine blk_far ?_ NB147_148.out _; (with_reducible repeat (first | refine blk_drewN ?_ _ | refine blk_drew ?_ | refine blk_alloc ?_ _)); refine blk_far ?_ NB147_148.out _; (with_reducible repeat (first | refine blk_drewN ?_ _ | refine blk_drew ?_ | refine blk_alloc ?_ _)); exact BK147.out⟩
            have n2_ : Aside0 (((w65.setCell ⟨gb148, 0, none⟩ (.int .u64 t164)).setCell ⟨gb148, 1, none⟩ (.int .u64 t165)).heap[gb148]? = some (.cells #[.int .u64 t164, .int .u64 t165] 65 (0, 0))) := ⟨by (with_reducible repeat (first | refine blk_drewN ?_ _ | refine blk_drew ?_ | refine blk_alloc ?_ _)); refine blk_put (cs := #[.int .u64 t164, .int .u64 0]) ?_ 1 _ rfl; (with_reducible repeat (first | refine blk_drewN ?_ _ | refine blk_drew ?_ | refine blk_alloc ?_ _)); refine blk_put (cs := #[.int .u64 0, .int .u64 0]) ?_ 0 _ rfl; (with_reducible repeat (first | refine blk_drewN ?_ _ | refine blk_drew ?_ | refine blk_alloc ?_ _)); exact BK148.out⟩
            have n3_ : Aside0 (((w65.setCell ⟨gb148, 0, none⟩ (.int .u64 t164)).setCell ⟨gb148, 1, none⟩ (.int .u64 t165)).heap[gb149]? = some (.cells #[.int .u64 0, .int .u64 0] 65 (0, 0))) := ⟨by (with_reducible repeat (first | refine blk_drewN ?_ _ | refine blk_drew ?_ | refine blk_alloc ?_ _)); refine blk_far ?_ NB149_148.out _; (with_reducible repeat (first | refine blk_drewN ?_ _ | refine blk_drew ?_ | refine blk_alloc ?_ _)); refine blk_far ?_ NB149_148.out _; (with_reducible repeat (first | refine blk_drewN ?_ _ | refine blk_drew ?_ | refine blk_alloc ?_ _)); exact BK149.out⟩
            have n4_ : Aside0 (((w65.setCell ⟨gb148, 0, none⟩ (.int .u64 t164)).setCell ⟨gb148, 1, none⟩ (.int .u64 t165)).heap[gb158]? = some (.cells #[.int .u64 t156, .int .u64 t157] 65 (0, 0))) := ⟨by (with_reducible repeat (first | refine blk_drewN ?_ _ | refine blk_drew ?_ | refine blk_alloc ?_ _)); refine blk_far ?_ NB158_148.out _; (with_reducible repeat (first | refine blk_drewN ?_ _ | refine blk_drew ?_ | refine blk_alloc ?_ _)); refine blk_far ?_ NB158_148.out _; (with_reducible repeat (first | refine blk_drewN ?_ _ | refine blk_drew ?_ | refine blk_alloc ?_ _)); exact BK158.out⟩
            have n5_ : Aside0 (((w65.setCell ⟨gb148, 0, none⟩ (.int .u64 t164)).setCell ⟨gb148, 1, none⟩ (.int .u64 t165)).heap[gb161]? = some (.cells #[.int .u64 t159, .int .u64 t160] 65 (0, 0))) := ⟨by (with_reducible repeat (first | refine blk_drewN ?_ _ | refine blk_drew ?_ | refine blk_alloc ?_ _)); refine blk_far ?_ NB161_148.out _; (with_reducible repeat (first | refine blk_drewN ?_ _ | refine blk_drew ?_ | refine blk_alloc ?_ _)); refine blk_far ?_ NB161_148.out _; (with_reducible repeat (first | refine blk_drewN ?_ _ | refine blk_drew ?_ | refine blk_alloc ?_ _)); exact BK161.out⟩
            have n6_ : Aside0 (Below w.heap.size w ((w65.setCell ⟨gb148, 0, none⟩ (.int .u64 t164)).setCell ⟨gb148, 1, none⟩ (.int .u64 t165))) := ⟨by repeat (first | (with_reducible first | exact HB.out | apply below_alloc | apply pw_below_drewN | apply below_drew1 | refine below_set ?_ GE146.out | refine below_set ?_ GE147.out | refine below_set ?_ GE148.out | refine below_set ?_ GE149.out | refine below_set ?_ GE158.out | refine below_set ?_ GE161.out) | exact HB.out)⟩
            (try clear BK146)
            (try clear BK147)
            (try clear BK148)
            (try clear BK149)
            (try clear BK158)
            (try clear BK161)
            (try clear HB)
            generalize ((w65.setCell ⟨gb148, 0, none⟩ (.int .u64 t164)).setCell ⟨gb148, 1, none⟩ (.int .u64 t165)) = w72 at n0_ n1_ n2_ n3_ n4_ n5_ n6_ ⊢
            have BK146 := n0_
            have BK147 := n1_
            have BK148 := n2_
            have BK149 := n3_
            have BK158 := n4_
            have BK161 := n5_
            have HB := n6_
            clear n0_ n1_ n2_ n3_ n4_ n5_ n6_
            have n0_ := Aside0.mk (blk_drew BK146.out)
            have n1_ := Aside0.mk (blk_drew BK147.out)
            have n2_ := Aside0.mk (blk_drew BK148.out)
            have n3_ := Aside0.mk (blk_drew BK149.out)
            have n4_ := Aside0.mk (blk_drew BK158.out)
            have n5_ := Aside0.mk (blk_drew BK161.out)
            have n6_ := Aside0.mk (below_drew1 HB.out)
            clear BK146
            clear BK147
            clear BK148
            clear BK149
            clear BK158
            clear BK161
            clear HB
            have BK146 := n0_
            have BK147 := n1_
            have BK148 := n2_
            have BK149 := n3_
            have BK158 := n4_
            have BK161 := n5_
            have HB := n6_
            clear n0_ n1_ n2_ n3_ n4_ n5_ n6_
            refine start_ (n := 6) (S := fun w' => w'.cell? ⟨gb146, 0, none⟩ = some (.int .u64 a0_0) ∧ w'.cell? ⟨gb146, 1, none⟩ = some (.int .u64 a0_1) ∧ w'.cell? ⟨gb147, 0, none⟩ = some (.int .u64 a1_0) ∧ w'.cell? ⟨gb147, 1, none⟩ = some (.int .u64 a1_1)) (ds := []) #[false, false, false, false, false, false] (by kernel_rfl) rfl rfl ⟨(blk_cell BK146.out 0).trans rfl, (blk_cell BK146.out 1).trans rfl, (blk_cell BK147.out 0).trans rfl, (blk_cell BK147.out 1).trans rfl⟩ (fun hHeld => ?_)
            generalize w72.drew = w73 at BK146 BK147 BK148 BK149 BK158 BK161 HB hHeld ⊢
            refine pure_ (i := 2) (N := some 55) (v := ?_) (a' := ?_) #[false, false, true, false, false, false] rfl rfl (by kernel_rfl) (fun _ _ _ h => h) (Or.inl ⟨by rfl, ?_⟩) ?_ ?_
            rotate_left
            · intro w'
              go_simp
              with_reducible rfl
            rotate_left
            · simp only [Act.put, List.setIfInBounds_toArray, List.set_cons_zero, List.set_cons_succ, i64_w, i32_w]
              rfl
            refine take_ (i := 0) (N := some 53) (v := ?_) (a' := ?_) #[true, false, true, false, false, false] rfl rfl (by kernel_rfl) (fun _ _ _ h => h) (Or.inl ⟨by rfl, ?_⟩) hHeld ?_ ?_
            rotate_left
            · rintro w' ⟨s0, s1, s2, s3⟩
              go_simp
              with_reducible rfl
            rotate_left
            · simp only [Act.put, List.setIfInBounds_toArray, List.set_cons_zero, List.set_cons_succ, i64_w, i32_w]
              rfl
            refine take_ (i := 1) (N := some 54) (v := ?_) (a' := ?_) #[true, true, true, false, false, false] rfl rfl (by kernel_rfl) (fun _ _ _ h => h) (Or.inl ⟨by rfl, ?_⟩) hHeld ?_ ?_
            rotate_left
            · rintro w' ⟨s0, s1, s2, s3⟩
              go_simp
              with_reducible rfl
            rotate_left
            · simp only [Act.put, List.setIfInBounds_toArray, List.set_cons_zero, List.set_cons_succ, i64_w, i32_w]
              rfl
            refine one_ (i := 3) (N := some 56) #[true, true, true, true, false, false] rfl rfl (by kernel_rfl) (by decide) (fun K hK => ?_)
            refine goes_ Tryd.func108 (by kernel_rfl) rfl #[.agg #[.int .u64 a1_0, .int .u64 a1_1], .int .u64 x10_28] (by rfl) rfl rfl (by (try simp only [List.map_toArray, List.map_cons, List.map_nil]); first | done | rfl | (simp only [List.length_drop, List.length_take]; rfl)) ?_
            with_reducible refine (uint128_Uint128_Mul64.calls a1_0 a1_1 x10_28 t166 t167 _ A59.out).mono ?_
            rintro e w74 ⟨rfl, hb⟩
            refine ⟨_, rfl, ?_⟩
            have n0_ := Aside0.mk (blk_below (g := gb146) (o := .cells #[.int .u64 a0_0, .int .u64 a0_1] 65 (0, 0)) (by exact BK146.out) hb)
            have n1_ := Aside0.mk (blk_below (g := gb147) (o := .cells #[.int .u64 a1_0, .int .u64 a1_1] 65 (0, 0)) (by exact BK147.out) hb)
            have n2_ := Aside0.mk (blk_below (g := gb148) (o := .cells #[.int .u64 t164, .int .u64 t165] 65 (0, 0)) (by exact BK148.out) hb)
            have n3_ := Aside0.mk (blk_below (g := gb149) (o := .cells #[.int .u64 0, .int .u64 0] 65 (0, 0)) (by exact BK149.out) hb)
            have n4_ := Aside0.mk (blk_below (g := gb158) (o := .cells #[.int .u64 t156, .int .u64 t157] 65 (0, 0)) (by exact BK158.out) hb)
            have n5_ := Aside0.mk (blk_below (g := gb161) (o := .cells #[.int .u64 t159, .int .u64 t160] 65 (0, 0)) (by exact BK161.out) hb)
            have n6_ := Aside0.mk (below_step (by repeat (first | (with_reducible first | exact HB.out | apply below_alloc | apply pw_below_drewN | apply below_drew1 | refine below_set ?_ GE146.out | refine below_set ?_ GE147.out | refine below_set ?_ GE148.out | refine below_set ?_ GE149.out | refine below_set ?_ GE158.out | refine below_set ?_ GE161.out) | exact HB.out)) hb)
            clear BK146
            clear BK147
            clear BK148
            clear BK149
            clear BK158
            clear BK161
            clear HB
            have BK146 := n0_
            have BK147 := n1_
            have BK148 := n2_
            have BK149 := n3_
            have BK158 := n4_
            have BK161 := n5_
            have HB := n6_
            clear n0_ n1_ n2_ n3_ n4_ n5_ n6_
            (try clear hb)
            (try clear hb2)
            (try clear hk)
            (try clear hi)
            refine hK.out _ _ ⟨(blk_cell BK146.out 0).trans rfl, (blk_cell BK146.out 1).trans rfl, (blk_cell BK147.out 0).trans rfl, (blk_cell BK147.out 1).trans rfl⟩ (fun hHeld => ?_)
            clear hK K
            refine norm_ (a' := ?_) ?_ ?_
            rotate_left
            · show Act.put _ (some 56) _ = _
              simp only [Act.put, List.setIfInBounds_toArray, List.set_cons_zero, List.set_cons_succ, i64_w, i32_w]
              rfl
            refine one_ (i := 4) (N := some 57) #[true, true, true, true, true, false] rfl rfl (by kernel_rfl) (by decide) (fun K hK => ?_)
            refine goes_ Tryd.func107 (by kernel_rfl) rfl #[.agg #[.int .u64 a0_0, .int .u64 a0_1], .agg #[.int .u64 t166, .int .u64 t167]] (by rfl) rfl rfl (by (try simp only [List.map_toArray, List.map_cons, List.map_nil]); first | done | rfl | (simp only [List.length_drop, List.length_take]; rfl)) ?_
            with_reducible refine (uint128_Uint128_Sub.calls a0_0 a0_1 t166 t167 t168 t169 _ A60.out).mono ?_
            rintro e w75 ⟨rfl, hb⟩
            refine ⟨_, rfl, ?_⟩
            have n0_ := Aside0.mk (blk_below (g := gb146) (o := .cells #[.int .u64 a0_0, .int .u64 a0_1] 65 (0, 0)) (by exact BK146.out) hb)
            have n1_ := Aside0.mk (blk_below (g := gb147) (o := .cells #[.int .u64 a1_0, .int .u64 a1_1] 65 (0, 0)) (by exact BK147.out) hb)
            have n2_ := Aside0.mk (blk_below (g := gb148) (o := .cells #[.int .u64 t164, .int .u64 t165] 65 (0, 0)) (by exact BK148.out) hb)
            have n3_ := Aside0.mk (blk_below (g := gb149) (o := .cells #[.int .u64 0, .int .u64 0] 65 (0, 0)) (by exact BK149.out) hb)
            have n4_ := Aside0.mk (blk_below (g := gb158) (o := .cells #[.int .u64 t156, .int .u64 t157] 65 (0, 0)) (by exact BK158.out) hb)
            have n5_ := Aside0.mk (blk_below (g := gb161) (o := .cells #[.int .u64 t159, .int .u64 t160] 65 (0, 0)) (by exact BK161.out) hb)
            have n6_ := Aside0.mk (below_step (by repeat (first | (with_reducible first | exact HB.out | apply below_alloc | apply pw_below_drewN | apply below_drew1 | refine below_set ?_ GE146.out | refine below_set ?_ GE147.out | refine below_set ?_ GE148.out | refine below_set ?_ GE149.out | refine below_set ?_ GE158.out | refine below_set ?_ GE161.out) | exact HB.out)) hb)
            clear BK146
            clear BK147
            clear BK148
            clear BK149
            clear BK158
            clear BK161
            clear HB
            have BK146 := n0_
            have BK147 := n1_
            have BK148 := n2_
            have BK149 := n3_
            have BK158 := n4_
            have BK161 := n5_
            have HB := n6_
            clear n0_ n1_ n2_ n3_ n4_ n5_ n6_
            (try clear hb)
            (try clear hb2)
            (try clear hk)
            (try clear hi)
            refine hK.out _ _ ⟨(blk_cell BK146.out 0).trans rfl, (blk_cell BK146.out 1).trans rfl, (blk_cell BK147.out 0).trans rfl, (blk_cell BK147.out 1).trans rfl⟩ (fun hHeld => ?_)
            clear hK K
            refine norm_ (a' := ?_) ?_ ?_
            rotate_left
            · show Act.put _ (some 57) _ = _
              simp only [Act.put, List.setIfInBounds_toArray, List.set_cons_zero, List.set_cons_succ, i64_w, i32_w]
              rfl
            refine one_ (i := 5) (N := none) #[true, true, true, true, true, true] rfl rfl (by kernel_rfl) (by decide) (fun K hK => ?_)
            have hs76 : w75.cell? ⟨gb149, 0, none⟩ = some (.int .u64 0) := (blk_cell BK149.out 0).trans rfl
            have hfs76 := blk_frozen BK149.out 0
            have hns76_0 := NB146_149.out
            have hns76_1 := NB147_149.out
            have hns76_2 := NB148_149.out
            have hns76_4 := NB158_149.out
            have hns76_5 := NB161_149.out
            have hms76_0 := NB149_146.out
            have hms76_1 := NB149_147.out
            have hms76_2 := NB149_148.out
            have hms76_4 := NB149_158.out
            have hms76_5 := NB149_161.out
            have hs77 : w75.cell? ⟨gb149, 1, none⟩ = some (.int .u64 0) := (blk_cell BK149.out 1).trans rfl
            have hfs77 := blk_frozen BK149.out 1
            have hns77_0 := NB146_149.out
            have hns77_1 := NB147_149.out
            have hns77_2 := NB148_149.out
            have hns77_4 := NB158_149.out
            have hns77_5 := NB161_149.out
            have hms77_0 := NB149_146.out
            have hms77_1 := NB149_147.out
            have hms77_2 := NB149_148.out
            have hms77_4 := NB149_158.out
            have hms77_5 := NB149_161.out
            refine skip_ (w1 := ?_) (by rfl) rfl ?_ ?_
            rotate_left
            · go_simp
              rfl
            refine hK.out _ _ ⟨((cell_far (p := ⟨gb149, _, none⟩) NB146_149.out _).trans (((cell_far (p := ⟨gb149, _, none⟩) NB146_149.out _).trans (hHeld.1)))), ((cell_far (p := ⟨gb149, _, none⟩) NB146_149.out _).trans (((cell_far (p := ⟨gb149, _, none⟩) NB146_149.out _).trans (hHeld.2.1)))), ((cell_far (p := ⟨gb149, _, none⟩) NB147_149.out _).trans (((cell_far (p := ⟨gb149, _, none⟩) NB147_149.out _).trans (hHeld.2.2.1)))), ((cell_far (p := ⟨gb149, _, none⟩) NB147_149.out _).trans (((cell_far (p := ⟨gb149, _, none⟩) NB147_149.out _).trans (hHeld.2.2.2))))⟩ (fun hHeld => ?_)
            clear hK K
            refine done_ (by kernel_rfl) ?_
            have hnb78 := NB149_146.out
            have hnc78 := NB146_149.out
            have hnb79 := NB149_147.out
            have hnc79 := NB147_149.out
            have hnb80 := NB149_158.out
            have hnc80 := NB158_149.out
            have hnb81 := NB149_161.out
            have hnc81 := NB161_149.out
            have hcz82_0 : w75.cell? ⟨gb149, 0, none⟩ = some (.int .u64 0) := (blk_cell BK149.out 0).trans rfl
            have hcz82_1 : w75.cell? ⟨gb149, 1, none⟩ = some (.int .u64 0) := (blk_cell BK149.out 1).trans rfl
            have hfz82_0 := blk_frozen BK149.out 0
            have hfz82_1 := blk_frozen BK149.out 1
            have hnb83 := NB147_146.out
            have hnc83 := NB146_147.out
            have hnb84 := NB147_158.out
            have hnc84 := NB158_147.out
            have hnb85 := NB147_161.out
            have hnc85 := NB161_147.out
            have hcz86_0 : w75.cell? ⟨gb147, 0, none⟩ = some (.int .u64 a1_0) := (blk_cell BK147.out 0).trans rfl
            have hcz86_1 : w75.cell? ⟨gb147, 1, none⟩ = some (.int .u64 a1_1) := (blk_cell BK147.out 1).trans rfl
            have hfz86_0 := blk_frozen BK147.out 0
            have hfz86_1 := blk_frozen BK147.out 1
            try go_wp2_with (first | ((with_reducible refine gate_callee (f := 73) rfl ?_); refine goesL_ (some 60) rfl rfl Tryd.func73 (by kernel_rfl) rfl #[.agg #[.int .u64 t168, .int .u64 t169], .agg #[.int .u64 a1_0, .int .u64 a1_1]] rfl (by (try simp only [List.map_toArray, List.map_cons, List.map_nil]); first | done | rfl | (simp only [List.length_drop, List.length_take]; rfl)) ?_; (with_reducible refine (uint128_Uint128_Cmp.calls t168 t169 a1_0 a1_1 t170 _ A61.out).mono ?_); rintro e w87 ⟨rfl, hb⟩; refine ⟨_, rfl, ?_⟩; have n0_ := Aside0.mk (blk_below (g := gb146) (o := .cells #[.int .u64 a0_0, .int .u64 a0_1] 65 (0, 0)) (by (with_reducible repeat (first | refine blk_drewN ?_ _ | refine blk_drew ?_ | refine blk_alloc ?_ _)); refine blk_far ?_ NB146_149.out _; (with_reducible repeat (first | refine blk_drewN ?_ _ | refine blk_drew ?_ | refine blk_alloc ?_ _)); refine blk_far ?_ NB146_149.out _; (with_reducible repeat (first | refine blk_drewN ?_ _ | refine blk_drew ?_ | refine blk_alloc ?_ _)); exact BK146.out) hb); have n1_ := Aside0.mk (blk_below (g := gb147) (o := .cells #[.int .u64 a1_0, .int .u64 a1_1] 65 (0, 0)) (by (with_reducible repeat (first | refine blk_drewN ?_ _ | refine blk_drew ?_ | refine blk_alloc ?_ _)); refine blk_far ?_ NB147_149.out _; (with_reducible repeat (first | refine blk_drewN ?_ _ | refine blk_drew ?_ | refine blk_alloc ?_ _)); refine blk_far ?_ NB147_149.out _; (with_reducible repeat (first | refine blk_drewN ?_ _ | refine blk_drew ?_ | refine blk_alloc ?_ _)); exact BK147.out) hb); have n2_ := Aside0.mk (blk_below (g := gb148) (o := .cells #[.int .u64 t164, .int .u64 t165] 65 (0, 0)) (by (with_reducible repeat (first | refine blk_drewN ?_ _ | refine blk_drew ?_ | refine blk_alloc ?_ _)); refine blk_far ?_ NB148_149.out _; (with_reducible repeat (first | refine blk_drewN ?_ _ | refine blk_drew ?_ | refine blk_alloc ?_ _)); refine blk_far ?_ NB148_149.out _; (with_reducible repeat (first | refine blk_drewN ?_ _ | refine blk_drew ?_ | refine blk_alloc ?_ _)); exact BK148.out) hb); have n3_ := Aside0.mk (blk_below (g := gb149) (o := .cells #[.int .u64 t168, .int .u64 t169] 65 (0, 0)) (by (with_reducible repeat (first | refine blk_drewN ?_ _ | refine blk_drew ?_ | refine blk_alloc ?_ _)); refine blk_put (cs := #[.int .u64 t168, .int .u64 0]) ?_ 1 _ rfl; (with_reducible repeat (first | refine blk_drewN ?_ _ | refine blk_drew ?_ | refine blk_alloc ?_ _)); refine blk_put (cs := #[.int .u64 0, .int .u64 0]) ?_ 0 _ rfl; (with_reducible repeat (first | refine blk_drewN ?_ _ | refine blk_drew ?_ | refine blk_alloc ?_ _)); exact BK149.out) hb); have n4_ := Aside0.mk (blk_below (g := gb158) (o := .cells #[.int .u64 t156, .int .u64 t157] 65 (0, 0)) (by (with_reducible repeat (first | refine blk_drewN ?_ _ | refine blk_drew ?_ | refine blk_alloc ?_ _)); refine blk_far ?_ NB158_149.out _; (with_reducible repeat (first | refine blk_drewN ?_ _ | refine blk_drew ?_ | refine blk_alloc ?_ _)); refine blk_far ?_ NB158_149.out _; (with_reducible repeat (first | refine blk_drewN ?_ _ | refine blk_drew ?_ | refine blk_alloc ?_ _)); exact BK158.out) hb); have n5_ := Aside0.mk (blk_below (g := gb161) (o := .cells #[.int .u64 t159, .int .u64 t160] 65 (0, 0)) (by (with_reducible repeat (first | refine blk_drewN ?_ _ | refine blk_drew ?_ | refine blk_alloc ?_ _)); refine blk_far ?_ NB161_149.out _; (with_reducible repeat (first | refine blk_drewN ?_ _ | refine blk_drew ?_ | refine blk_alloc ?_ _)); refine blk_far ?_ NB161_149.out _; (with_reducible repeat (first | refine blk_drewN ?_ _ | refine blk_drew ?_ | refine blk_alloc ?_ _)); exact BK161.out) hb); have n6_ := Aside0.mk (below_step (by repeat (first | (with_reducible first | exact HB.out | apply below_alloc | apply pw_below_drewN | apply below_drew1 | refine below_set ?_ GE146.out | refine below_set ?_ GE147.out | refine below_set ?_ GE148.out | refine below_set ?_ GE149.out | refine below_set ?_ GE158.out | refine below_set ?_ GE161.out) | exact HB.out)) hb); clear BK146; clear BK147; clear BK148; clear BK149; clear BK158; clear BK161; clear HB; have BK146 := n0_; have BK147 := n1_; have BK148 := n2_; have BK149 := n3_; have BK158 := n4_; have BK161 := n5_; have HB := n6_; clear n0_ n1_ n2_ n3_ n4_ n5_ n6_; (try clear hb); (try clear hb2); (try clear hk); (try clear hi); have hcz88_0 : w87.cell? ⟨gb148, 0, none⟩ = some (.int .u64 t164) := (blk_cell BK148.out 0).trans rfl; have hcz88_1 : w87.cell? ⟨gb148, 1, none⟩ = some (.int .u64 t165) := (blk_cell BK148.out 1).trans rfl; have hfz88_0 := blk_frozen BK148.out 0; have hfz88_1 := blk_frozen BK148.out 1) | ((with_reducible refine gate_callee (f := 109) rfl ?_); refine goesL_ (some 63) rfl rfl Tryd.func109 (by kernel_rfl) rfl #[.agg #[.int .u64 t164, .int .u64 t165], .int .u64 1] rfl (by (try simp only [List.map_toArray, List.map_cons, List.map_nil]); first | done | rfl | (simp only [List.length_drop, List.length_take]; rfl)) ?_; (with_reducible refine (uint128_Uint128_Add64.calls t164 t165 1 t171 t172 _ A63.out).mono ?_); rintro e w89 ⟨rfl, hb⟩; refine ⟨_, rfl, ?_⟩; have n0_ := Aside0.mk (blk_below (g := gb146) (o := .cells #[.int .u64 a0_0, .int .u64 a0_1] 65 (0, 0)) (by exact BK146.out) hb); have n1_ := Aside0.mk (blk_below (g := gb147) (o := .cells #[.int .u64 a1_0, .int .u64 a1_1] 65 (0, 0)) (by exact BK147.out) hb); have n2_ := Aside0.mk (blk_below (g := gb148) (o := .cells #[.int .u64 t164, .int .u64 t165] 65 (0, 0)) (by exact BK148.out) hb); have n3_ := Aside0.mk (blk_below (g := gb149) (o := .cells #[.int .u64 t168, .int .u64 t169] 65 (0, 0)) (by exact BK149.out) hb); have n4_ := Aside0.mk (blk_below (g := gb158) (o := .cells #[.int .u64 t156, .int .u64 t157] 65 (0, 0)) (by exact BK158.out) hb); have n5_ := Aside0.mk (blk_below (g := gb161) (o := .cells #[.int .u64 t159, .int .u64 t160] 65 (0, 0)) (by exact BK161.out) hb); have n6_ := Aside0.mk (below_step (by repeat (first | (with_reducible first | exact HB.out | apply below_alloc | apply pw_below_drewN | apply below_drew1 | refine below_set ?_ GE146.out | refine below_set ?_ GE147.out | refine below_set ?_ GE148.out | refine below_set ?_ GE149.out | refine below_set ?_ GE158.out | refine below_set ?_ GE161.out) | exact HB.out)) hb); clear BK146; clear BK147; clear BK148; clear BK149; clear BK158; clear BK161; clear HB; have BK146 := n0_; have BK147 := n1_; have BK148 := n2_; have BK149 := n3_; have BK158 := n4_; have BK161 := n5_; have HB := n6_; clear n0_ n1_ n2_ n3_ n4_ n5_ n6_; (try clear hb); (try clear hb2); (try clear hk); (try clear hi); have hcz90_0 : w89.cell? ⟨gb148, 0, none⟩ = some (.int .u64 t164) := (blk_cell BK148.out 0).trans rfl; have hcz90_1 : w89.cell? ⟨gb148, 1, none⟩ = some (.int .u64 t165) := (blk_cell BK148.out 1).trans rfl; have hfz90_0 := blk_frozen BK148.out 0; have hfz90_1 := blk_frozen BK148.out 1; have hcz91_0 : w89.cell? ⟨gb149, 0, none⟩ = some (.int .u64 t168) := (blk_cell BK149.out 0).trans rfl; have hcz91_1 : w89.cell? ⟨gb149, 1, none⟩ = some (.int .u64 t169) := (blk_cell BK149.out 1).trans rfl; have hfz91_0 := blk_frozen BK149.out 0; have hfz91_1 := blk_frozen BK149.out 1; have hcz92_0 : w89.cell? ⟨gb147, 0, none⟩ = some (.int .u64 a1_0) := (blk_cell BK147.out 0).trans rfl; have hcz92_1 : w89.cell? ⟨gb147, 1, none⟩ = some (.int .u64 a1_1) := (blk_cell BK147.out 1).trans rfl; have hfz92_0 := blk_frozen BK147.out 0; have hfz92_1 := blk_frozen BK147.out 1) | ((with_reducible refine gate_callee (f := 107) rfl ?_); refine goesL_ (some 66) rfl rfl Tryd.func107 (by kernel_rfl) rfl #[.agg #[.int .u64 t168, .int .u64 t169], .agg #[.int .u64 a1_0, .int .u64 a1_1]] rfl (by (try simp only [List.map_toArray, List.map_cons, List.map_nil]); first | done | rfl | (simp only [List.length_drop, List.length_take]; rfl)) ?_; (with_reducible refine (uint128_Uint128_Sub.calls t168 t169 a1_0 a1_1 t173 t174 _ A64.out).mono ?_); rintro e w93 ⟨rfl, hb⟩; refine ⟨_, rfl, ?_⟩; have n0_ := Aside0.mk (blk_below (g := gb146) (o := .cells #[.int .u64 a0_0, .int .u64 a0_1] 65 (0, 0)) (by (with_reducible repeat (first | refine blk_drewN ?_ _ | refine blk_drew ?_ | refine blk_alloc ?_ _)); refine blk_far ?_ NB146_148.out _; (with_reducible repeat (first | refine blk_drewN ?_ _ | refine blk_drew ?_ | refine blk_alloc ?_ _)); refine blk_far ?_ NB146_148.out _; (with_reducible repeat (first | refine blk_drewN ?_ _ | refine blk_drew ?_ | refine blk_alloc ?_ _)); exact BK146.out) hb); have n1_ := Aside0.mk (blk_below (g := gb147) (o := .cells #[.int .u64 a1_0, .int .u64 a1_1] 65 (0, 0)) (by (with_reducible repeat (first | refine blk_drewN ?_ _ | refine blk_drew ?_ | refine blk_alloc ?_ _)); refine blk_far ?_ NB147_148.out _; (with_reducible repeat (first | refine blk_drewN ?_ _ | refine blk_drew ?_ | refine blk_alloc ?_ _)); refine blk_far ?_ NB147_148.out _; (with_reducible repeat (first | refine blk_drewN ?_ _ | refine blk_drew ?_ | refine blk_alloc ?_ _)); exact BK147.out) hb); have n2_ := Aside0.mk (blk_below (g := gb148) (o := .cells #[.int .u64 t171, .int .u64 t172] 65 (0, 0)) (by (with_reducible repeat (first | refine blk_drewN ?_ _ | refine blk_drew ?_ | refine blk_alloc ?_ _)); refine blk_put (cs := #[.int .u64 t171, .int .u64 t165]) ?_ 1 _ rfl; (with_reducible repeat (first | refine blk_drewN ?_ _ | refine blk_drew ?_ | refine blk_alloc ?_ _)); refine blk_put (cs := #[.int .u64 t164, .int .u64 t165]) ?_ 0 _ rfl; (with_reducible repeat (first | refine blk_drewN ?_ _ | refine blk_drew ?_ | refine blk_alloc ?_ _)); exact BK148.out) hb); have n3_ := Aside0.mk (blk_below (g := gb149) (o := .cells #[.int .u64 t168, .int .u64 t169] 65 (0, 0)) (by (with_reducible repeat (first | refine blk_drewN ?_ _ | refine blk_drew ?_ | refine blk_alloc ?_ _)); refine blk_far ?_ NB149_148.out _; (with_reducible repeat (first | refine blk_drewN ?_ _ | refine blk_drew ?_ | refine blk_alloc ?_ _)); refine blk_far ?_ NB149_148.out _; (with_reducible repeat (first | refine blk_drewN ?_ _ | refine blk_drew ?_ | refine blk_alloc ?_ _)); exact BK149.out) hb); have n4_ := Aside0.mk (blk_below (g := gb158) (o := .cells #[.int .u64 t156, .int .u64 t157] 65 (0, 0)) (by (with_reducible repeat (first | refine blk_drewN ?_ _ | refine blk_drew ?_ | refine blk_alloc ?_ _)); refine blk_far ?_ NB158_148.out _; (with_reducible repeat (first | refine blk_drewN ?_ _ | refine blk_drew ?_ | refine blk_alloc ?_ _)); refine blk_far ?_ NB158_148.out _; (with_reducible repeat (first | refine blk_drewN ?_ _ | refine blk_drew ?_ | refine blk_alloc ?_ _)); exact BK158.out) hb); have n5_ := Aside0.mk (blk_below (g := gb161) (o := .cells #[.int .u64 t159, .int .u64 t160] 65 (0, 0)) (by (with_reducible repeat (first | refine blk_drewN ?_ _ | refine blk_drew ?_ | refine blk_alloc ?_ _)); refine blk_far ?_ NB161_148.out _; (with_reducible repeat (first | refine blk_drewN ?_ _ | refine blk_drew ?_ | refine blk_alloc ?_ _)); refine blk_far ?_ NB161_148.out _; (with_reducible repeat (first | refine blk_drewN ?_ _ | refine blk_drew ?_ | refine blk_alloc ?_ _)); exact BK161.out) hb); have n6_ := Aside0.mk (below_step (by repeat (first | (with_reducible first | exact HB.out | apply below_alloc | apply pw_below_drewN | apply below_drew1 | refine below_set ?_ GE146.out | refine below_set ?_ GE147.out | refine below_set ?_ GE148.out | refine below_set ?_ GE149.out | refine below_set ?_ GE158.out | refine below_set ?_ GE161.out) | exact HB.out)) hb); clear BK146; clear BK147; clear BK148; clear BK149; clear BK158; clear BK161; clear HB; have BK146 := n0_; have BK147 := n1_; have BK148 := n2_; have BK149 := n3_; have BK158 := n4_; have BK161 := n5_; have HB := n6_; clear n0_ n1_ n2_ n3_ n4_ n5_ n6_; (try clear hb); (try clear hb2); (try clear hk); (try clear hi); have hcz94_0 : w93.cell? ⟨gb149, 0, none⟩ = some (.int .u64 t168) := (blk_cell BK149.out 0).trans rfl; have hcz94_1 : w93.cell? ⟨gb149, 1, none⟩ = some (.int .u64 t169) := (blk_cell BK149.out 1).trans rfl; have hfz94_0 := blk_frozen BK149.out 0; have hfz94_1 := blk_frozen BK149.out 1))
            refine bodyPost_ret (results_cc rfl _ _ gb148 gb149 65 65 #[.int .u64 t171, .int .u64 t172] #[.int .u64 t173, .int .u64 t174] (0, 0) (0, 0) _ _ rfl (by (with_reducible repeat (first | refine blk_drewN ?_ _ | refine blk_drew ?_ | refine blk_alloc ?_ _)); refine blk_far ?_ NB148_149.out _; (with_reducible repeat (first | refine blk_drewN ?_ _ | refine blk_drew ?_ | refine blk_alloc ?_ _)); refine blk_far ?_ NB148_149.out _; (with_reducible repeat (first | refine blk_drewN ?_ _ | refine blk_drew ?_ | refine blk_alloc ?_ _)); exact BK148.out) Tryd.underlying65 rfl (by kernel_rfl) rfl (by (with_reducible repeat (first | refine blk_drewN ?_ _ | refine blk_drew ?_ | refine blk_alloc ?_ _)); refine blk_put (cs := #[.int .u64 t173, .int .u64 t169]) ?_ 1 _ rfl; (with_reducible repeat (first | refine blk_drewN ?_ _ | refine blk_drew ?_ | refine blk_alloc ?_ _)); refine blk_put (cs := #[.int .u64 t168, .int .u64 t169]) ?_ 0 _ rfl; (with_reducible repeat (first | refine blk_drewN ?_ _ | refine blk_drew ?_ | refine blk_alloc ?_ _)); exact BK149.out) Tryd.underlying65 rfl (by kernel_rfl)) rfl ?_
            exact ⟨by first | rfl | (simp [errW_none, errW_some] <;> rfl) | (simp only [← hji26, ← hji28]; first | rfl | (simp [errW_none, errW_some] <;> rfl)) | (simp [*, errW_none, errW_some] <;> rfl), by repeat (first | (with_reducible first | exact HB.out | apply below_alloc | apply pw_below_drewN | apply below_drew1 | refine below_set ?_ GE146.out | refine below_set ?_ GE147.out | refine below_set ?_ GE148.out | refine below_set ?_ GE149.out | refine below_set ?_ GE158.out | refine below_set ?_ GE161.out) | exact HB.out)⟩
          · rw [if_neg c62] at H
            have c62b0 : decide (0 ≤ t170) = false := decide_eq_false c62
            clear c62
            simp only [Option.some.injEq, Prod.mk.injEq] at H
            obtain ⟨rfl, rfl, rfl, rfl⟩ := H
            try go_wp2_with (first | ((with_reducible refine gate_callee (f := 42) rfl ?_); refine goesL_ (some 52) rfl rfl Tryd.func42 (by kernel_rfl) rfl #[.int .u64 x10_28] rfl (by (try simp only [List.map_toArray, List.map_cons, List.map_nil]); first | done | rfl | (simp only [List.length_drop, List.length_take]; rfl)) ?_; (with_reducible refine (uint128_From64.calls x10_28 t164 t165 _ A58.out).mono ?_); rintro e w95 ⟨rfl, hb⟩; refine ⟨_, rfl, ?_⟩; have n0_ := Aside0.mk (blk_below (g := gb146) (o := .cells #[.int .u64 a0_0, .int .u64 a0_1] 65 (0, 0)) (by exact BK146.out) hb); have n1_ := Aside0.mk (blk_below (g := gb147) (o := .cells #[.int .u64 a1_0, .int .u64 a1_1] 65 (0, 0)) (by exact BK147.out) hb); have n2_ := Aside0.mk (blk_below (g := gb148) (o := .cells #[.int .u64 0, .int .u64 0] 65 (0, 0)) (by exact BK148.out) hb); have n3_ := Aside0.mk (blk_below (g := gb149) (o := .cells #[.int .u64 0, .int .u64 0] 65 (0, 0)) (by exact BK149.out) hb); have n4_ := Aside0.mk (blk_below (g := gb158) (o := .cells #[.int .u64 t156, .int .u64 t157] 65 (0, 0)) (by exact BK158.out) hb); have n5_ := Aside0.mk (blk_below (g := gb161) (o := .cells #[.int .u64 t159, .int .u64 t160] 65 (0, 0)) (by exact BK161.out) hb); have n6_ := Aside0.mk (below_step (by repeat (first | (with_reducible first | exact HB.out | apply below_alloc | apply pw_below_drewN | apply below_drew1 | refine below_set ?_ GE146.out | refine below_set ?_ GE147.out | refine below_set ?_ GE148.out | refine below_set ?_ GE149.out | refine below_set ?_ GE158.out | refine below_set ?_ GE161.out) | exact HB.out)) hb); clear BK146; clear BK147; clear BK148; clear BK149; clear BK158; clear BK161; clear HB; have BK146 := n0_; have BK147 := n1_; have BK148 := n2_; have BK149 := n3_; have BK158 := n4_; have BK161 := n5_; have HB := n6_; clear n0_ n1_ n2_ n3_ n4_ n5_ n6_; (try clear hb); (try clear hb2); (try clear hk); (try clear hi); have hnb96 := NB148_146.out; have hnc96 := NB146_148.out; have hnb97 := NB148_147.out; have hnc97 := NB147_148.out; have hnb98 := NB148_149.out; have hnc98 := NB149_148.out; have hnb99 := NB148_158.out; have hnc99 := NB158_148.out; have hnb100 := NB148_161.out; have hnc100 := NB161_148.out; have hcz101_0 : w95.cell? ⟨gb148, 0, none⟩ = some (.int .u64 0) := (blk_cell BK148.out 0).trans rfl; have hcz101_1 : w95.cell? ⟨gb148, 1, none⟩ = some (.int .u64 0) := (blk_cell BK148.out 1).trans rfl; have hfz101_0 := blk_frozen BK148.out 0; have hfz101_1 := blk_frozen BK148.out 1))
            have n0_ : Aside0 (((w95.setCell ⟨gb148, 0, none⟩ (.int .u64 t164)).setCell ⟨gb148, 1, none⟩ (.int .u64 t165)).heap[gb146]? = some (.cells #[.int .u64 a0_0, .int .u64 a0_1] 65 (0, 0))) := ⟨by (with_reducible repeat (first | refine blk_drewN ?_ _ | refine blk_drew ?_ | refine blk_alloc ?_ _)); refine blk_far ?_ NB146_148.out _; (with_reducible repeat (first | refine blk_drewN ?_ _ | refine blk_drew ?_ | refine blk_alloc ?_ _)); refine blk_far ?_ NB146_148.out _; (with_reducible repeat (first | refine blk_drewN ?_ _ | refine blk_drew ?_ | refine blk_alloc ?_ _)); exact BK146.out⟩
            have n1_ : Aside0 (((w95.setCell ⟨gb148, 0, none⟩ (.int .u64 t164)).setCell ⟨gb148, 1, none⟩ (.int .u64 t165)).heap[gb147]? = some (.cells #[.int .u64 a1_0, .int .u64 a1_1] 65 (0, 0))) := ⟨by (with_reducible repeat (first | refine blk_drewN ?_ _ | refine blk_drew ?_ | refine blk_alloc ?_ _)); refine blk_far ?_ NB147_148.out _; (with_reducible repeat (first | refine blk_drewN ?_ _ | refine blk_drew ?_ | refine blk_alloc ?_ _)); refine blk_far ?_ NB147_148.out _; (with_reducible repeat (first | refine blk_drewN ?_ _ | refine blk_drew ?_ | refine blk_alloc ?_ _)); exact BK147.out⟩
            have n2_ : Aside0 (((w95.setCell ⟨gb148, 0, none⟩ (.int .u64 t164)).setCell ⟨gb148, 1, none⟩ (.int .u64 t165)).heap[gb148]? = some (.cells #[.int .u64 t164, .int .u64 t165] 65 (0, 0))) := ⟨by (with_reducible repeat (first | refine blk_drewN ?_ _ | refine blk_drew ?_ | refine blk_alloc ?_ _)); refine blk_put (cs := #[.int .u64 t164, .int .u64 0]) ?_ 1 _ rfl; (with_reducible repeat (first | refine blk_drewN ?_ _ | refine blk_drew ?_ | refine blk_alloc ?_ _)); refine blk_put (cs := #[.int .u64 0, .int .u64 0]) ?_ 0 _ rfl; (with_reducible repeat (first | refine blk_drewN ?_ _ | refine blk_drew ?_ | refine blk_alloc ?_ _)); exact BK148.out⟩
            have n3_ : Aside0 (((w95.setCell ⟨gb148, 0, none⟩ (.int .u64 t164)).setCell ⟨gb148, 1, none⟩ (.int .u64 t165)).heap[gb149]? = some (.cells #[.int .u64 0, .int .u64 0] 65 (0, 0))) := ⟨by (with_reducible repeat (first | refine blk_drewN ?_ _ | refine blk_drew ?_ | refine blk_alloc ?_ _)); refine blk_far ?_ NB149_148.out _; (with_reducible repeat (first | refine blk_drewN ?_ _ | refine blk_drew ?_ | refine blk_alloc ?_ _)); refine blk_far ?_ NB149_148.out _; (with_reducible repeat (first | refine blk_drewN ?_ _ | refine blk_drew ?_ | refine blk_alloc ?_ _)); exact BK149.out⟩
            have n4_ : Aside0 (((w95.setCell ⟨gb148, 0, none⟩ (.int .u64 t164)).setCell ⟨gb148, 1, none⟩ (.int .u64 t165)).heap[gb158]? = some (.cells #[.int .u64 t156, .int .u64 t157] 65 (0, 0))) := ⟨by (with_reducible repeat (first | refine blk_drewN ?_ _ | refine blk_drew ?_ | refine blk_alloc ?_ _)); refine blk_far ?_ NB158_148.out _; (with_reducible repeat (first | refine blk_drewN ?_ _ | refine blk_drew ?_ | refine blk_alloc ?_ _)); refine blk_far ?_ NB158_148.out _; (with_reducible repeat (first | refine blk_drewN ?_ _ | refine blk_drew ?_ | refine blk_alloc ?_ _)); exact BK158.out⟩
            have n5_ : Aside0 (((w95.setCell ⟨gb148, 0, none⟩ (.int .u64 t164)).setCell ⟨gb148, 1, none⟩ (.int .u64 t165)).heap[gb161]? = some (.cells #[.int .u64 t159, .int .u64 t160] 65 (0, 0))) := ⟨by (with_reducible repeat (first | refine blk_drewN ?_ _ | refine blk_drew ?_ | refine blk_alloc ?_ _)); refine blk_far ?_ NB161_148.out _; (with_reducible repeat (first | refine blk_drewN ?_ _ | refine blk_drew ?_ | refine blk_alloc ?_ _)); refine blk_far ?_ NB161_148.out _; (with_reducible repeat (first | refine blk_drewN ?_ _ | refine blk_drew ?_ | refine blk_alloc ?_ _)); exact BK161.out⟩
            have n6_ : Aside0 (Below w.heap.size w ((w95.setCell ⟨gb148, 0, none⟩ (.int .u64 t164)).setCell ⟨gb148, 1, none⟩ (.int .u64 t165))) := ⟨by repeat (first | (with_reducible first | exact HB.out | apply below_alloc | apply pw_below_drewN | apply below_drew1 | refine below_set ?_ GE146.out | refine below_set ?_ GE147.out | refine below_set ?_ GE148.out | refine below_set ?_ GE149.out | refine below_set ?_ GE158.out | refine below_set ?_ GE161.out) | exact HB.out)⟩
            (try clear BK146)
            (try clear BK147)
            (try clear BK148)
            (try clear BK149)
            (try clear BK158)
            (try clear BK161)
            (try clear HB)
            generalize ((w95.setCell ⟨gb148, 0, none⟩ (.int .u64 t164)).setCell ⟨gb148, 1, none⟩ (.int .u64 t165)) = w102 at n0_ n1_ n2_ n3_ n4_ n5_ n6_ ⊢
            have BK146 := n0_
            have BK147 := n1_
            have BK148 := n2_
            have BK149 := n3_
            have BK158 := n4_
            have BK161 := n5_
            have HB := n6_
            clear n0_ n1_ n2_ n3_ n4_ n5_ n6_
            have n0_ := Aside0.mk (blk_drew BK146.out)
            have n1_ := Aside0.mk (blk_drew BK147.out)
            have n2_ := Aside0.mk (blk_drew BK148.out)
            have n3_ := Aside0.mk (blk_drew BK149.out)
            have n4_ := Aside0.mk (blk_drew BK158.out)
            have n5_ := Aside0.mk (blk_drew BK161.out)
            have n6_ := Aside0.mk (below_drew1 HB.out)
            clear BK146
            clear BK147
            clear BK148
            clear BK149
            clear BK158
            clear BK161
            clear HB
            have BK146 := n0_
            have BK147 := n1_
            have BK148 := n2_
            have BK149 := n3_
            have BK158 := n4_
            have BK161 := n5_
            have HB := n6_
            clear n0_ n1_ n2_ n3_ n4_ n5_ n6_
            refine start_ (n := 6) (S := fun w' => w'.cell? ⟨gb146, 0, none⟩ = some (.int .u64 a0_0) ∧ w'.cell? ⟨gb146, 1, none⟩ = some (.int .u64 a0_1) ∧ w'.cell? ⟨gb147, 0, none⟩ = some (.int .u64 a1_0) ∧ w'.cell? ⟨gb147, 1, none⟩ = some (.int .u64 a1_1)) (ds := []) #[false, false, false, false, false, false] (by kernel_rfl) rfl rfl ⟨(blk_cell BK146.out 0).trans rfl, (blk_cell BK146.out 1).trans rfl, (blk_cell BK147.out 0).trans rfl, (blk_cell BK147.out 1).trans rfl⟩ (fun hHeld => ?_)
            generalize w102.drew = w103 at BK146 BK147 BK148 BK149 BK158 BK161 HB hHeld ⊢
            refine pure_ (i := 2) (N := some 55) (v := ?_) (a' := ?_) #[false, false, true, false, false, false] rfl rfl (by kernel_rfl) (fun _ _ _ h => h) (Or.inl ⟨by rfl, ?_⟩) ?_ ?_
            rotate_left
            · intro w'
              go_simp
              with_reducible rfl
            rotate_left
            · simp only [Act.put, List.setIfInBounds_toArray, List.set_cons_zero, List.set_cons_succ, i64_w, i32_w]
              rfl
            refine take_ (i := 0) (N := some 53) (v := ?_) (a' := ?_) #[true, false, true, false, false, false] rfl rfl (by kernel_rfl) (fun _ _ _ h => h) (Or.inl ⟨by rfl, ?_⟩) hHeld ?_ ?_
            rotate_left
            · rintro w' ⟨s0, s1, s2, s3⟩
              go_simp
              with_reducible rfl
            rotate_left
            · simp only [Act.put, List.setIfInBounds_toArray, List.set_cons_zero, List.set_cons_succ, i64_w, i32_w]
              rfl
            refine take_ (i := 1) (N := some 54) (v := ?_) (a' := ?_) #[true, true, true, false, false, false] rfl rfl (by kernel_rfl) (fun _ _ _ h => h) (Or.inl ⟨by rfl, ?_⟩) hHeld ?_ ?_
            rotate_left
            · rintro w' ⟨s0, s1, s2, s3⟩
              go_simp
              with_reducible rfl
            rotate_left
            · simp only [Act.put, List.setIfInBounds_toArray, List.set_cons_zero, List.set_cons_succ, i64_w, i32_w]
              rfl
            refine one_ (i := 3) (N := some 56) #[true, true, true, true, false, false] rfl rfl (by kernel_rfl) (by decide) (fun K hK => ?_)
            refine goes_ Tryd.func108 (by kernel_rfl) rfl #[.agg #[.int .u64 a1_0, .int .u64 a1_1], .int .u64 x10_28] (by rfl) rfl rfl (by (try simp only [List.map_toArray, List.map_cons, List.map_nil]); first | done | rfl | (simp only [List.length_drop, List.length_take]; rfl)) ?_
            with_reducible refine (uint128_Uint128_Mul64.calls a1_0 a1_1 x10_28 t166 t167 _ A59.out).mono ?_
            rintro e w104 ⟨rfl, hb⟩
            refine ⟨_, rfl, ?_⟩
            have n0_ := Aside0.mk (blk_below (g := gb146) (o := .cells #[.int .u64 a0_0, .int .u64 a0_1] 65 (0, 0)) (by exact BK146.out) hb)
            have n1_ := Aside0.mk (blk_below (g := gb147) (o := .cells #[.int .u64 a1_0, .int .u64 a1_1] 65 (0, 0)) (by exact BK147.out) hb)
            have n2_ := Aside0.mk (blk_below (g := gb148) (o := .cells #[.int .u64 t164, .int .u64 t165] 65 (0, 0)) (by exact BK148.out) hb)
            have n3_ := Aside0.mk (blk_below (g := gb149) (o := .cells #[.int .u64 0, .int .u64 0] 65 (0, 0)) (by exact BK149.out) hb)
            have n4_ := Aside0.mk (blk_below (g := gb158) (o := .cells #[.int .u64 t156, .int .u64 t157] 65 (0, 0)) (by exact BK158.out) hb)
            have n5_ := Aside0.mk (blk_below (g := gb161) (o := .cells #[.int .u64 t159, .int .u64 t160] 65 (0, 0)) (by exact BK161.out) hb)
            have n6_ := Aside0.mk (below_step (by repeat (first | (with_reducible first | exact HB.out | apply below_alloc | apply pw_below_drewN | apply below_drew1 | refine below_set ?_ GE146.out | refine below_set ?_ GE147.out | refine below_set ?_ GE148.out | refine below_set ?_ GE149.out | refine below_set ?_ GE158.out | refine below_set ?_ GE161.out) | exact HB.out)) hb)
            clear BK146
            clear BK147
            clear BK148
            clear BK149
            clear BK158
            clear BK161
            clear HB
            have BK146 := n0_
            have BK147 := n1_
            have BK148 := n2_
            have BK149 := n3_
            have BK158 := n4_
            have BK161 := n5_
            have HB := n6_
            clear n0_ n1_ n2_ n3_ n4_ n5_ n6_
            (try clear hb)
            (try clear hb2)
            (try clear hk)
            (try clear hi)
            refine hK.out _ _ ⟨(blk_cell BK146.out 0).trans rfl, (blk_cell BK146.out 1).trans rfl, (blk_cell BK147.out 0).trans rfl, (blk_cell BK147.out 1).trans rfl⟩ (fun hHeld => ?_)
            clear hK K
            refine norm_ (a' := ?_) ?_ ?_
            rotate_left
            · show Act.put _ (some 56) _ = _
              simp only [Act.put, List.setIfInBounds_toArray, List.set_cons_zero, List.set_cons_succ, i64_w, i32_w]
              rfl
            refine one_ (i := 4) (N := some 57) #[true, true, true, true, true, false] rfl rfl (by kernel_rfl) (by decide) (fun K hK => ?_)
            refine goes_ Tryd.func107 (by kernel_rfl) rfl #[.agg #[.int .u64 a0_0, .int .u64 a0_1], .agg #[.int .u64 t166, .int .u64 t167]] (by rfl) rfl rfl (by (try simp only [List.map_toArray, List.map_cons, List.map_nil]); first | done | rfl | (simp only [List.length_drop, List.length_take]; rfl)) ?_
            with_reducible refine (uint128_Uint128_Sub.calls a0_0 a0_1 t166 t167 t168 t169 _ A60.out).mono ?_
            rintro e w105 ⟨rfl, hb⟩
            refine ⟨_, rfl, ?_⟩
            have n0_ := Aside0.mk (blk_below (g := gb146) (o := .cells #[.int .u64 a0_0, .int .u64 a0_1] 65 (0, 0)) (by exact BK146.out) hb)
            have n1_ := Aside0.mk (blk_below (g := gb147) (o := .cells #[.int .u64 a1_0, .int .u64 a1_1] 65 (0, 0)) (by exact BK147.out) hb)
            have n2_ := Aside0.mk (blk_below (g := gb148) (o := .cells #[.int .u64 t164, .int .u64 t165] 65 (0, 0)) (by exact BK148.out) hb)
            have n3_ := Aside0.mk (blk_below (g := gb149) (o := .cells #[.int .u64 0, .int .u64 0] 65 (0, 0)) (by exact BK149.out) hb)
            have n4_ := Aside0.mk (blk_below (g := gb158) (o := .cells #[.int .u64 t156, .int .u64 t157] 65 (0, 0)) (by exact BK158.out) hb)
            have n5_ := Aside0.mk (blk_below (g := gb161) (o := .cells #[.int .u64 t159, .int .u64 t160] 65 (0, 0)) (by exact BK161.out) hb)
            have n6_ := Aside0.mk (below_step (by repeat (first | (with_reducible first | exact HB.out | apply below_alloc | apply pw_below_drewN | apply below_drew1 | refine below_set ?_ GE146.out | refine below_set ?_ GE147.out | refine below_set ?_ GE148.out | refine below_set ?_ GE149.out | refine below_set ?_ GE158.out | refine below_set ?_ GE161.out) | exact HB.out)) hb)
            clear BK146
            clear BK147
            clear BK148
            clear BK149
            clear BK158
            clear BK161
            clear HB
            have BK146 := n0_
            have BK147 := n1_
            have BK148 := n2_
            have BK149 := n3_
            have BK158 := n4_
            have BK161 := n5_
            have HB := n6_
            clear n0_ n1_ n2_ n3_ n4_ n5_ n6_
            (try clear hb)
            (try clear hb2)
            (try clear hk)
            (try clear hi)
            refine hK.out _ _ ⟨(blk_cell BK146.out 0).trans rfl, (blk_cell BK146.out 1).trans rfl, (blk_cell BK147.out 0).trans rfl, (blk_cell BK147.out 1).trans rfl⟩ (fun hHeld => ?_)
            clear hK K
            refine norm_ (a' := ?_) ?_ ?_
            rotate_left
            · show Act.put _ (some 57) _ = _
              simp only [Act.put, List.setIfInBounds_toArray, List.set_cons_zero, List.set_cons_succ, i64_w, i32_w]
              rfl
            refine one_ (i := 5) (N := none) #[true, true, true, true, true, true] rfl rfl (by kernel_rfl) (by decide) (fun K hK => ?_)
            have hs106 : w105.cell? ⟨gb149, 0, none⟩ = some (.int .u64 0) := (blk_cell BK149.out 0).trans rfl
            have hfs106 := blk_frozen BK149.out 0
            have hns106_0 := NB146_149.out
            have hns106_1 := NB147_149.out
            have hns106_2 := NB148_149.out
            have hns106_4 := NB158_149.out
            have hns106_5 := NB161_149.out
            have hms106_0 := NB149_146.out
            have hms106_1 := NB149_147.out
            have hms106_2 := NB149_148.out
            have hms106_4 := NB149_158.out
            have hms106_5 := NB149_161.out
            have hs107 : w105.cell? ⟨gb149, 1, none⟩ = some (.int .u64 0) := (blk_cell BK149.out 1).trans rfl
            have hfs107 := blk_frozen BK149.out 1
            have hns107_0 := NB146_149.out
            have hns107_1 := NB147_149.out
            have hns107_2 := NB148_149.out
            have hns107_4 := NB158_149.out
            have hns107_5 := NB161_149.out
            have hms107_0 := NB149_146.out
            have hms107_1 := NB149_147.out
            have hms107_2 := NB149_148.out
            have hms107_4 := NB149_158.out
            have hms107_5 := NB149_161.out
            refine skip_ (w1 := ?_) (by rfl) rfl ?_ ?_
            rotate_left
            · go_simp
              rfl
            refine hK.out _ _ ⟨((cell_far (p := ⟨gb149, _, none⟩) NB146_149.out _).trans (((cell_far (p := ⟨gb149, _, none⟩) NB146_149.out _).trans (hHeld.1)))), ((cell_far (p := ⟨gb149, _, none⟩) NB146_149.out _).trans (((cell_far (p := ⟨gb149, _, none⟩) NB146_149.out _).trans (hHeld.2.1)))), ((cell_far (p := ⟨gb149, _, none⟩) NB147_149.out _).trans (((cell_far (p := ⟨gb149, _, none⟩) NB147_149.out _).trans (hHeld.2.2.1)))), ((cell_far (p := ⟨gb149, _, none⟩) NB147_149.out _).trans (((cell_far (p := ⟨gb149, _, none⟩) NB147_149.out _).trans (hHeld.2.2.2))))⟩ (fun hHeld => ?_)
            clear hK K
            refine done_ (by kernel_rfl) ?_
            have hnb108 := NB149_146.out
            have hnc108 := NB146_149.out
            have hnb109 := NB149_147.out
            have hnc109 := NB147_149.out
            have hnb110 := NB149_158.out
            have hnc110 := NB158_149.out
            have hnb111 := NB149_161.out
            have hnc111 := NB161_149.out
            have hcz112_0 : w105.cell? ⟨gb149, 0, none⟩ = some (.int .u64 0) := (blk_cell BK149.out 0).trans rfl
            have hcz112_1 : w105.cell? ⟨gb149, 1, none⟩ = some (.int .u64 0) := (blk_cell BK149.out 1).trans rfl
            have hfz112_0 := blk_frozen BK149.out 0
            have hfz112_1 := blk_frozen BK149.out 1
            have hnb113 := NB147_146.out
            have hnc113 := NB146_147.out
            have hnb114 := NB147_158.out
            have hnc114 := NB158_147.out
            have hnb115 := NB147_161.out
            have hnc115 := NB161_147.out
            have hcz116_0 : w105.cell? ⟨gb147, 0, none⟩ = some (.int .u64 a1_0) := (blk_cell BK147.out 0).trans rfl
            have hcz116_1 : w105.cell? ⟨gb147, 1, none⟩ = some (.int .u64 a1_1) := (blk_cell BK147.out 1).trans rfl
            have hfz116_0 := blk_frozen BK147.out 0
            have hfz116_1 := blk_frozen BK147.out 1
            try go_wp2_with (first | ((with_reducible refine gate_callee (f := 73) rfl ?_); refine goesL_ (some 60) rfl rfl Tryd.func73 (by kernel_rfl) rfl #[.agg #[.int .u64 t168, .int .u64 t169], .agg #[.int .u64 a1_0, .int .u64 a1_1]] rfl (by (try simp only [List.map_toArray, List.map_cons, List.map_nil]); first | done | rfl | (simp only [List.length_drop, List.length_take]; rfl)) ?_; (with_reducible refine (uint128_Uint128_Cmp.calls t168 t169 a1_0 a1_1 t170 _ A61.out).mono ?_); rintro e w117 ⟨rfl, hb⟩; refine ⟨_, rfl, ?_⟩; have n0_ := Aside0.mk (blk_below (g := gb146) (o := .cells #[.int .u64 a0_0, .int .u64 a0_1] 65 (0, 0)) (by (with_reducible repeat (first | refine blk_drewN ?_ _ | refine blk_drew ?_ | refine blk_alloc ?_ _)); refine blk_far ?_ NB146_149.out _; (with_reducible repeat (first | refine blk_drewN ?_ _ | refine blk_drew ?_ | refine blk_alloc ?_ _)); refine blk_far ?_ NB146_149.out _; (with_reducible repeat (first | refine blk_drewN ?_ _ | refine blk_drew ?_ | refine blk_alloc ?_ _)); exact BK146.out) hb); have n1_ := Aside0.mk (blk_below (g := gb147) (o := .cells #[.int .u64 a1_0, .int .u64 a1_1] 65 (0, 0)) (by (with_reducible repeat (first | refine blk_drewN ?_ _ | refine blk_drew ?_ | refine blk_alloc ?_ _)); refine blk_far ?_ NB147_149.out _; (with_reducible repeat (first | refine blk_drewN ?_ _ | refine blk_drew ?_ | refine blk_alloc ?_ _)); refine blk_far ?_ NB147_149.out _; (with_reducible repeat (first | refine blk_drewN ?_ _ | refine blk_drew ?_ | refine blk_alloc ?_ _)); exact BK147.out) hb); have n2_ := Aside0.mk (blk_below (g := gb148) (o := .cells #[.int .u64 t164, .int .u64 t165] 65 (0, 0)) (by (with_reducible repeat (first | refine blk_drewN ?_ _ | refine blk_drew ?_ | refine blk_alloc ?_ _)); refine blk_far ?_ NB148_149.out _; (with_reducible repeat (first | refine blk_drewN ?_ _ | refine blk_drew ?_ | refine blk_alloc ?_ _)); refine blk_far ?_ NB148_149.out _; (with_reducible repeat (first | refine blk_drewN ?_ _ | refine blk_drew ?_ | refine blk_alloc ?_ _)); exact BK148.out) hb); have n3_ := Aside0.mk (blk_below (g := gb149) (o := .cells #[.int .u64 t168, .int .u64 t169] 65 (0, 0)) (by (with_reducible repeat (first | refine blk_drewN ?_ _ | refine blk_drew ?_ | refine blk_alloc ?_ _)); refine blk_put (cs := #[.int .u64 t168, .int .u64 0]) ?_ 1 _ rfl; (with_reducible repeat (first | refine blk_drewN ?_ _ | refine blk_drew ?_ | refine blk_alloc ?_ _)); refine blk_put (cs := #[.int .u64 0, .int .u64 0]) ?_ 0 _ rfl; (with_reducible repeat (first | refine blk_drewN ?_ _ | refine blk_drew ?_ | refine blk_alloc ?_ _)); exact BK149.out) hb); have n4_ := Aside0.mk (blk_below (g := gb158) (o := .cells #[.int .u64 t156, .int .u64 t157] 65 (0, 0)) (by (with_reducible repeat (first | refine blk_drewN ?_ _ | refine blk_drew ?_ | refine blk_alloc ?_ _)); refine blk_far ?_ NB158_149.out _; (with_reducible repeat (first | refine blk_drewN ?_ _ | refine blk_drew ?_ | refine blk_alloc ?_ _)); refine blk_far ?_ NB158_149.out _; (with_reducible repeat (first | refine blk_drewN ?_ _ | refine blk_drew ?_ | refine blk_alloc ?_ _)); exact BK158.out) hb); have n5_ := Aside0.mk (blk_below (g := gb161) (o := .cells #[.int .u64 t159, .int .u64 t160] 65 (0, 0)) (by (with_reducible repeat (first | refine blk_drewN ?_ _ | refine blk_drew ?_ | refine blk_alloc ?_ _)); refine blk_far ?_ NB161_149.out _; (with_reducible repeat (first | refine blk_drewN ?_ _ | refine blk_drew ?_ | refine blk_alloc ?_ _)); refine blk_far ?_ NB161_149.out _; (with_reducible repeat (first | refine blk_drewN ?_ _ | refine blk_drew ?_ | refine blk_alloc ?_ _)); exact BK161.out) hb); have n6_ := Aside0.mk (below_step (by repeat (first | (with_reducible first | exact HB.out | apply below_alloc | apply pw_below_drewN | apply below_drew1 | refine below_set ?_ GE146.out | refine below_set ?_ GE147.out | refine below_set ?_ GE148.out | refine below_set ?_ GE149.out | refine below_set ?_ GE158.out | refine below_set ?_ GE161.out) | exact HB.out)) hb); clear BK146; clear BK147; clear BK148; clear BK149; clear BK158; clear BK161; clear HB; have BK146 := n0_; have BK147 := n1_; have BK148 := n2_; have BK149 := n3_; have BK158 := n4_; have BK161 := n5_; have HB := n6_; clear n0_ n1_ n2_ n3_ n4_ n5_ n6_; (try clear hb); (try clear hb2); (try clear hk); (try clear hi)))
            refine bodyPost_ret (results_cc rfl _ _ gb148 gb149 65 65 #[.int .u64 t164, .int .u64 t165] #[.int .u64 t168, .int .u64 t169] (0, 0) (0, 0) _ _ rfl (by exact BK148.out) Tryd.underlying65 rfl (by kernel_rfl) rfl (by exact BK149.out) Tryd.underlying65 rfl (by kernel_rfl)) rfl ?_
            exact ⟨by first | rfl | (simp [errW_none, errW_some] <;> rfl) | (simp only [← hji26, ← hji28]; first | rfl | (simp [errW_none, errW_some] <;> rfl)) | (simp [*, errW_none, errW_some] <;> rfl), by repeat (first | (with_reducible first | exact HB.out | apply below_alloc | apply pw_below_drewN | apply below_drew1 | refine below_set ?_ GE146.out | refine below_set ?_ GE147.out | refine below_set ?_ GE148.out | refine below_set ?_ GE149.out | refine below_set ?_ GE158.out | refine below_set ?_ GE161.out) | exact HB.out)⟩
    · rw [if_neg c27] at H
      exact absurd H (by simp)
/-- What the walks need to know of gobits' variable for a division by 0: it holds an error. -/
def GlobE (w : World) : Prop := ∃ pv, w.cell? ⟨3, 0, none⟩ = some (.iface 104 pv)
theorem GlobE.below {w w' : World} (h : GlobE w) (hb : Below w.heap.size w w') : GlobE w' := by
  obtain ⟨pv, h⟩ := h
  exact ⟨pv, (hb.cell (World.block_lt_of_cell? w _ h)).trans h⟩
set_option maxHeartbeats 1000000 in
set_option maxRecDepth 100000 in
theorem Div64_panics (x y : Int) (w : World) (HZ : GlobE w) :
    Calls Tryd.prog 104 #[.int .u64 x, .int .u64 y, .int .u64 0] w fun e w' => (∃ pv, e = .panicked [{ v := .iface 104 pv, recovered := false }]) ∧ Below w.heap.size w w' := by
  obtain ⟨pv, hc⟩ := HZ
  go_enter Tryd.func104, Tryd.ntmps104
  go_wp2
  exact ⟨rfl, ⟨_, rfl⟩, Below.refl _ _⟩
set_option maxHeartbeats 1000000 in
set_option maxRecDepth 100000 in
theorem QuoRem64_panics (a b : Int) (w : World) (hb : decide (b < 0) = false) (HZ : GlobE w) :
    Calls Tryd.prog 54 #[.agg #[.int .u64 a, .int .u64 b], .int .u64 0] w fun e w' => (∃ pv, e = .panicked [{ v := .iface 104 pv, recovered := false }]) ∧ Below w.heap.size w w' := by
  have HE := Lib.hid HZ
  clear HZ
  go_enter Tryd.func54, Tryd.ntmps54
  go_wp2_with fail
  have B0 : Below w.heap.size w ((w.alloc (.cells #[.int .u64 a, .int .u64 b] 65)).alloc (.cells #[.int .u64 0, .int .u64 0] 65)) := ((Below.refl w.heap.size w).alloc (Nat.le_refl _) _).alloc (by simp) _
  refine (Div64_panics 0 b _ (GlobE.below HE.out B0)).mono ?_
  rintro e W2 ⟨⟨pv, rfl⟩, hb2⟩
  exact ⟨rfl, ⟨_, rfl⟩, B0.trans (hb2.mono B0.size)⟩
set_option maxHeartbeats 1000000 in
set_option maxRecDepth 100000 in
theorem QuoRem_panics (a b : Int) (w : World) (hb : decide (b < 0) = false) (HZ : GlobE w) :
    Calls Tryd.prog 64 #[.agg #[.int .u64 a, .int .u64 b], .agg #[.int .u64 0, .int .u64 0]] w fun e w' => (∃ pv, e = .panicked [{ v := .iface 104 pv, recovered := false }]) ∧ Below w.heap.size w w' := by
  have HE := Lib.hid HZ
  have HBB := Lib.hid hb
  clear HZ hb
  go_enter Tryd.func64, Tryd.ntmps64
  go_wp2_with fail
  have B0 : Below w.heap.size w ((((w.alloc (.cells #[.int .u64 a, .int .u64 b] 65)).alloc (.cells #[.int .u64 0, .int .u64 0] 65)).alloc (.cells #[.int .u64 0, .int .u64 0] 65)).alloc (.cells #[.int .u64 0, .int .u64 0] 65)) := ((((Below.refl w.heap.size w).alloc (Nat.le_refl _) _).alloc (by simp) _).alloc (by simp; omega) _).alloc (by simp; omega) _
  refine (QuoRem64_panics a b _ HBB.out (GlobE.below HE.out B0)).mono ?_
  rintro e W2 ⟨⟨pv, rfl⟩, hb2⟩
  exact ⟨rfl, ⟨_, rfl⟩, B0.trans (hb2.mono B0.size)⟩
end Go.Proofs.YtiifnofghicnaaaDoor.PAll
