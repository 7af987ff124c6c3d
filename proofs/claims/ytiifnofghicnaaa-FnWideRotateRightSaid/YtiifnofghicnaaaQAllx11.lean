/- Printed by the kit's print.py, called for several laws at once: functions as plain Lean, and the walks' contracts. -/
import Derived.Test.YtiifnofghicnaaaQAllx0
namespace Go.Proofs.Ytiifnofghicnaaa.PAll
open Go.RowKit Go.Proofs.YtiifnofghicnaaaW.PrintWords Go.Proofs.YtiifnofghicnaaaW.PrintLast Go.Proofs.YtiifnofghicnaaaW.PrintMore
attribute [local go_sem] max2_int min2_int max_two min_two max_three min_three max_four min_four   -- for this text's walks alone
set_option linter.unusedVariables false
set_option linter.unusedSimpArgs false

/-! ### uint128_Uint128_Lsh: function 88 -/
def uint128_Uint128_Lsh.f (a0_0 : Int) (a0_1 : Int) (a1 : Int) : Option (Int × Int) := if a1 > 64 then (if 0 ≤ (IntKind.u64.wrap (a1 - 64)) then (some (0, shl .u64 a0_0 (IntKind.u64.wrap (a1 - 64)))) else (none)) else (if 0 ≤ a1 then (if 0 ≤ (IntKind.u64.wrap (64 - a1)) then (some (shl .u64 a0_0 a1, Go.bits .or .u64 (shl .u64 a0_1 a1) (shr .u64 a0_0 (IntKind.u64.wrap (64 - a1))))) else (none)) else (none))
set_option maxHeartbeats 8000000 in
set_option maxRecDepth 100000 in
theorem uint128_Uint128_Lsh.calls (a0_0 : Int) (a0_1 : Int) (a1 : Int) (r1 : Int) (r2 : Int) (w : World) (h : uint128_Uint128_Lsh.f a0_0 a0_1 a1 = some (r1, r2)) :
    Calls Try.prog 88 #[.agg #[.int .u64 a0_0, .int .u64 a0_1], .int .u64 a1] w fun e w' => e = .returned (.agg #[.int .u64 r1, .int .u64 r2]) ∧ Below w.heap.size w w' := by
  have hu59 := Try.underlying59
  have HB := Aside0.mk (Below.refl w.heap.size w)
  have H : (if a1 > 64 then (if 0 ≤ (IntKind.u64.wrap (a1 - 64)) then (some (0, shl .u64 a0_0 (IntKind.u64.wrap (a1 - 64)))) else (none)) else (if 0 ≤ a1 then (if 0 ≤ (IntKind.u64.wrap (64 - a1)) then (some (shl .u64 a0_0 a1, Go.bits .or .u64 (shl .u64 a0_1 a1) (shr .u64 a0_0 (IntKind.u64.wrap (64 - a1))))) else (none)) else (none))) = some (r1, r2) := h
  clear h
  by_cases c3 : a1 > 64
  · rw [if_pos c3] at H
    have c3b0 : decide (64 < a1) = true := decide_eq_true c3
    clear c3
    obtain ⟨ji4, hji4⟩ : ∃ j_ : Int, (IntKind.u64.wrap (a1 - 64)) = j_ := ⟨_, rfl⟩
    replace H : (if 0 ≤ (ji4) then (some (0, shl .u64 a0_0 (ji4))) else (none)) = some (r1, r2) := by first | (rw [hji4] at H; exact H) | (simp only [hji4] at H ⊢; exact H)
    by_cases c5 : 0 ≤ (ji4)
    · rw [if_pos c5] at H
      have c5b0 := eq_true c5
      have c5b1 : decide (0 ≤ (ji4)) = true := decide_eq_true c5
      clear c5
      obtain ⟨ji6, hji6⟩ : ∃ j_ : Int, (shl .u64 a0_0 (ji4)) = j_ := ⟨_, rfl⟩
      replace H : (some (0, ji6)) = some (r1, r2) := by first | (rw [hji6] at H; exact H) | (simp only [hji6] at H ⊢; exact H)
      have hji6_ : (IntKind.u64.wrap (a0_0 * 2 ^ min (ji4).toNat 64)) = ji6 := hji6
      have hji6z : (ji4) ≤ 64 → (IntKind.u64.wrap (a0_0 * 2 ^ (ji4).toNat)) = ji6 := shl_small hji6
      simp only [Option.some.injEq, Prod.mk.injEq] at H
      obtain ⟨rfl, rfl⟩ := H
      go_enter Try.func88, Try.ntmps88
      go_wp2_with (first | ((with_reducible refine gate_dst (N := 2) rfl ?_); refine box_event ?hg (N := 2) ?hd (cs := #[.int .u64 a0_0, .int .u64 a0_1]) (t := 59) ?hr ?_; (case hd => rfl); (case hg => rfl); (case hr => first | (go_simp; done) | (go_simp; rfl)); intro gb214 hg w7 hbox hb; have n0_ := Aside0.mk (below_step (by repeat (first | (with_reducible first | exact HB.out | apply below_alloc | apply pw_below_drewN | apply below_drew1) | exact HB.out)) hb); have n1_ := Aside0.mk (hbox); have n2_ := Aside0.mk ((by rw [hg]; exact (below_size (by repeat (first | (with_reducible first | exact HB.out | apply below_alloc | apply pw_below_drewN | apply below_drew1) | exact HB.out))) : w.heap.size ≤ gb214)); have n3_ := Aside0.mk ((by rw [hg]; exact (below_size (by repeat (first | (with_reducible first | exact HB.out | apply below_alloc | apply pw_below_drewN | apply below_drew1) | exact HB.out))) : w.heap.size ≤ gb214)); clear HB; have HB := n0_; have BK214 := n1_; have GW214 := n2_; have GE214 := n3_; clear n0_ n1_ n2_ n3_; clear hb hbox hg) | ((with_reducible refine gate_dst (N := 4) rfl ?_); refine box_event ?hg (N := 4) ?hd (cs := #[.int .u64 0, .int .u64 0]) (t := 59) ?hr ?_; (case hd => rfl); (case hg => rfl); (case hr => first | (go_simp; done) | (go_simp; rfl)); intro gb215 hg w8 hbox hb; have n0_ := Aside0.mk (blk_below (g := gb214) (o := .cells #[.int .u64 a0_0, .int .u64 a0_1] 59 (0, 0)) (by (with_reducible repeat (first | refine blk_drewN ?_ _ | refine blk_drew ?_ | refine blk_alloc ?_ _)); exact BK214.out) hb); have n1_ := Aside0.mk (below_step (by repeat (first | (with_reducible first | exact HB.out | apply below_alloc | apply pw_below_drewN | apply below_drew1 | refine below_set ?_ GE214.out) | exact HB.out)) hb); have n2_ := Aside0.mk (hbox); have n3_ := Aside0.mk ((by rw [hg]; exact (below_size (by repeat (first | (with_reducible first | exact HB.out | apply below_alloc | apply pw_below_drewN | apply below_drew1 | refine below_set ?_ GE214.out) | exact HB.out))) : w.heap.size ≤ gb215)); have n4_ := Aside0.mk ((by rw [hg]; exact (below_size (by repeat (first | (with_reducible first | exact HB.out | apply below_alloc | apply pw_below_drewN | apply below_drew1 | refine below_set ?_ GE214.out) | exact HB.out))) : w.heap.size ≤ gb215)); have n5_ := Aside0.mk ((by rw [hg]; exact Nat.ne_of_lt (blk_lt (g := gb214) (o := .cells #[.int .u64 a0_0, .int .u64 a0_1] 59 (0, 0)) (by (with_reducible repeat (first | refine blk_drewN ?_ _ | refine blk_drew ?_ | refine blk_alloc ?_ _)); exact BK214.out)) : gb214 ≠ gb215)); have n6_ := Aside0.mk ((by rw [hg]; exact Nat.ne_of_gt (blk_lt (g := gb214) (o := .cells #[.int .u64 a0_0, .int .u64 a0_1] 59 (0, 0)) (by (with_reducible repeat (first | refine blk_drewN ?_ _ | refine blk_drew ?_ | refine blk_alloc ?_ _)); exact BK214.out)) : gb215 ≠ gb214)); clear BK214; clear HB; have BK214 := n0_; have HB := n1_; have BK215 := n2_; have GW215 := n3_; have GE215 := n4_; have NB214_215 := n5_; have NB215_214 := n6_; clear n0_ n1_ n2_ n3_ n4_ n5_ n6_; clear hb hbox hg; have hnb9 := NB215_214.out; have hnc9 := NB214_215.out; have hcz10_0 : w8.cell? ⟨gb215, 0, none⟩ = some (.int .u64 0) := (blk_cell BK215.out 0).trans rfl; have hcz10_1 : w8.cell? ⟨gb215, 1, none⟩ = some (.int .u64 0) := (blk_cell BK215.out 1).trans rfl; have hfz10_0 := blk_frozen BK215.out 0; have hfz10_1 := blk_frozen BK215.out 1; have hcz11_0 : w8.cell? ⟨gb214, 0, none⟩ = some (.int .u64 a0_0) := (blk_cell BK214.out 0).trans rfl; have hcz11_1 : w8.cell? ⟨gb214, 1, none⟩ = some (.int .u64 a0_1) := (blk_cell BK214.out 1).trans rfl; have hfz11_0 := blk_frozen BK214.out 0; have hfz11_1 := blk_frozen BK214.out 1))
      refine bodyPost_ret (results_cell_row rfl _ _ gb215 59 #[.int .u64 0, .int .u64 ji6] (0, 0) _ rfl (by (with_reducible repeat (first | refine blk_drewN ?_ _ | refine blk_drew ?_ | refine blk_alloc ?_ _)); refine blk_put (cs := #[.int .u64 0, .int .u64 0]) ?_ 1 _ rfl; (with_reducible repeat (first | refine blk_drewN ?_ _ | refine blk_drew ?_ | refine blk_alloc ?_ _)); refine blk_put (cs := #[.int .u64 0, .int .u64 0]) ?_ 0 _ rfl; (with_reducible repeat (first | refine blk_drewN ?_ _ | refine blk_drew ?_ | refine blk_alloc ?_ _)); exact BK215.out) Try.underlying59 rfl (by kernel_rfl)) rfl ?_
      exact ⟨by first | rfl | (simp [errW_none, errW_some] <;> rfl) | (simp only [← hji4, ← hji6]; first | rfl | (simp [errW_none, errW_some] <;> rfl)) | (simp [*, errW_none, errW_some] <;> rfl), by repeat (first | (with_reducible first | exact HB.out | apply below_alloc | apply pw_below_drewN | apply below_drew1 | refine below_set ?_ GE214.out | refine below_set ?_ GE215.out) | exact HB.out)⟩
    · rw [if_neg c5] at H
      exact absurd H (by simp)
  · rw [if_neg c3] at H
    have c3b0 : decide (64 < a1) = false := decide_eq_false c3
    clear c3
    by_cases c12 : 0 ≤ a1
    · rw [if_pos c12] at H
      have c12b0 := eq_true c12
      have c12b1 : decide (0 ≤ a1) = true := decide_eq_true c12
      clear c12
      obtain ⟨ji13, hji13⟩ : ∃ j_ : Int, (shl .u64 a0_0 a1) = j_ := ⟨_, rfl⟩
      replace H : (if 0 ≤ (IntKind.u64.wrap (64 - a1)) then (some (ji13, Go.bits .or .u64 (shl .u64 a0_1 a1) (shr .u64 a0_0 (IntKind.u64.wrap (64 - a1))))) else (none)) = some (r1, r2) := by first | (rw [hji13] at H; exact H) | (simp only [hji13] at H ⊢; exact H)
      have hji13_ : (IntKind.u64.wrap (a0_0 * 2 ^ min a1.toNat 64)) = ji13 := hji13
      have hji13z : a1 ≤ 64 → (IntKind.u64.wrap (a0_0 * 2 ^ a1.toNat)) = ji13 := shl_small hji13
      have c14b0 := eq_true (of_decide_eq_true (by first | (with_reducible assumption) | assumption) : 0 ≤ a1)
      obtain ⟨ji15, hji15⟩ : ∃ j_ : Int, (shl .u64 a0_1 a1) = j_ := ⟨_, rfl⟩
      replace H : (if 0 ≤ (IntKind.u64.wrap (64 - a1)) then (some (ji13, Go.bits .or .u64 (ji15) (shr .u64 a0_0 (IntKind.u64.wrap (64 - a1))))) else (none)) = some (r1, r2) := by first | (rw [hji15] at H; exact H) | (simp only [hji15] at H ⊢; exact H)
      have hji15_ : (IntKind.u64.wrap (a0_1 * 2 ^ min a1.toNat 64)) = ji15 := hji15
      have hji15z : a1 ≤ 64 → (IntKind.u64.wrap (a0_1 * 2 ^ a1.toNat)) = ji15 := shl_small hji15
      obtain ⟨ji16, hji16⟩ : ∃ j_ : Int, (IntKind.u64.wrap (64 - a1)) = j_ := ⟨_, rfl⟩
      replace H : (if 0 ≤ (ji16) then (some (ji13, Go.bits .or .u64 (ji15) (shr .u64 a0_0 (ji16)))) else (none)) = some (r1, r2) := by first | (rw [hji16] at H; exact H) | (simp only [hji16] at H ⊢; exact H)
      by_cases c17 : 0 ≤ (ji16)
      · rw [if_pos c17] at H
        have c17b0 := eq_true c17
        have c17b1 : decide (0 ≤ (ji16)) = true := decide_eq_true c17
        clear c17
        obtain ⟨ji18, hji18⟩ : ∃ j_ : Int, (shr .u64 a0_0 (ji16)) = j_ := ⟨_, rfl⟩
        replace H : (some (ji13, Go.bits .or .u64 (ji15) (ji18))) = some (r1, r2) := by first | (rw [hji18] at H; exact H) | (simp only [hji18] at H ⊢; exact H)
        have hji18_ : (a0_0 / 2 ^ min (ji16).toNat 64) = ji18 := hji18
        have hji18z : (ji16) ≤ 64 → (a0_0 / 2 ^ (ji16).toNat) = ji18 := shr_small hji18
        simp only [Option.some.injEq, Prod.mk.injEq] at H
        obtain ⟨rfl, rfl⟩ := H
        go_enter Try.func88, Try.ntmps88
        go_wp2_with (first | ((with_reducible refine gate_dst (N := 2) rfl ?_); refine box_event ?hg (N := 2) ?hd (cs := #[.int .u64 a0_0, .int .u64 a0_1]) (t := 59) ?hr ?_; (case hd => rfl); (case hg => rfl); (case hr => first | (go_simp; done) | (go_simp; rfl)); intro gb214 hg w19 hbox hb; have n0_ := Aside0.mk (below_step (by repeat (first | (with_reducible first | exact HB.out | apply below_alloc | apply pw_below_drewN | apply below_drew1) | exact HB.out)) hb); have n1_ := Aside0.mk (hbox); have n2_ := Aside0.mk ((by rw [hg]; exact (below_size (by repeat (first | (with_reducible first | exact HB.out | apply below_alloc | apply pw_below_drewN | apply below_drew1) | exact HB.out))) : w.heap.size ≤ gb214)); have n3_ := Aside0.mk ((by rw [hg]; exact (below_size (by repeat (first | (with_reducible first | exact HB.out | apply below_alloc | apply pw_below_drewN | apply below_drew1) | exact HB.out))) : w.heap.size ≤ gb214)); clear HB; have HB := n0_; have BK214 := n1_; have GW214 := n2_; have GE214 := n3_; clear n0_ n1_ n2_ n3_; clear hb hbox hg) | ((with_reducible refine gate_dst (N := 4) rfl ?_); refine box_event ?hg (N := 4) ?hd (cs := #[.int .u64 0, .int .u64 0]) (t := 59) ?hr ?_; (case hd => rfl); (case hg => rfl); (case hr => first | (go_simp; done) | (go_simp; rfl)); intro gb215 hg w20 hbox hb; have n0_ := Aside0.mk (blk_below (g := gb214) (o := .cells #[.int .u64 a0_0, .int .u64 a0_1] 59 (0, 0)) (by (with_reducible repeat (first | refine blk_drewN ?_ _ | refine blk_drew ?_ | refine blk_alloc ?_ _)); exact BK214.out) hb); have n1_ := Aside0.mk (below_step (by repeat (first | (with_reducible first | exact HB.out | apply below_alloc | apply pw_below_drewN | apply below_drew1 | refine below_set ?_ GE214.out) | exact HB.out)) hb); have n2_ := Aside0.mk (hbox); have n3_ := Aside0.mk ((by rw [hg]; exact (below_size (by repeat (first | (with_reducible first | exact HB.out | apply below_alloc | apply pw_below_drewN | apply below_drew1 | refine below_set ?_ GE214.out) | exact HB.out))) : w.heap.size ≤ gb215)); have n4_ := Aside0.mk ((by rw [hg]; exact (below_size (by repeat (first | (with_reducible first | exact HB.out | apply below_alloc | apply pw_below_drewN | apply below_drew1 | refine below_set ?_ GE214.out) | exact HB.out))) : w.heap.size ≤ gb215)); have n5_ := Aside0.mk ((by rw [hg]; exact Nat.ne_of_lt (blk_lt (g := gb214) (o := .cells #[.int .u64 a0_0, .int .u64 a0_1] 59 (0, 0)) (by (with_reducible repeat (first | refine blk_drewN ?_ _ | refine blk_drew ?_ | refine blk_alloc ?_ _)); exact BK214.out)) : gb214 ≠ gb215)); have n6_ := Aside0.mk ((by rw [hg]; exact Nat.ne_of_gt (blk_lt (g := gb214) (o := .cells #[.int .u64 a0_0, .int .u64 a0_1] 59 (0, 0)) (by (with_reducible repeat (first | refine blk_drewN ?_ _ | refine blk_drew ?_ | refine blk_alloc ?_ _)); exact BK214.out)) : gb215 ≠ gb214)); clear BK214; clear HB; have BK214 := n0_; have HB := n1_; have BK215 := n2_; have GW215 := n3_; have GE215 := n4_; have NB214_215 := n5_; have NB215_214 := n6_; clear n0_ n1_ n2_ n3_ n4_ n5_ n6_; clear hb hbox hg; have hnb21 := NB214_215.out; have hnc21 := NB215_214.out; have hcz22_0 : w20.cell? ⟨gb214, 0, none⟩ = some (.int .u64 a0_0) := (blk_cell BK214.out 0).trans rfl; have hcz22_1 : w20.cell? ⟨gb214, 1, none⟩ = some (.int .u64 a0_1) := (blk_cell BK214.out 1).trans rfl; have hfz22_0 := blk_frozen BK214.out 0; have hfz22_1 := blk_frozen BK214.out 1; have hcz23_0 : w20.cell? ⟨gb215, 0, none⟩ = some (.int .u64 0) := (blk_cell BK215.out 0).trans rfl; have hcz23_1 : w20.cell? ⟨gb215, 1, none⟩ = some (.int .u64 0) := (blk_cell BK215.out 1).trans rfl; have hfz23_0 := blk_frozen BK215.out 0; have hfz23_1 := blk_frozen BK215.out 1))
        refine bodyPost_ret (results_cell_row rfl _ _ gb215 59 #[.int .u64 ji13, .int .u64 (Go.bits .or .u64 (ji15) (ji18))] (0, 0) _ rfl (by (with_reducible repeat (first | refine blk_drewN ?_ _ | refine blk_drew ?_ | refine blk_alloc ?_ _)); refine blk_put (cs := #[.int .u64 ji13, .int .u64 0]) ?_ 1 _ rfl; (with_reducible repeat (first | refine blk_drewN ?_ _ | refine blk_drew ?_ | refine blk_alloc ?_ _)); refine blk_put (cs := #[.int .u64 0, .int .u64 0]) ?_ 0 _ rfl; (with_reducible repeat (first | refine blk_drewN ?_ _ | refine blk_drew ?_ | refine blk_alloc ?_ _)); exact BK215.out) Try.underlying59 rfl (by kernel_rfl)) rfl ?_
        exact ⟨by first | rfl | (simp [errW_none, errW_some] <;> rfl) | (simp only [← hji13, ← hji15, ← hji16, ← hji18]; first | rfl | (simp [errW_none, errW_some] <;> rfl)) | (simp [*, errW_none, errW_some] <;> rfl), by repeat (first | (with_reducible first | exact HB.out | apply below_alloc | apply pw_below_drewN | apply below_drew1 | refine below_set ?_ GE214.out | refine below_set ?_ GE215.out) | exact HB.out)⟩
      · rw [if_neg c17] at H
        exact absurd H (by simp)
    · rw [if_neg c12] at H
      exact absurd H (by simp)


end Go.Proofs.Ytiifnofghicnaaa.PAll
