/- Printed by the kit's print.py, called for several laws at once: functions as plain Lean, and the walks' contracts. -/
import Derived.Test.YtiifnofghicnaaaDoorQAllx0
namespace Go.Proofs.YtiifnofghicnaaaDoor.PAll
open Go.RowKit Go.Proofs.YtiifnofghicnaaaDoorW.PrintWords Go.Proofs.YtiifnofghicnaaaDoorW.PrintLast Go.Proofs.YtiifnofghicnaaaDoorW.PrintMore
attribute [local go_sem] max2_int min2_int max_two min_two max_three min_three max_four min_four   -- for this text's walks alone
set_option linter.unusedVariables false
set_option linter.unusedSimpArgs false
/-! ### uint128_Uint128_Rsh: function 94 -/
def uint128_Uint128_Rsh.f (a0_0 : Int) (a0_1 : Int) (a1 : Int) : Option (Int × Int) := if a1 > 64 then (if 0 ≤ (IntKind.u64.wrap (a1 - 64)) then (some (shr .u64 a0_1 (IntKind.u64.wrap (a1 - 64)), 0)) else (none)) else (if 0 ≤ a1 then (if 0 ≤ (IntKind.u64.wrap (64 - a1)) then (some (Go.bits .or .u64 (shr .u64 a0_0 a1) (shl .u64 a0_1 (IntKind.u64.wrap (64 - a1))), shr .u64 a0_1 a1)) else (none)) else (none))
set_option maxHeartbeats 8000000 in
set_option maxRecDepth 100000 in
theorem uint128_Uint128_Rsh.calls (a0_0 : Int) (a0_1 : Int) (a1 : Int) (r1 : Int) (r2 : Int) (w : World) (h : uint128_Uint128_Rsh.f a0_0 a0_1 a1 = some (r1, r2)) :
    Calls Tryd.prog 94 #[.agg #[.int .u64 a0_0, .int .u64 a0_1], .int .u64 a1] w fun e w' => e = .returned (.agg #[.int .u64 r1, .int .u64 r2]) ∧ Below w.heap.size w w' := by
  have hu65 := Tryd.underlying65
  have HB := Aside0.mk (Below.refl w.heap.size w)
  have H : (if a1 > 64 then (if 0 ≤ (IntKind.u64.wrap (a1 - 64)) then (some (shr .u64 a0_1 (IntKind.u64.wrap (a1 - 64)), 0)) else (none)) else (if 0 ≤ a1 then (if 0 ≤ (IntKind.u64.wrap (64 - a1)) then (some (Go.bits .or .u64 (shr .u64 a0_0 a1) (shl .u64 a0_1 (IntKind.u64.wrap (64 - a1))), shr .u64 a0_1 a1)) else (none)) else (none))) = some (r1, r2) := h
  clear h
  by_cases c3 : a1 > 64
  · rw [if_pos c3] at H
    have c3b0 : decide (64 < a1) = true := decide_eq_true c3
    clear c3
    obtain ⟨ji4, hji4⟩ : ∃ j_ : Int, (IntKind.u64.wrap (a1 - 64)) = j_ := ⟨_, rfl⟩
    replace H : (if 0 ≤ (ji4) then (some (shr .u64 a0_1 (ji4), 0)) else (none)) = some (r1, r2) := by first | (rw [hji4] at H; exact H) | (simp only [hji4] at H ⊢; exact H)
    by_cases c5 : 0 ≤ (ji4)
    · rw [if_pos c5] at H
      have c5b0 := eq_true c5
      have c5b1 : decide (0 ≤ (ji4)) = true := decide_eq_true c5
      clear c5
      obtain ⟨ji6, hji6⟩ : ∃ j_ : Int, (shr .u64 a0_1 (ji4)) = j_ := ⟨_, rfl⟩
      replace H : (some (ji6, 0)) = some (r1, r2) := by first | (rw [hji6] at H; exact H) | (simp only [hji6] at H ⊢; exact H)
      have hji6_ : (a0_1 / 2 ^ min (ji4).toNat 64) = ji6 := hji6
      have hji6z : (ji4) ≤ 64 → (a0_1 / 2 ^ (ji4).toNat) = ji6 := shr_small hji6
      simp only [Option.some.injEq, Prod.mk.injEq] at H
      obtain ⟨rfl, rfl⟩ := H
      go_enter Tryd.func94, Tryd.ntmps94
      go_wp2_with (first | ((with_reducible refine gate_dst (N := 2) rfl ?_); refine box_event ?hg (N := 2) ?hd (cs := #[.int .u64 a0_0, .int .u64 a0_1]) (t := 65) ?hr ?_; (case hd => rfl); (case hg => rfl); (case hr => first | (go_simp; done) | (go_simp; rfl)); intro gb295 hg w7 hbox hb; have n0_ := Aside0.mk (below_step (by repeat (first | (with_reducible first | exact HB.out | apply below_alloc | apply pw_below_drewN | apply below_drew1) | exact HB.out)) hb); have n1_ := Aside0.mk (hbox); have n2_ := Aside0.mk ((by rw [hg]; exact (below_size (by repeat (first | (with_reducible first | exact HB.out | apply below_alloc | apply pw_below_drewN | apply below_drew1) | exact HB.out))) : w.heap.size ≤ gb295)); have n3_ := Aside0.mk ((by rw [hg]; exact (below_size (by repeat (first | (with_reducible first | exact HB.out | apply below_alloc | apply pw_below_drewN | apply below_drew1) | exact HB.out))) : w.heap.size ≤ gb295)); clear HB; have HB := n0_; have BK295 := n1_; have GW295 := n2_; have GE295 := n3_; clear n0_ n1_ n2_ n3_; clear hb hbox hg) | ((with_reducible refine gate_dst (N := 4) rfl ?_); refine box_event ?hg (N := 4) ?hd (cs := #[.int .u64 0, .int .u64 0]) (t := 65) ?hr ?_; (case hd => rfl); (case hg => rfl); (case hr => first | (go_simp; done) | (go_simp; rfl)); intro gb296 hg w8 hbox hb; have n0_ := Aside0.mk (blk_below (g := gb295) (o := .cells #[.int .u64 a0_0, .int .u64 a0_1] 65 (0, 0)) (by exact BK295.out) hb); have n1_ := Aside0.mk (below_step (by repeat (first | (with_reducible first | exact HB.out | apply below_alloc | apply pw_below_drewN | apply below_drew1 | refine below_set ?_ GE295.out) | exact HB.out)) hb); have n2_ := Aside0.mk (hbox); have n3_ := Aside0.mk ((by rw [hg]; exact (below_size (by repeat (first | (with_reducible first | exact HB.out | apply below_alloc | apply pw_below_drewN | apply below_drew1 | refine below_set ?_ GE295.out) | exact HB.out))) : w.heap.size ≤ gb296)); have n4_ := Aside0.mk ((by rw [hg]; exact (below_size (by repeat (first | (with_reducible first | exact HB.out | apply below_alloc | apply pw_below_drewN | apply below_drew1 | refine below_set ?_ GE295.out) | exact HB.out))) : w.heap.size ≤ gb296)); have n5_ := Aside0.mk ((by rw [hg]; exact Nat.ne_of_lt (blk_lt (g := gb295) (o := .cells #[.int .u64 a0_0, .int .u64 a0_1] 65 (0, 0)) (by exact BK295.out)) : gb295 ≠ gb296)); have n6_ := Aside0.mk ((by rw [hg]; exact Nat.ne_of_gt (blk_lt (g := gb295) (o := .cells #[.int .u64 a0_0, .int .u64 a0_1] 65 (0, 0)) (by exact BK295.out)) : gb296 ≠ gb295)); clear BK295; clear HB; have BK295 := n0_; have HB := n1_; have BK296 := n2_; have GW296 := n3_; have GE296 := n4_; have NB295_296 := n5_; have NB296_295 := n6_; clear n0_ n1_ n2_ n3_ n4_ n5_ n6_; clear hb hbox hg; have hnb9 := NB295_296.out; have hnc9 := NB296_295.out; have hcz10_0 : w8.cell? ⟨gb295, 0, none⟩ = some (.int .u64 a0_0) := (blk_cell BK295.out 0).trans rfl; have hcz10_1 : w8.cell? ⟨gb295, 1, none⟩ = some (.int .u64 a0_1) := (blk_cell BK295.out 1).trans rfl; have hfz10_0 := blk_frozen BK295.out 0; have hfz10_1 := blk_frozen BK295.out 1; have hcz11_0 : w8.cell? ⟨gb296, 0, none⟩ = some (.int .u64 0) := (blk_cell BK296.out 0).trans rfl; have hcz11_1 : w8.cell? ⟨gb296, 1, none⟩ = some (.int .u64 0) := (blk_cell BK296.out 1).trans rfl; have hfz11_0 := blk_frozen BK296.out 0; have hfz11_1 := blk_frozen BK296.out 1))
      refine bodyPost_ret (results_cell_row rfl _ _ gb296 65 #[.int .u64 ji6, .int .u64 0] (0, 0) _ rfl (by (with_reducible repeat (first | refine blk_drewN ?_ _ | refine blk_drew ?_ | refine blk_alloc ?_ _)); refine blk_put (cs := #[.int .u64 ji6, .int .u64 0]) ?_ 1 _ rfl; (with_reducible repeat (first | refine blk_drewN ?_ _ | refine blk_drew ?_ | refine blk_alloc ?_ _)); refine blk_put (cs := #[.int .u64 0, .int .u64 0]) ?_ 0 _ rfl; (with_reducible repeat (first | refine blk_drewN ?_ _ | refine blk_drew ?_ | refine blk_alloc ?_ _)); exact BK296.out) Tryd.underlying65 rfl (by kernel_rfl)) rfl ?_
      exact ⟨by first | rfl | (simp [errW_none, errW_some] <;> rfl) | (simp only [← hji4, ← hji6]; first | rfl | (simp [errW_none, errW_some] <;> rfl)) | (simp [*, errW_none, errW_some] <;> rfl), by repeat (first | (with_reducible first | exact HB.out | apply below_alloc | apply pw_below_drewN | apply below_drew1 | refine below_set ?_ GE295.out | refine below_set ?_ GE296.out) | exact HB.out)⟩
    · rw [if_neg c5] at H
      exact absurd H (by simp)
  · rw [if_neg c3] at H
    have c3b0 : decide (64 < a1) = false := decide_eq_false c3
    clear c3
    by_cases c12 : 0 ≤ a1
    · rw [if_pos c12] at H
      have c12b0 := eq_true c12
      have c12b1 : decide (0 ≤ a1) = true := decide_eq_true c12
      clear c12
      obtain ⟨ji13, hji13⟩ : ∃ j_ : Int, (shr .u64 a0_0 a1) = j_ := ⟨_, rfl⟩
      replace H : (if 0 ≤ (IntKind.u64.wrap (64 - a1)) then (some (Go.bits .or .u64 (ji13) (shl .u64 a0_1 (IntKind.u64.wrap (64 - a1))), shr .u64 a0_1 a1)) else (none)) = some (r1, r2) := by first | (rw [hji13] at H; exact H) | (simp only [hji13] at H ⊢; exact H)
      have hji13_ : (a0_0 / 2 ^ min a1.toNat 64) = ji13 := hji13
      have hji13z : a1 ≤ 64 → (a0_0 / 2 ^ a1.toNat) = ji13 := shr_small hji13
      obtain ⟨ji14, hji14⟩ : ∃ j_ : Int, (IntKind.u64.wrap (64 - a1)) = j_ := ⟨_, rfl⟩
      replace H : (if 0 ≤ (ji14) then (some (Go.bits .or .u64 (ji13) (shl .u64 a0_1 (ji14)), shr .u64 a0_1 a1)) else (none)) = some (r1, r2) := by first | (rw [hji14] at H; exact H) | (simp only [hji14] at H ⊢; exact H)
      by_cases c15 : 0 ≤ (ji14)
      · rw [if_pos c15] at H
        have c15b0 := eq_true c15
        have c15b1 : decide (0 ≤ (ji14)) = true := decide_eq_true c15
        clear c15
        obtain ⟨ji16, hji16⟩ : ∃ j_ : Int, (shl .u64 a0_1 (ji14)) = j_ := ⟨_, rfl⟩
        replace H : (some (Go.bits .or .u64 (ji13) (ji16), shr .u64 a0_1 a1)) = some (r1, r2) := by first | (rw [hji16] at H; exact H) | (simp only [hji16] at H ⊢; exact H)
        have hji16_ : (IntKind.u64.wrap (a0_1 * 2 ^ min (ji14).toNat 64)) = ji16 := hji16
        have hji16z : (ji14) ≤ 64 → (IntKind.u64.wrap (a0_1 * 2 ^ (ji14).toNat)) = ji16 := shl_small hji16
        have c17b0 := eq_true (of_decide_eq_true (by first | (with_reducible assumption) | assumption) : 0 ≤ a1)
        obtain ⟨ji18, hji18⟩ : ∃ j_ : Int, (shr .u64 a0_1 a1) = j_ := ⟨_, rfl⟩
        replace H : (some (Go.bits .or .u64 (ji13) (ji16), ji18)) = some (r1, r2) := by first | (rw [hji18] at H; exact H) | (simp only [hji18] at H ⊢; exact H)
        have hji18_ : (a0_1 / 2 ^ min a1.toNat 64) = ji18 := hji18
        have hji18z : a1 ≤ 64 → (a0_1 / 2 ^ a1.toNat) = ji18 := shr_small hji18
        simp only [Option.some.injEq, Prod.mk.injEq] at H
        obtain ⟨rfl, rfl⟩ := H
        go_enter Tryd.func94, Tryd.ntmps94
        go_wp2_with (first | ((with_reducible refine gate_dst (N := 2) rfl ?_); refine box_event ?hg (N := 2) ?hd (cs := #[.int .u64 a0_0, .int .u64 a0_1]) (t := 65) ?hr ?_; (case hd => rfl); (case hg => rfl); (case hr => first | (go_simp; done) | (go_simp; rfl)); intro gb295 hg w19 hbox hb; have n0_ := Aside0.mk (below_step (by repeat (first | (with_reducible first | exact HB.out | apply below_alloc | apply pw_below_drewN | apply below_drew1) | exact HB.out)) hb); have n1_ := Aside0.mk (hbox); have n2_ := Aside0.mk ((by rw [hg]; exact (below_size (by repeat (first | (with_reducible first | exact HB.out | apply below_alloc | apply pw_below_drewN | apply below_drew1) | exact HB.out))) : w.heap.size ≤ gb295)); have n3_ := Aside0.mk ((by rw [hg]; exact (below_size (by repeat (first | (with_reducible first | exact HB.out | apply below_alloc | apply pw_below_drewN | apply below_drew1) | exact HB.out))) : w.heap.size ≤ gb295)); clear HB; have HB := n0_; have BK295 := n1_; have GW295 := n2_; have GE295 := n3_; clear n0_ n1_ n2_ n3_; clear hb hbox hg) | ((with_reducible refine gate_dst (N := 4) rfl ?_); refine box_event ?hg (N := 4) ?hd (cs := #[.int .u64 0, .int .u64 0]) (t := 65) ?hr ?_; (case hd => rfl); (case hg => rfl); (case hr => first | (go_simp; done) | (go_simp; rfl)); intro gb296 hg w20 hbox hb; have n0_ := Aside0.mk (blk_below (g := gb295) (o := .cells #[.int .u64 a0_0, .int .u64 a0_1] 65 (0, 0)) (by exact BK295.out) hb); have n1_ := Aside0.mk (below_step (by repeat (first | (with_reducible first | exact HB.out | apply below_alloc | apply pw_below_drewN | apply below_drew1 | refine below_set ?_ GE295.out) | exact HB.out)) hb); have n2_ := Aside0.mk (hbox); have n3_ := Aside0.mk ((by rw [hg]; exact (below_size (by repeat (first | (with_reducible first | exact HB.out | apply below_alloc | apply pw_below_drewN | apply below_drew1 | refine below_set ?_ GE295.out) | exact HB.out))) : w.heap.size ≤ gb296)); have n4_ := Aside0.mk ((by rw [hg]; exact (below_size (by repeat (first | (with_reducible first | exact HB.out | apply below_alloc | apply pw_below_drewN | apply below_drew1 | refine below_set ?_ GE295.out) | exact HB.out))) : w.heap.size ≤ gb296)); have n5_ := Aside0.mk ((by rw [hg]; exact Nat.ne_of_lt (blk_lt (g := gb295) (o := .cells #[.int .u64 a0_0, .int .u64 a0_1] 65 (0, 0)) (by exact BK295.out)) : gb295 ≠ gb296)); have n6_ := Aside0.mk ((by rw [hg]; exact Nat.ne_of_gt (blk_lt (g := gb295) (o := .cells #[.int .u64 a0_0, .int .u64 a0_1] 65 (0, 0)) (by exact BK295.out)) : gb296 ≠ gb295)); clear BK295; clear HB; have BK295 := n0_; have HB := n1_; have BK296 := n2_; have GW296 := n3_; have GE296 := n4_; have NB295_296 := n5_; have NB296_295 := n6_; clear n0_ n1_ n2_ n3_ n4_ n5_ n6_; clear hb hbox hg; have hnb21 := NB295_296.out; have hnc21 := NB296_295.out; have hcz22_0 : w20.cell? ⟨gb295, 0, none⟩ = some (.int .u64 a0_0) := (blk_cell BK295.out 0).trans rfl; have hcz22_1 : w20.cell? ⟨gb295, 1, none⟩ = some (.int .u64 a0_1) := (blk_cell BK295.out 1).trans rfl; have hfz22_0 := blk_frozen BK295.out 0; have hfz22_1 := blk_frozen BK295.out 1; have hcz23_0 : w20.cell? ⟨gb296, 0, none⟩ = some (.int .u64 0) := (blk_cell BK296.out 0).trans rfl; have hcz23_1 : w20.cell? ⟨gb296, 1, none⟩ = some (.int .u64 0) := (blk_cell BK296.out 1).trans rfl; have hfz23_0 := blk_frozen BK296.out 0; have hfz23_1 := blk_frozen BK296.out 1))
        refine bodyPost_ret (results_cell_row rfl _ _ gb296 65 #[.int .u64 (Go.bits .or .u64 (ji13) (ji16)), .int .u64 ji18] (0, 0) _ rfl (by (with_reducible repeat (first | refine blk_drewN ?_ _ | refine blk_drew ?_ | refine blk_alloc ?_ _)); refine blk_put (cs := #[.int .u64 (Go.bits .or .u64 (ji13) (ji16)), .int .u64 0]) ?_ 1 _ rfl; (with_reducible repeat (first | refine blk_drewN ?_ _ | refine blk_drew ?_ | refine blk_alloc ?_ _)); refine blk_put (cs := #[.int .u64 0, .int .u64 0]) ?_ 0 _ rfl; (with_reducible repeat (first | refine blk_drewN ?_ _ | refine blk_drew ?_ | refine blk_alloc ?_ _)); exact BK296.out) Tryd.underlying65 rfl (by kernel_rfl)) rfl ?_
        exact ⟨by first | rfl | (simp [errW_none, errW_some] <;> rfl) | (simp only [← hji13, ← hji14, ← hji16, ← hji18]; first | rfl | (simp [errW_none, errW_some] <;> rfl)) | (simp [*, errW_none, errW_some] <;> rfl), by repeat (first | (with_reducible first | exact HB.out | apply below_alloc | apply pw_below_drewN | apply below_drew1 | refine below_set ?_ GE295.out | refine below_set ?_ GE296.out) | exact HB.out)⟩
      · rw [if_neg c15] at H
        exact absurd H (by simp)
    · rw [if_neg c12] at H
      exact absurd H (by simp)
/-! ### bits_Sub64: function 113 -/
def sLo (x y b : Nat) : Nat := (x + 18446744073709551616 - y - b) % 18446744073709551616
def sHi (x y b : Nat) : Nat := if x < y + b then 1 else 0
theorem sHi_le {x y b : Nat} : sHi x y b ≤ 1 := by unfold sHi; split <;> omega
theorem run_sub64_c0 (x y : Nat) (w : World) : (callFunc 113 #[.int .u64 (x : Int), .int .u64 (y : Int), .int .u64 ((0 : Nat) : Int)]).run Tryd.prog w = .ok (.value (.tuple #[.int .u64 (sLo x y 0 : Int), .int .u64 (sHi x y 0 : Int)])) w := by kernel_rfl
theorem run_sub64_c1 (x y : Nat) (w : World) : (callFunc 113 #[.int .u64 (x : Int), .int .u64 (y : Int), .int .u64 ((1 : Nat) : Int)]).run Tryd.prog w = .ok (.value (.tuple #[.int .u64 (sLo x y 1 : Int), .int .u64 (sHi x y 1 : Int)])) w := by kernel_rfl
theorem run_sub64 (x y b : Nat) (h : b ≤ 1) (w : World) : (callFunc 113 #[.int .u64 (x : Int), .int .u64 (y : Int), .int .u64 (b : Int)]).run Tryd.prog w = .ok (.value (.tuple #[.int .u64 (sLo x y b : Int), .int .u64 (sHi x y b : Int)])) w := by
  have : b = 0 ∨ b = 1 := by omega
  rcases this with rfl | rfl
  · exact run_sub64_c0 x y w
  · exact run_sub64_c1 x y w
theorem run_sub64_0 (x y : Nat) (w : World) : (callFunc 113 #[.int .u64 (x : Int), .int .u64 (y : Int), .int .u64 0]).run Tryd.prog w = .ok (.value (.tuple #[.int .u64 (sLo x y 0 : Int), .int .u64 (sHi x y 0 : Int)])) w := run_sub64_c0 x y w
theorem run_sub64_zb (x b : Nat) (h : b ≤ 1) (w : World) : (callFunc 113 #[.int .u64 (x : Int), .int .u64 0, .int .u64 (b : Int)]).run Tryd.prog w = .ok (.value (.tuple #[.int .u64 (sLo x 0 b : Int), .int .u64 (sHi x 0 b : Int)])) w := run_sub64 x 0 b h w
/-! ### uint128_Uint128_Sub: function 107 -/
def uint128_Uint128_Sub.f (a0_0 a0_1 a1_0 a1_1 : Int) : Option (Int × Int) :=
  if U64 a0_0 ∧ U64 a0_1 ∧ U64 a1_0 ∧ U64 a1_1 ∧ N128 a1_0 a1_1 ≤ N128 a0_0 a0_1 then some (halves (N128 a0_0 a0_1 - N128 a1_0 a1_1)) else none
theorem sub_no (a b c d : Nat) (ha : a < 18446744073709551616) (hc : c < 18446744073709551616) (h : c + d * 18446744073709551616 ≤ a + b * 18446744073709551616) : (((sHi b d (sHi a c 0) : Nat) : Int) != 0) = false := by
  have : sHi b d (sHi a c 0) = 0 := by unfold sHi; split <;> split <;> omega
  rw [this]; rfl
theorem sub_yes (a b c d : Nat) (ha : a < 18446744073709551616) (hc : c < 18446744073709551616) (h : ¬ c + d * 18446744073709551616 ≤ a + b * 18446744073709551616) : (((sHi b d (sHi a c 0) : Nat) : Int) != 0) = true := by
  have : sHi b d (sHi a c 0) ≠ 0 := by unfold sHi; split <;> split <;> omega
  rw [bne_iff_ne]; omega
theorem sub_1 (a b c d : Nat) (ha : a < 18446744073709551616) (hb : b < 18446744073709551616) (hc : c < 18446744073709551616) (hd : d < 18446744073709551616) (h : c + d * 18446744073709551616 ≤ a + b * 18446744073709551616) : sLo a c 0 = (a + b * 18446744073709551616 - (c + d * 18446744073709551616)) % 18446744073709551616 := by unfold sLo; omega
theorem sub_2 (a b c d : Nat) (ha : a < 18446744073709551616) (hb : b < 18446744073709551616) (hc : c < 18446744073709551616) (hd : d < 18446744073709551616) (h : c + d * 18446744073709551616 ≤ a + b * 18446744073709551616) : sLo b d (sHi a c 0) = (a + b * 18446744073709551616 - (c + d * 18446744073709551616)) / 18446744073709551616 % 18446744073709551616 := by unfold sLo sHi; split <;> omega
set_option maxHeartbeats 2000000 in
set_option maxRecDepth 100000 in
theorem sub_nat (a b c d : Nat) (ha : a < 18446744073709551616) (hb : b < 18446744073709551616) (hc : c < 18446744073709551616) (hd : d < 18446744073709551616) (hk : (((sHi b d (sHi a c 0) : Nat) : Int) != 0) = false) (w : World) :
    Calls Tryd.prog 107 #[.agg #[.int .u64 a, .int .u64 b], .agg #[.int .u64 c, .int .u64 d]] w fun e w' => e = .returned (.agg #[.int .u64 (sLo a c 0 : Int), .int .u64 (sLo b d (sHi a c 0) : Int)]) ∧ Below w.heap.size w w' := by
  have r1 := run_sub64_0 a c
  have r2 := run_sub64 b d (sHi a c 0) sHi_le
  clear ha hb hc hd
  go_enter Tryd.func107, Tryd.ntmps107
  go_wp2
  refine bodyPost_ret (v := .agg #[.int .u64 (sLo a c 0 : Int), .int .u64 (sLo b d (sHi a c 0) : Int)]) (by simp [results, Tryd.results107, go_sem]) rfl ⟨rfl, ?_⟩
  exact (((Below.refl w.heap.size w).alloc (Nat.le_refl _) _).alloc (by simp) _).alloc (by simp; omega) _
set_option maxHeartbeats 2000000 in
set_option maxRecDepth 100000 in
theorem sub_nat_panics (a b c d : Nat) (ha : a < 18446744073709551616) (hb : b < 18446744073709551616) (hc : c < 18446744073709551616) (hd : d < 18446744073709551616) (hk : (((sHi b d (sHi a c 0) : Nat) : Int) != 0) = true) (w : World) :
    Calls Tryd.prog 107 #[.agg #[.int .u64 a, .int .u64 b], .agg #[.int .u64 c, .int .u64 d]] w fun e w' => (∃ pv, e = .panicked [{ v := .iface 9 pv, recovered := false }]) ∧ Below w.heap.size w w' := by
  have r1 := run_sub64_0 a c
  have r2 := run_sub64 b d (sHi a c 0) sHi_le
  clear ha hb hc hd
  go_enter Tryd.func107, Tryd.ntmps107
  go_wp2
  exact ⟨rfl, ⟨_, rfl⟩, (((Below.refl w.heap.size w).alloc (Nat.le_refl _) _).alloc (by simp) _).alloc (by simp; omega) _⟩
theorem uint128_Uint128_Sub.calls (a0_0 : Int) (a0_1 : Int) (a1_0 : Int) (a1_1 : Int) (r1 : Int) (r2 : Int) (w : World) (h : uint128_Uint128_Sub.f a0_0 a0_1 a1_0 a1_1 = some (r1, r2)) :
    Calls Tryd.prog 107 #[.agg #[.int .u64 a0_0, .int .u64 a0_1], .agg #[.int .u64 a1_0, .int .u64 a1_1]] w fun e w' => e = .returned (.agg #[.int .u64 r1, .int .u64 r2]) ∧ Below w.heap.size w w' := by
  unfold uint128_Uint128_Sub.f at h
  split at h
  case isFalse => cases h
  rename_i hb
  obtain ⟨ka, kb, kc, kd, kx⟩ := hb
  obtain ⟨a, rfl, ha⟩ := ka.nat
  obtain ⟨b, rfl, hb⟩ := kb.nat
  obtain ⟨c, rfl, hc⟩ := kc.nat
  obtain ⟨d, rfl, hd⟩ := kd.nat
  have e := Option.some.inj h
  simp only [halves, N128, Int.toNat_natCast, Prod.mk.injEq] at e kx
  rw [← sub_1 a b c d ha hb hc hd kx, ← sub_2 a b c d ha hb hc hd kx] at e
  obtain ⟨rfl, rfl⟩ := e
  exact sub_nat a b c d ha hb hc hd (sub_no a b c d ha hc kx) w
theorem uint128_Uint128_Sub.panics (a0_0 : Int) (a0_1 : Int) (a1_0 : Int) (a1_1 : Int) (w : World) (hu : U64 a0_0 ∧ U64 a0_1 ∧ U64 a1_0 ∧ U64 a1_1) (h : ¬ (N128 a1_0 a1_1 ≤ N128 a0_0 a0_1)) :
    Calls Tryd.prog 107 #[.agg #[.int .u64 a0_0, .int .u64 a0_1], .agg #[.int .u64 a1_0, .int .u64 a1_1]] w fun e w' => (∃ pv, e = .panicked [{ v := .iface 9 pv, recovered := false }]) ∧ Below w.heap.size w w' := by
  obtain ⟨ka, kb, kc, kd⟩ := hu
  obtain ⟨a, rfl, ha⟩ := ka.nat
  obtain ⟨b, rfl, hb⟩ := kb.nat
  obtain ⟨c, rfl, hc⟩ := kc.nat
  obtain ⟨d, rfl, hd⟩ := kd.nat
  simp only [N128, Int.toNat_natCast] at h
  exact sub_nat_panics a b c d ha hb hc hd (sub_yes a b c d ha hc h) w
/-! ### bits_Mul64: function 110 -/
def bits_Mul64.f (a0 : Int) (a1 : Int) : Option (Int × Int) := some (IntKind.u64.wrap ((IntKind.u64.wrap ((IntKind.u64.wrap ((a0 / 4294967296) * (a1 / 4294967296))) + ((IntKind.u64.wrap ((IntKind.u64.wrap ((a0 / 4294967296) * (Go.bits .and .u64 a1 4294967295))) + ((IntKind.u64.wrap ((Go.bits .and .u64 a0 4294967295) * (Go.bits .and .u64 a1 4294967295))) / 4294967296))) / 4294967296))) + ((IntKind.u64.wrap ((Go.bits .and .u64 (IntKind.u64.wrap ((IntKind.u64.wrap ((a0 / 4294967296) * (Go.bits .and .u64 a1 4294967295))) + ((IntKind.u64.wrap ((Go.bits .and .u64 a0 4294967295) * (Go.bits .and .u64 a1 4294967295))) / 4294967296))) 4294967295) + (IntKind.u64.wrap ((Go.bits .and .u64 a0 4294967295) * (a1 / 4294967296))))) / 4294967296)), IntKind.u64.wrap (a0 * a1))
set_option maxHeartbeats 8000000 in
set_option maxRecDepth 100000 in
theorem bits_Mul64.calls (a0 : Int) (a1 : Int) (r1 : Int) (r2 : Int) (w : World) (h : bits_Mul64.f a0 a1 = some (r1, r2)) :
    Calls Tryd.prog 110 #[.int .u64 a0, .int .u64 a1] w fun e w' => e = .returned (.tuple #[.int .u64 r1, .int .u64 r2]) ∧ Drawn0 w w' := by
  have H : (some (IntKind.u64.wrap ((IntKind.u64.wrap ((IntKind.u64.wrap ((a0 / 4294967296) * (a1 / 4294967296))) + ((IntKind.u64.wrap ((IntKind.u64.wrap ((a0 / 4294967296) * (Go.bits .and .u64 a1 4294967295))) + ((IntKind.u64.wrap ((Go.bits .and .u64 a0 4294967295) * (Go.bits .and .u64 a1 4294967295))) / 4294967296))) / 4294967296))) + ((IntKind.u64.wrap ((Go.bits .and .u64 (IntKind.u64.wrap ((IntKind.u64.wrap ((a0 / 4294967296) * (Go.bits .and .u64 a1 4294967295))) + ((IntKind.u64.wrap ((Go.bits .and .u64 a0 4294967295) * (Go.bits .and .u64 a1 4294967295))) / 4294967296))) 4294967295) + (IntKind.u64.wrap ((Go.bits .and .u64 a0 4294967295) * (a1 / 4294967296))))) / 4294967296)), IntKind.u64.wrap (a0 * a1))) = some (r1, r2) := h
  clear h
  simp only [Option.some.injEq, Prod.mk.injEq] at H
  obtain ⟨rfl, rfl⟩ := H
  go_enter Tryd.func110, Tryd.ntmps110
  go_wp2
  go_ret2
  exact ⟨by first | rfl | (simp; done) | (simp [*]; done), by repeat (first | exact Drawn0.refl _ | apply Drawn0.step)⟩
def mHi (x y : Nat) : Nat := x * y / 18446744073709551616
def mLo (x y : Nat) : Nat := x * y % 18446744073709551616
theorem mul64_law (x y : Nat) (hx : x < 18446744073709551616) (hy : y < 18446744073709551616) : bits_Mul64.f (x : Int) (y : Int) = some ((mHi x y : Int), (mLo x y : Int)) := by
  unfold bits_Mul64.f mHi mLo
  simp only [IntKind.wrap_u64, and_low32 (x : Int) (by omega) (by omega), and_low32 (y : Int) (by omega) (by omega)]
  rw [and_low32 _ (by omega) (by omega), mul64_arith (x : Int) (y : Int) (by omega) (by omega) (by omega) (by omega)]
  rfl
theorem mHi_lt {x y : Nat} (hx : x < 18446744073709551616) (hy : y < 18446744073709551616) : mHi x y < 18446744073709551616 := by
  unfold mHi
  apply Nat.div_lt_of_lt_mul
  exact Nat.mul_lt_mul'' hx hy
theorem mLo_lt {x y : Nat} : mLo x y < 18446744073709551616 := Nat.mod_lt _ (by decide)
/-! ### bits_Add64: function 111 -/
def aLo (x y c : Nat) : Nat := (x + y + c) % 18446744073709551616
def aHi (x y c : Nat) : Nat := (x + y + c) / 18446744073709551616
theorem aHi_le {x y c : Nat} (hx : x < 18446744073709551616) (hy : y < 18446744073709551616) (hc : c ≤ 1) : aHi x y c ≤ 1 := by unfold aHi; omega
theorem run_add64_c0 (x y : Nat) (w : World) : (callFunc 111 #[.int .u64 (x : Int), .int .u64 (y : Int), .int .u64 ((0 : Nat) : Int)]).run Tryd.prog w = .ok (.value (.tuple #[.int .u64 (aLo x y 0 : Int), .int .u64 (aHi x y 0 : Int)])) w := by kernel_rfl
theorem run_add64_c1 (x y : Nat) (w : World) : (callFunc 111 #[.int .u64 (x : Int), .int .u64 (y : Int), .int .u64 ((1 : Nat) : Int)]).run Tryd.prog w = .ok (.value (.tuple #[.int .u64 (aLo x y 1 : Int), .int .u64 (aHi x y 1 : Int)])) w := by kernel_rfl
theorem run_add64 (x y c : Nat) (h : c ≤ 1) (w : World) : (callFunc 111 #[.int .u64 (x : Int), .int .u64 (y : Int), .int .u64 (c : Int)]).run Tryd.prog w = .ok (.value (.tuple #[.int .u64 (aLo x y c : Int), .int .u64 (aHi x y c : Int)])) w := by
  have : c = 0 ∨ c = 1 := by omega
  rcases this with rfl | rfl
  · exact run_add64_c0 x y w
  · exact run_add64_c1 x y w
theorem run_add64_0 (x y : Nat) (w : World) : (callFunc 111 #[.int .u64 (x : Int), .int .u64 (y : Int), .int .u64 0]).run Tryd.prog w = .ok (.value (.tuple #[.int .u64 (aLo x y 0 : Int), .int .u64 (aHi x y 0 : Int)])) w := run_add64_c0 x y w
theorem run_add64_zc (x c : Nat) (h : c ≤ 1) (w : World) : (callFunc 111 #[.int .u64 (x : Int), .int .u64 0, .int .u64 (c : Int)]).run Tryd.prog w = .ok (.value (.tuple #[.int .u64 (aLo x 0 c : Int), .int .u64 (aHi x 0 c : Int)])) w := run_add64 x 0 c h w
/-! ### uint128_Uint128_Mul64: function 108 -/
def uint128_Uint128_Mul64.f (a0_0 a0_1 a1 : Int) : Option (Int × Int) :=
  if (U64 a0_0 ∧ U64 a0_1 ∧ U64 a1) ∧ N128 a0_0 a0_1 * a1.toNat < 340282366920938463463374607431768211456 then some (halves (N128 a0_0 a0_1 * a1.toNat)) else none
theorem muln_val (a b c : Nat) : (a + b * 18446744073709551616) * c = a * c + b * c * 18446744073709551616 := by grind
theorem muln_no (a b c : Nat) (h : a * c + b * c * 18446744073709551616 < 340282366920938463463374607431768211456) :
    (((mHi b c : Nat) : Int) != 0) = false ∧ (((aHi (mHi a c) (mLo b c) 0 : Nat) : Int) != 0) = false := by
  have h1 : mHi b c = 0 := by unfold mHi; omega
  have h2 : aHi (mHi a c) (mLo b c) 0 = 0 := by unfold aHi mHi mLo; omega
  rw [h1, h2]
  exact ⟨rfl, rfl⟩
theorem muln_yes (a b c : Nat) (h : ¬ a * c + b * c * 18446744073709551616 < 340282366920938463463374607431768211456) :
    (((mHi b c : Nat) : Int) != 0) = true ∨ ((((mHi b c : Nat) : Int) != 0) = false ∧ (((aHi (mHi a c) (mLo b c) 0 : Nat) : Int) != 0) = true) := by
  by_cases h1 : mHi b c = 0
  · right
    have h2 : aHi (mHi a c) (mLo b c) 0 ≠ 0 := by unfold aHi mHi mLo; unfold mHi at h1; omega
    rw [h1, bne_iff_ne]
    exact ⟨rfl, by omega⟩
  · left
    rw [bne_iff_ne]
    omega
theorem muln_1 (a b c : Nat) (h : a * c + b * c * 18446744073709551616 < 340282366920938463463374607431768211456) : mLo a c = (a * c + b * c * 18446744073709551616) % 18446744073709551616 ∧ aLo (mHi a c) (mLo b c) 0 = (a * c + b * c * 18446744073709551616) / 18446744073709551616 % 18446744073709551616 := by
  unfold aLo mHi mLo
  omega
set_option maxHeartbeats 2000000 in
set_option maxRecDepth 100000 in
theorem mul64n_nat (a b c : Nat) (ha : a < 18446744073709551616) (hb : b < 18446744073709551616) (hc : c < 18446744073709551616) (hk : (((mHi b c : Nat) : Int) != 0) = false ∧ (((aHi (mHi a c) (mLo b c) 0 : Nat) : Int) != 0) = false) (w : World) :
    Calls Tryd.prog 108 #[.agg #[.int .u64 a, .int .u64 b], .int .u64 c] w fun e w' => e = .returned (.agg #[.int .u64 (mLo a c : Int), .int .u64 (aLo (mHi a c) (mLo b c) 0 : Int)]) ∧ Below w.heap.size w w' := by
  have m1 := Lib.hid (mul64_law a c ha hc)
  have m2 := Lib.hid (mul64_law b c hb hc)
  have r1 := run_add64_0 (mHi a c) (mLo b c)
  obtain ⟨k1, k2⟩ := hk
  clear ha hb hc
  go_enter Tryd.func108, Tryd.ntmps108
  go_wp2_with fail
  refine (bits_Mul64.calls _ _ _ _ _ m1.out).mono ?_
  rintro e w1 ⟨rfl, ⟨⟨n1, rfl⟩⟩⟩
  go_wp2_with fail
  refine (bits_Mul64.calls _ _ _ _ _ m2.out).mono ?_
  rintro e w1 ⟨rfl, ⟨⟨n2, rfl⟩⟩⟩
  go_wp2
  refine bodyPost_ret (v := .agg #[.int .u64 (mLo a c : Int), .int .u64 (aLo (mHi a c) (mLo b c) 0 : Int)]) (by simp [results, Tryd.results108, go_sem]) rfl ⟨rfl, ?_⟩
  exact by repeat (first | exact Below.refl _ _ | apply pw_below_drewN | apply below_alloc | refine Below.setCell ?_ (by (try simp only [Nat.le_refl]); omega) _)
set_option maxHeartbeats 2000000 in
set_option maxRecDepth 100000 in
theorem mul64n_panics (a b c : Nat) (ha : a < 18446744073709551616) (hb : b < 18446744073709551616) (hc : c < 18446744073709551616) (hk : (((mHi b c : Nat) : Int) != 0) = true ∨ ((((mHi b c : Nat) : Int) != 0) = false ∧ (((aHi (mHi a c) (mLo b c) 0 : Nat) : Int) != 0) = true)) (w : World) :
    Calls Tryd.prog 108 #[.agg #[.int .u64 a, .int .u64 b], .int .u64 c] w fun e w' => (∃ pv, e = .panicked [{ v := .iface 9 pv, recovered := false }]) ∧ Below w.heap.size w w' := by
  have m1 := Lib.hid (mul64_law a c ha hc)
  have m2 := Lib.hid (mul64_law b c hb hc)
  have r1 := run_add64_0 (mHi a c) (mLo b c)
  clear ha hb hc
  rcases hk with k1 | ⟨k1, k2⟩
  all_goals
    go_enter Tryd.func108, Tryd.ntmps108
    go_wp2_with fail
    refine (bits_Mul64.calls _ _ _ _ _ m1.out).mono ?_
    rintro e w1 ⟨rfl, ⟨⟨n1, rfl⟩⟩⟩
    go_wp2_with fail
    refine (bits_Mul64.calls _ _ _ _ _ m2.out).mono ?_
    rintro e w1 ⟨rfl, ⟨⟨n2, rfl⟩⟩⟩
    go_wp2
    exact ⟨rfl, ⟨_, rfl⟩, by repeat (first | exact Below.refl _ _ | apply pw_below_drewN | apply below_alloc | refine Below.setCell ?_ (by (try simp only [Nat.le_refl]); omega) _)⟩
theorem uint128_Uint128_Mul64.calls (a0_0 : Int) (a0_1 : Int) (a1 : Int) (r1 : Int) (r2 : Int) (w : World) (h : uint128_Uint128_Mul64.f a0_0 a0_1 a1 = some (r1, r2)) :
    Calls Tryd.prog 108 #[.agg #[.int .u64 a0_0, .int .u64 a0_1], .int .u64 a1] w fun e w' => e = .returned (.agg #[.int .u64 r1, .int .u64 r2]) ∧ Below w.heap.size w w' := by
  unfold uint128_Uint128_Mul64.f at h
  split at h
  case isFalse => cases h
  rename_i hb
  obtain ⟨⟨ka, kb, kc⟩, kx⟩ := hb
  obtain ⟨a, rfl, ha⟩ := ka.nat
  obtain ⟨b, rfl, hb⟩ := kb.nat
  obtain ⟨c, rfl, hc⟩ := kc.nat
  have e := Option.some.inj h
  simp only [halves, N128, Int.toNat_natCast, Prod.mk.injEq, muln_val] at e kx
  rw [← (muln_1 a b c kx).1, ← (muln_1 a b c kx).2] at e
  obtain ⟨rfl, rfl⟩ := e
  exact mul64n_nat a b c ha hb hc (muln_no a b c kx) w
theorem uint128_Uint128_Mul64.panics (a0_0 : Int) (a0_1 : Int) (a1 : Int) (w : World) (hu : U64 a0_0 ∧ U64 a0_1 ∧ U64 a1) (h : ¬ (N128 a0_0 a0_1 * a1.toNat < 340282366920938463463374607431768211456)) :
    Calls Tryd.prog 108 #[.agg #[.int .u64 a0_0, .int .u64 a0_1], .int .u64 a1] w fun e w' => (∃ pv, e = .panicked [{ v := .iface 9 pv, recovered := false }]) ∧ Below w.heap.size w w' := by
  obtain ⟨ka, kb, kc⟩ := hu
  obtain ⟨a, rfl, ha⟩ := ka.nat
  obtain ⟨b, rfl, hb⟩ := kb.nat
  obtain ⟨c, rfl, hc⟩ := kc.nat
  simp only [N128, Int.toNat_natCast, muln_val] at h
  exact mul64n_panics a b c ha hb hc (muln_yes a b c h) w
/-! ### uint128_Uint128_Add64: function 109 -/
theorem addw64_1 (a b c : Nat) : aLo a c 0 = (a + b * 18446744073709551616 + c) % 18446744073709551616 := by unfold aLo; omega
theorem addw64_2 (a b c : Nat) (ha : a < 18446744073709551616) (hc : c < 18446744073709551616) : aLo b 0 (aHi a c 0) = (a + b * 18446744073709551616 + c) / 18446744073709551616 % 18446744073709551616 := by unfold aLo aHi; omega
def uint128_Uint128_Add64.f (a0_0 a0_1 a1 : Int) : Option (Int × Int) :=
  if U64 a0_0 ∧ U64 a0_1 ∧ U64 a1 ∧ N128 a0_0 a0_1 + a1.toNat < 340282366920938463463374607431768211456 then some (halves (N128 a0_0 a0_1 + a1.toNat)) else none
theorem addn_no (a b c : Nat) (ha : a < 18446744073709551616) (hc : c < 18446744073709551616) (h : a + b * 18446744073709551616 + c < 340282366920938463463374607431768211456) : (((aHi b 0 (aHi a c 0) : Nat) : Int) != 0) = false := by
  have : aHi b 0 (aHi a c 0) = 0 := by unfold aHi; omega
  rw [this]; rfl
theorem addn_yes (a b c : Nat) (ha : a < 18446744073709551616) (hc : c < 18446744073709551616) (h : ¬ a + b * 18446744073709551616 + c < 340282366920938463463374607431768211456) : (((aHi b 0 (aHi a c 0) : Nat) : Int) != 0) = true := by
  have : aHi b 0 (aHi a c 0) ≠ 0 := by unfold aHi; omega
  rw [bne_iff_ne]; omega
set_option maxHeartbeats 2000000 in
set_option maxRecDepth 100000 in
theorem addn_nat (a b c : Nat) (ha : a < 18446744073709551616) (hb : b < 18446744073709551616) (hc : c < 18446744073709551616) (hk : (((aHi b 0 (aHi a c 0) : Nat) : Int) != 0) = false) (w : World) :
    Calls Tryd.prog 109 #[.agg #[.int .u64 a, .int .u64 b], .int .u64 c] w fun e w' => e = .returned (.agg #[.int .u64 (aLo a c 0 : Int), .int .u64 (aLo b 0 (aHi a c 0) : Int)]) ∧ Below w.heap.size w w' := by
  have r1 := run_add64_0 a c
  have r2 := run_add64_zc b (aHi a c 0) (aHi_le ha hc (by decide))
  clear ha hb hc
  go_enter Tryd.func109, Tryd.ntmps109
  go_wp2
  refine bodyPost_ret (v := .agg #[.int .u64 (aLo a c 0 : Int), .int .u64 (aLo b 0 (aHi a c 0) : Int)]) (by simp [results, Tryd.results109, go_sem]) rfl ⟨rfl, ?_⟩
  exact ((Below.refl w.heap.size w).alloc (Nat.le_refl _) _).alloc (by simp) _
set_option maxHeartbeats 2000000 in
set_option maxRecDepth 100000 in
theorem addn_nat_panics (a b c : Nat) (ha : a < 18446744073709551616) (hb : b < 18446744073709551616) (hc : c < 18446744073709551616) (hk : (((aHi b 0 (aHi a c 0) : Nat) : Int) != 0) = true) (w : World) :
    Calls Tryd.prog 109 #[.agg #[.int .u64 a, .int .u64 b], .int .u64 c] w fun e w' => (∃ pv, e = .panicked [{ v := .iface 9 pv, recovered := false }]) ∧ Below w.heap.size w w' := by
  have r1 := run_add64_0 a c
  have r2 := run_add64_zc b (aHi a c 0) (aHi_le ha hc (by decide))
  clear ha hb hc
  go_enter Tryd.func109, Tryd.ntmps109
  go_wp2
  exact ⟨rfl, ⟨_, rfl⟩, ((Below.refl w.heap.size w).alloc (Nat.le_refl _) _).alloc (by simp) _⟩
theorem uint128_Uint128_Add64.calls (a0_0 : Int) (a0_1 : Int) (a1 : Int) (r1 : Int) (r2 : Int) (w : World) (h : uint128_Uint128_Add64.f a0_0 a0_1 a1 = some (r1, r2)) :
    Calls Tryd.prog 109 #[.agg #[.int .u64 a0_0, .int .u64 a0_1], .int .u64 a1] w fun e w' => e = .returned (.agg #[.int .u64 r1, .int .u64 r2]) ∧ Below w.heap.size w w' := by
  unfold uint128_Uint128_Add64.f at h
  split at h
  case isFalse => cases h
  rename_i hb
  obtain ⟨ka, kb, kc, kx⟩ := hb
  obtain ⟨a, rfl, ha⟩ := ka.nat
  obtain ⟨b, rfl, hb⟩ := kb.nat
  obtain ⟨c, rfl, hc⟩ := kc.nat
  have e := Option.some.inj h
  simp only [halves, N128, Int.toNat_natCast, Prod.mk.injEq] at e kx
  rw [← addw64_1 a b c, ← addw64_2 a b c ha hc] at e
  obtain ⟨rfl, rfl⟩ := e
  exact addn_nat a b c ha hb hc (addn_no a b c ha hc kx) w
theorem uint128_Uint128_Add64.panics (a0_0 : Int) (a0_1 : Int) (a1 : Int) (w : World) (hu : U64 a0_0 ∧ U64 a0_1 ∧ U64 a1) (h : ¬ (N128 a0_0 a0_1 + a1.toNat < 340282366920938463463374607431768211456)) :
    Calls Tryd.prog 109 #[.agg #[.int .u64 a0_0, .int .u64 a0_1], .int .u64 a1] w fun e w' => (∃ pv, e = .panicked [{ v := .iface 9 pv, recovered := false }]) ∧ Below w.heap.size w w' := by
  obtain ⟨ka, kb, kc⟩ := hu
  obtain ⟨a, rfl, ha⟩ := ka.nat
  obtain ⟨b, rfl, hb⟩ := kb.nat
  obtain ⟨c, rfl, hc⟩ := kc.nat
  simp only [N128, Int.toNat_natCast] at h
  exact addn_nat_panics a b c ha hb hc (addn_yes a b c ha hc h) w
end Go.Proofs.YtiifnofghicnaaaDoor.PAll
