/- Printed by the kit's print.py, called for several laws at once: functions as plain Lean, and the walks' contracts. -/
import Derived.Test.YtiifnofghicnaaaQAllx0
import Derived.Test.YtiifnofghicnaaaQAllx10
import Derived.Test.YtiifnofghicnaaaQAllx11
import Derived.Test.YtiifnofghicnaaaQAllx12
namespace Go.Proofs.Ytiifnofghicnaaa.PAll
open Go.RowKit Go.Proofs.YtiifnofghicnaaaW.PrintWords Go.Proofs.YtiifnofghicnaaaW.PrintLast Go.Proofs.YtiifnofghicnaaaW.PrintMore
attribute [local go_sem] max2_int min2_int max_two min_two max_three min_three max_four min_four   -- for this text's walks alone
set_option linter.unusedVariables false
set_option linter.unusedSimpArgs false

/-! ### uint128_Uint128_RotateLeft: function 114 -/
def uint128_Uint128_RotateLeft.f (a0_0 : Int) (a0_1 : Int) (a1 : Int) : Option (Int × Int) := (uint128_Uint128_Lsh.f a0_0 a0_1 (Go.bits .and .u64 (IntKind.u64.wrap (a1)) 127)).bind fun bt579 => ((uint128_Uint128_Rsh.f a0_0 a0_1 (IntKind.u64.wrap (128 - (Go.bits .and .u64 (IntKind.u64.wrap (a1)) 127)))).bind fun bt581 => ((uint128_Uint128_Or.f bt579.1 bt579.2 bt581.1 bt581.2).bind fun bt583 => (some (bt583.1, bt583.2))))
def uint128_Uint128_RotateLeft.T2 : Bool × List (List Nat × List Nat) := (true, [([], []), ([], []), ([0, 1], [0, 1]), ([], []), ([], []), ([4], [4]), ([3, 5, 2], [3, 5]), ([2, 6, 6], [2, 6]), ([7, 7, 0, 1, 2, 3, 4, 5, 6, 7], [7])])
def uint128_Uint128_RotateLeft.B2 : List Nat := [0, 0, 3, 0, 0, 16, 63, 127, 255]
theorem uint128_Uint128_RotateLeft.tab2 : rtab .any (opsOf Try.f114 2) = uint128_Uint128_RotateLeft.T2 := by kernel_rfl
theorem uint128_Uint128_RotateLeft.bits2 : waitsOk uint128_Uint128_RotateLeft.T2.2 uint128_Uint128_RotateLeft.B2 = true := by kernel_rfl
set_option maxHeartbeats 8000000 in
set_option maxRecDepth 100000 in
theorem uint128_Uint128_RotateLeft.calls (a0_0 : Int) (a0_1 : Int) (a1 : Int) (r1 : Int) (r2 : Int) (w : World) (h : uint128_Uint128_RotateLeft.f a0_0 a0_1 a1 = some (r1, r2)) :
    Calls Try.prog 114 #[.agg #[.int .u64 a0_0, .int .u64 a0_1], .int .i64 a1] w fun e w' => e = .returned (.agg #[.int .u64 r1, .int .u64 r2]) ∧ Below w.heap.size w w' := by
  have hu59 := Try.underlying59
  have HB := Aside0.mk (Below.refl w.heap.size w)
  have H : ((uint128_Uint128_Lsh.f a0_0 a0_1 (Go.bits .and .u64 (IntKind.u64.wrap (a1)) 127)).bind fun bt579 => ((uint128_Uint128_Rsh.f a0_0 a0_1 (IntKind.u64.wrap (128 - (Go.bits .and .u64 (IntKind.u64.wrap (a1)) 127)))).bind fun bt581 => ((uint128_Uint128_Or.f bt579.1 bt579.2 bt581.1 bt581.2).bind fun bt583 => (some (bt583.1, bt583.2))))) = some (r1, r2) := h
  clear h
  replace H := Option.bind_eq_some_iff.mp H
  obtain ⟨⟨t579, t580⟩, A30, H⟩ := H
  replace H : ((uint128_Uint128_Rsh.f a0_0 a0_1 (IntKind.u64.wrap (128 - (Go.bits .and .u64 (IntKind.u64.wrap (a1)) 127)))).bind fun bt581 => ((uint128_Uint128_Or.f t579 t580 bt581.1 bt581.2).bind fun bt583 => (some (bt583.1, bt583.2)))) = some (r1, r2) := H
  have A3 := Aside0.mk A30
  clear A30
  replace H := Option.bind_eq_some_iff.mp H
  obtain ⟨⟨t581, t582⟩, A40, H⟩ := H
  replace H : ((uint128_Uint128_Or.f t579 t580 t581 t582).bind fun bt583 => (some (bt583.1, bt583.2))) = some (r1, r2) := H
  have A4 := Aside0.mk A40
  clear A40
  replace H := Option.bind_eq_some_iff.mp H
  obtain ⟨⟨t583, t584⟩, A50, H⟩ := H
  replace H : (some (t583, t584)) = some (r1, r2) := H
  have A5 := Aside0.mk A50
  clear A50
  simp only [Option.some.injEq, Prod.mk.injEq] at H
  obtain ⟨rfl, rfl⟩ := H
  go_enter Try.func114, Try.ntmps114
  try go_wp2_with (first | ((with_reducible refine gate_dst (N := 2) rfl ?_); refine box_event ?hg (N := 2) ?hd (cs := #[.int .u64 a0_0, .int .u64 a0_1]) (t := 59) ?hr ?_; (case hd => rfl); (case hg => rfl); (case hr => first | (go_simp; done) | (go_simp; rfl)); intro gb577 hg w6 hbox hb; have n0_ := Aside0.mk (below_step (by repeat (first | (with_reducible first | exact HB.out | apply below_alloc | apply pw_below_drewN | apply below_drew1) | exact HB.out)) hb); have n1_ := Aside0.mk (hbox); have n2_ := Aside0.mk ((by rw [hg]; exact (below_size (by repeat (first | (with_reducible first | exact HB.out | apply below_alloc | apply pw_below_drewN | apply below_drew1) | exact HB.out))) : w.heap.size ≤ gb577)); have n3_ := Aside0.mk ((by rw [hg]; exact (below_size (by repeat (first | (with_reducible first | exact HB.out | apply below_alloc | apply pw_below_drewN | apply below_drew1) | exact HB.out))) : w.heap.size ≤ gb577)); clear HB; have HB := n0_; have BK577 := n1_; have GW577 := n2_; have GE577 := n3_; clear n0_ n1_ n2_ n3_; clear hb hbox hg) | ((with_reducible refine gate_dst (N := 4) rfl ?_); refine box_event ?hg (N := 4) ?hd (cs := #[.int .u64 0, .int .u64 0]) (t := 59) ?hr ?_; (case hd => rfl); (case hg => rfl); (case hr => first | (go_simp; done) | (go_simp; rfl)); intro gb578 hg w7 hbox hb; have n0_ := Aside0.mk (blk_below (g := gb577) (o := .cells #[.int .u64 a0_0, .int .u64 a0_1] 59 (0, 0)) (by (with_reducible repeat (first | refine blk_drewN ?_ _ | refine blk_drew ?_ | refine blk_alloc ?_ _)); exact BK577.out) hb); have n1_ := Aside0.mk (below_step (by repeat (first | (with_reducible first | exact HB.out | apply below_alloc | apply pw_below_drewN | apply below_drew1 | refine below_set ?_ GE577.out) | exact HB.out)) hb); have n2_ := Aside0.mk (hbox); have n3_ := Aside0.mk ((by rw [hg]; exact (below_size (by repeat (first | (with_reducible first | exact HB.out | apply below_alloc | apply pw_below_drewN | apply below_drew1 | refine below_set ?_ GE577.out) | exact HB.out))) : w.heap.size ≤ gb578)); have n4_ := Aside0.mk ((by rw [hg]; exact (below_size (by repeat (first | (with_reducible first | exact HB.out | apply below_alloc | apply pw_below_drewN | apply below_drew1 | refine below_set ?_ GE577.out) | exact HB.out))) : w.heap.size ≤ gb578)); have n5_ := Aside0.mk ((by rw [hg]; exact Nat.ne_of_lt (blk_lt (g := gb577) (o := .cells #[.int .u64 a0_0, .int .u64 a0_1] 59 (0, 0)) (by (with_reducible repeat (first | refine blk_drewN ?_ _ | refine blk_drew ?_ | refine blk_alloc ?_ _)); exact BK577.out)) : gb577 ≠ gb578)); have n6_ := Aside0.mk ((by rw [hg]; exact Nat.ne_of_gt (blk_lt (g := gb577) (o := .cells #[.int .u64 a0_0, .int .u64 a0_1] 59 (0, 0)) (by (with_reducible repeat (first | refine blk_drewN ?_ _ | refine blk_drew ?_ | refine blk_alloc ?_ _)); exact BK577.out)) : gb578 ≠ gb577)); clear BK577; clear HB; have BK577 := n0_; have HB := n1_; have BK578 := n2_; have GW578 := n3_; have GE578 := n4_; have NB577_578 := n5_; have NB578_577 := n6_; clear n0_ n1_ n2_ n3_ n4_ n5_ n6_; clear hb hbox hg))
  have n0_ := Aside0.mk (blk_drew BK577.out)
  have n1_ := Aside0.mk (blk_drew BK578.out)
  have n2_ := Aside0.mk (below_drew1 HB.out)
  clear BK577
  clear BK578
  clear HB
  have BK577 := n0_
  have BK578 := n1_
  have HB := n2_
  clear n0_ n1_ n2_
  refine start_ (n := 9) (S := fun w' => w'.cell? ⟨gb577, 0, none⟩ = some (.int .u64 a0_0) ∧ w'.cell? ⟨gb577, 1, none⟩ = some (.int .u64 a0_1)) (ds := []) #[false, false, false, false, false, false, false, false, false] (by kernel_rfl) rfl rfl ⟨(blk_cell BK577.out 0).trans rfl, (blk_cell BK577.out 1).trans rfl⟩ (fun hHeld => ?_); refine with_tabW uint128_Uint128_RotateLeft.tab2 uint128_Uint128_RotateLeft.bits2 (fun HT_ HW_ => ?_)
  generalize w7.drew = w8 at BK577 BK578 HB hHeld ⊢
  refine pure_ (i := 1) (N := some 10) (v := ?_) (a' := ?_) #[false, true, false, false, false, false, false, false, false] rfl rfl (any_of HT_.out (by kernel_rfl)) (fun _ _ _ h => h) (Or.inl ⟨by rfl, ?_⟩) ?_ ?_
  rotate_left
  · intro w'
    go_simp
    with_reducible rfl
  rotate_left
  · simp only [Act.put, List.setIfInBounds_toArray, List.set_cons_zero, List.set_cons_succ, i64_w, i32_w]
    rfl
  refine pure_ (i := 4) (N := some 13) (v := ?_) (a' := ?_) #[false, true, false, false, true, false, false, false, false] rfl rfl (any_of HT_.out (by kernel_rfl)) (fun _ _ _ h => h) (Or.inl ⟨by rfl, ?_⟩) ?_ ?_
  rotate_left
  · intro w'
    go_simp
    with_reducible rfl
  rotate_left
  · simp only [Act.put, List.setIfInBounds_toArray, List.set_cons_zero, List.set_cons_succ, i64_w, i32_w]
    rfl
  refine pure_ (i := 5) (N := some 14) (v := ?_) (a' := ?_) #[false, true, false, false, true, true, false, false, false] rfl rfl (any_of HT_.out (by kernel_rfl)) (fun _ _ _ h => h) (Or.inl ⟨by rfl, ?_⟩) ?_ ?_
  rotate_left
  · intro w'
    go_simp
    with_reducible rfl
  rotate_left
  · simp only [Act.put, List.setIfInBounds_toArray, List.set_cons_zero, List.set_cons_succ, i64_w, i32_w]
    rfl
  refine take_ (i := 0) (N := some 9) (v := ?_) (a' := ?_) #[true, true, false, false, true, true, false, false, false] rfl rfl (take_ofW HT_.out HW_.out (by kernel_rfl)) (fun _ _ _ h => h) (Or.inl ⟨by rfl, ?_⟩) hHeld ?_ ?_
  rotate_left
  · rintro w' ⟨s0, s1⟩
    go_simp
    with_reducible rfl
  rotate_left
  · simp only [Act.put, List.setIfInBounds_toArray, List.set_cons_zero, List.set_cons_succ, i64_w, i32_w]
    rfl
  refine take_ (i := 3) (N := some 12) (v := ?_) (a' := ?_) #[true, true, false, true, true, true, false, false, false] rfl rfl (take_ofW HT_.out HW_.out (by kernel_rfl)) (fun _ _ _ h => h) (Or.inl ⟨by rfl, ?_⟩) hHeld ?_ ?_
  rotate_left
  · rintro w' ⟨s0, s1⟩
    go_simp
    with_reducible rfl
  rotate_left
  · simp only [Act.put, List.setIfInBounds_toArray, List.set_cons_zero, List.set_cons_succ, i64_w, i32_w]
    rfl
  refine one_ (i := 2) (N := some 11) #[true, true, true, true, true, true, false, false, false] rfl rfl (one_of HT_.out (by kernel_rfl)) (by decide) (fun K hK => ?_)
  refine goes_ Try.func88 (by kernel_rfl) rfl #[.agg #[.int .u64 a0_0, .int .u64 a0_1], .int .u64 (Go.bits .and .u64 (IntKind.u64.wrap (a1)) 127)] (by rfl) rfl rfl (by (try simp only [List.map_toArray, List.map_cons, List.map_nil]); first | done | rfl | (simp only [List.length_drop, List.length_take]; rfl)) ?_
  with_reducible refine (uint128_Uint128_Lsh.calls a0_0 a0_1 (Go.bits .and .u64 (IntKind.u64.wrap (a1)) 127) t579 t580 _ A3.out).mono ?_
  rintro e w9 ⟨rfl, hb⟩
  refine ⟨_, rfl, ?_⟩
  have n0_ := Aside0.mk (blk_below (g := gb577) (o := .cells #[.int .u64 a0_0, .int .u64 a0_1] 59 (0, 0)) (by (with_reducible repeat (first | refine blk_drewN ?_ _ | refine blk_drew ?_ | refine blk_alloc ?_ _)); exact BK577.out) hb)
  have n1_ := Aside0.mk (blk_below (g := gb578) (o := .cells #[.int .u64 0, .int .u64 0] 59 (0, 0)) (by (with_reducible repeat (first | refine blk_drewN ?_ _ | refine blk_drew ?_ | refine blk_alloc ?_ _)); exact BK578.out) hb)
  have n2_ := Aside0.mk (below_step (by repeat (first | (with_reducible first | exact HB.out | apply below_alloc | apply pw_below_drewN | apply below_drew1 | refine below_set ?_ GE577.out | refine below_set ?_ GE578.out) | exact HB.out)) hb)
  clear BK577
  clear BK578
  clear HB
  have BK577 := n0_
  have BK578 := n1_
  have HB := n2_
  clear n0_ n1_ n2_
  (try clear hb)
  (try clear hb2)
  (try clear hk)
  (try clear hi)
  refine hK.out _ _ ⟨(blk_cell BK577.out 0).trans rfl, (blk_cell BK577.out 1).trans rfl⟩ (fun hHeld => ?_)
  clear hK K
  refine norm_ (a' := ?_) ?_ ?_
  rotate_left
  · show Act.put _ (some 11) _ = _
    simp only [Act.put, List.setIfInBounds_toArray, List.set_cons_zero, List.set_cons_succ, i64_w, i32_w]
    rfl
  refine one_ (i := 6) (N := some 15) #[true, true, true, true, true, true, true, false, false] rfl rfl (one_of HT_.out (by kernel_rfl)) (by decide) (fun K hK => ?_)
  refine goes_ Try.func90 (by kernel_rfl) rfl #[.agg #[.int .u64 a0_0, .int .u64 a0_1], .int .u64 (IntKind.u64.wrap (128 - (Go.bits .and .u64 (IntKind.u64.wrap (a1)) 127)))] (by rfl) rfl rfl (by (try simp only [List.map_toArray, List.map_cons, List.map_nil]); first | done | rfl | (simp only [List.length_drop, List.length_take]; rfl)) ?_
  with_reducible refine (uint128_Uint128_Rsh.calls a0_0 a0_1 (IntKind.u64.wrap (128 - (Go.bits .and .u64 (IntKind.u64.wrap (a1)) 127))) t581 t582 _ A4.out).mono ?_
  rintro e w10 ⟨rfl, hb⟩
  refine ⟨_, rfl, ?_⟩
  have n0_ := Aside0.mk (blk_below (g := gb577) (o := .cells #[.int .u64 a0_0, .int .u64 a0_1] 59 (0, 0)) (by (with_reducible repeat (first | refine blk_drewN ?_ _ | refine blk_drew ?_ | refine blk_alloc ?_ _)); exact BK577.out) hb)
  have n1_ := Aside0.mk (blk_below (g := gb578) (o := .cells #[.int .u64 0, .int .u64 0] 59 (0, 0)) (by (with_reducible repeat (first | refine blk_drewN ?_ _ | refine blk_drew ?_ | refine blk_alloc ?_ _)); exact BK578.out) hb)
  have n2_ := Aside0.mk (below_step (by repeat (first | (with_reducible first | exact HB.out | apply below_alloc | apply pw_below_drewN | apply below_drew1 | refine below_set ?_ GE577.out | refine below_set ?_ GE578.out) | exact HB.out)) hb)
  clear BK577
  clear BK578
  clear HB
  have BK577 := n0_
  have BK578 := n1_
  have HB := n2_
  clear n0_ n1_ n2_
  (try clear hb)
  (try clear hb2)
  (try clear hk)
  (try clear hi)
  refine hK.out _ _ ⟨(blk_cell BK577.out 0).trans rfl, (blk_cell BK577.out 1).trans rfl⟩ (fun hHeld => ?_)
  clear hK K
  refine norm_ (a' := ?_) ?_ ?_
  rotate_left
  · show Act.put _ (some 15) _ = _
    simp only [Act.put, List.setIfInBounds_toArray, List.set_cons_zero, List.set_cons_succ, i64_w, i32_w]
    rfl
  refine one_ (i := 7) (N := some 16) #[true, true, true, true, true, true, true, true, false] rfl rfl (one_of HT_.out (by kernel_rfl)) (by decide) (fun K hK => ?_)
  refine goes_ Try.func84 (by kernel_rfl) rfl #[.agg #[.int .u64 t579, .int .u64 t580], .agg #[.int .u64 t581, .int .u64 t582]] (by rfl) rfl rfl (by (try simp only [List.map_toArray, List.map_cons, List.map_nil]); first | done | rfl | (simp only [List.length_drop, List.length_take]; rfl)) ?_
  with_reducible refine (uint128_Uint128_Or.calls t579 t580 t581 t582 t583 t584 _ A5.out).mono ?_
  rintro e w11 ⟨rfl, hb⟩
  refine ⟨_, rfl, ?_⟩
  have n0_ := Aside0.mk (blk_below (g := gb577) (o := .cells #[.int .u64 a0_0, .int .u64 a0_1] 59 (0, 0)) (by (with_reducible repeat (first | refine blk_drewN ?_ _ | refine blk_drew ?_ | refine blk_alloc ?_ _)); exact BK577.out) hb)
  have n1_ := Aside0.mk (blk_below (g := gb578) (o := .cells #[.int .u64 0, .int .u64 0] 59 (0, 0)) (by (with_reducible repeat (first | refine blk_drewN ?_ _ | refine blk_drew ?_ | refine blk_alloc ?_ _)); exact BK578.out) hb)
  have n2_ := Aside0.mk (below_step (by repeat (first | (with_reducible first | exact HB.out | apply below_alloc | apply pw_below_drewN | apply below_drew1 | refine below_set ?_ GE577.out | refine below_set ?_ GE578.out) | exact HB.out)) hb)
  clear BK577
  clear BK578
  clear HB
  have BK577 := n0_
  have BK578 := n1_
  have HB := n2_
  clear n0_ n1_ n2_
  (try clear hb)
  (try clear hb2)
  (try clear hk)
  (try clear hi)
  refine hK.out _ _ ⟨(blk_cell BK577.out 0).trans rfl, (blk_cell BK577.out 1).trans rfl⟩ (fun hHeld => ?_)
  clear hK K
  refine norm_ (a' := ?_) ?_ ?_
  rotate_left
  · show Act.put _ (some 16) _ = _
    simp only [Act.put, List.setIfInBounds_toArray, List.set_cons_zero, List.set_cons_succ, i64_w, i32_w]
    rfl
  refine one_ (i := 8) (N := none) #[true, true, true, true, true, true, true, true, true] rfl rfl (one_of HT_.out (by kernel_rfl)) (by decide) (fun K hK => ?_)
  have hs12 : w11.cell? ⟨gb578, 0, none⟩ = some (.int .u64 0) := (blk_cell BK578.out 0).trans rfl
  have hfs12 := blk_frozen BK578.out 0
  have hns12_0 := NB577_578.out
  have hms12_0 := NB578_577.out
  have hs13 : w11.cell? ⟨gb578, 1, none⟩ = some (.int .u64 0) := (blk_cell BK578.out 1).trans rfl
  have hfs13 := blk_frozen BK578.out 1
  have hns13_0 := NB577_578.out
  have hms13_0 := NB578_577.out
  refine skip_ (w1 := ?_) (by rfl) rfl ?_ ?_
  rotate_left
  · go_simp
    rfl
  refine hK.out _ _ ⟨((cell_far (p := ⟨gb578, _, none⟩) NB577_578.out _).trans (((cell_far (p := ⟨gb578, _, none⟩) NB577_578.out _).trans (hHeld.1)))), ((cell_far (p := ⟨gb578, _, none⟩) NB577_578.out _).trans (((cell_far (p := ⟨gb578, _, none⟩) NB577_578.out _).trans (hHeld.2))))⟩ (fun hHeld => ?_)
  clear hK K
  refine done_ (done_of HT_.out (by kernel_rfl)) ?_
  try go_wp2
  refine bodyPost_ret (results_cell_row rfl _ _ gb578 59 #[.int .u64 t583, .int .u64 t584] (0, 0) _ rfl (by (with_reducible repeat (first | refine blk_drewN ?_ _ | refine blk_drew ?_ | refine blk_alloc ?_ _)); refine blk_put (cs := #[.int .u64 t583, .int .u64 0]) ?_ 1 _ rfl; (with_reducible repeat (first | refine blk_drewN ?_ _ | refine blk_drew ?_ | refine blk_alloc ?_ _)); refine blk_put (cs := #[.int .u64 0, .int .u64 0]) ?_ 0 _ rfl; (with_reducible repeat (first | refine blk_drewN ?_ _ | refine blk_drew ?_ | refine blk_alloc ?_ _)); exact BK578.out) Try.underlying59 rfl (by kernel_rfl)) rfl ?_
  exact ⟨by first | rfl | (simp [errW_none, errW_some] <;> rfl) | (simp [*, errW_none, errW_some] <;> rfl), by repeat (first | (with_reducible first | exact HB.out | apply below_alloc | apply pw_below_drewN | apply below_drew1 | refine below_set ?_ GE577.out | refine below_set ?_ GE578.out) | exact HB.out)⟩


end Go.Proofs.Ytiifnofghicnaaa.PAll
