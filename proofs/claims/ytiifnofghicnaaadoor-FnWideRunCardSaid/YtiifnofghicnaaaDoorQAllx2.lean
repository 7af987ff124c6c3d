/- Printed by the kit's print.py, called for several laws at once: functions as plain Lean, and the walks' contracts. -/
import Derived.Test.YtiifnofghicnaaaDoorQAllx0
import Derived.Test.YtiifnofghicnaaaDoorQAllx1
namespace Go.Proofs.YtiifnofghicnaaaDoor.PAll
open Go.RowKit Go.Proofs.YtiifnofghicnaaaDoorW.PrintWords Go.Proofs.YtiifnofghicnaaaDoorW.PrintLast Go.Proofs.YtiifnofghicnaaaDoorW.PrintMore
attribute [local go_sem] max2_int min2_int max_two min_two max_three min_three max_four min_four   -- for this text's walks alone
set_option linter.unusedVariables false
set_option linter.unusedSimpArgs false
attribute [local go_sem high] eqA65
/-! ### uint128_Uint128_Reverse: function 96 -/
def uint128_Uint128_Reverse.f (a0_0 : Int) (a0_1 : Int) : Option (Int × Int) := (bits_Reverse64.f a0_1).bind fun t125 => ((bits_Reverse64.f a0_0).bind fun t126 => (some (t125, t126)))
def uint128_Uint128_Reverse.T1 : Bool × List (List Nat × List Nat) := (true, [([], []), ([0], [0]), ([1], [1]), ([], []), ([3], [3]), ([4, 2], [4]), ([2, 5], [2, 5]), ([6, 5, 0, 1, 2, 3, 4, 5, 6], [6])])
def uint128_Uint128_Reverse.B1 : List Nat := [0, 1, 3, 0, 8, 31, 63, 127]
theorem uint128_Uint128_Reverse.tab1 : rtab .any (opsOf Tryd.f96 1) = uint128_Uint128_Reverse.T1 := by kernel_rfl
theorem uint128_Uint128_Reverse.bits1 : waitsOk uint128_Uint128_Reverse.T1.2 uint128_Uint128_Reverse.B1 = true := by kernel_rfl
set_option maxHeartbeats 8000000 in
set_option maxRecDepth 100000 in
theorem uint128_Uint128_Reverse.calls (a0_0 : Int) (a0_1 : Int) (r1 : Int) (r2 : Int) (w : World) (h : uint128_Uint128_Reverse.f a0_0 a0_1 = some (r1, r2)) :
    Calls Tryd.prog 96 #[.agg #[.int .u64 a0_0, .int .u64 a0_1]] w fun e w' => e = .returned (.agg #[.int .u64 r1, .int .u64 r2]) ∧ Below w.heap.size w w' := by
  have hu65 := Tryd.underlying65
  have HB := Aside0.mk (Below.refl w.heap.size w)
  have H : ((bits_Reverse64.f a0_1).bind fun t125 => ((bits_Reverse64.f a0_0).bind fun t126 => (some (t125, t126)))) = some (r1, r2) := h
  clear h
  replace H := Option.bind_eq_some_iff.mp H
  obtain ⟨t125, A20, H⟩ := H
  replace H : ((bits_Reverse64.f a0_0).bind fun t126 => (some (t125, t126))) = some (r1, r2) := H
  have A2 := Aside0.mk A20
  clear A20
  replace H := Option.bind_eq_some_iff.mp H
  obtain ⟨t126, A30, H⟩ := H
  replace H : (some (t125, t126)) = some (r1, r2) := H
  have A3 := Aside0.mk A30
  clear A30
  simp only [Option.some.injEq, Prod.mk.injEq] at H
  obtain ⟨rfl, rfl⟩ := H
  go_enter Tryd.func96, Tryd.ntmps96
  try go_wp2_with (first | ((with_reducible refine gate_dst (N := 1) rfl ?_); refine box_event ?hg (N := 1) ?hd (cs := #[.int .u64 a0_0, .int .u64 a0_1]) (t := 65) ?hr ?_; (case hd => rfl); (case hg => rfl); (case hr => first | (go_simp; done) | (go_simp; rfl)); intro gb123 hg w4 hbox hb; have n0_ := Aside0.mk (below_step (by repeat (first | (with_reducible first | exact HB.out | apply below_alloc | apply pw_below_drewN | apply below_drew1) | exact HB.out)) hb); have n1_ := Aside0.mk (hbox); have n2_ := Aside0.mk ((by rw [hg]; exact (below_size (by repeat (first | (with_reducible first | exact HB.out | apply below_alloc | apply pw_below_drewN | apply below_drew1) | exact HB.out))) : w.heap.size ≤ gb123)); have n3_ := Aside0.mk ((by rw [hg]; exact (below_size (by repeat (first | (with_reducible first | exact HB.out | apply below_alloc | apply pw_below_drewN | apply below_drew1) | exact HB.out))) : w.heap.size ≤ gb123)); clear HB; have HB := n0_; have BK123 := n1_; have GW123 := n2_; have GE123 := n3_; clear n0_ n1_ n2_ n3_; clear hb hbox hg) | ((with_reducible refine gate_dst (N := 2) rfl ?_); refine box_event ?hg (N := 2) ?hd (cs := #[.int .u64 0, .int .u64 0]) (t := 65) ?hr ?_; (case hd => rfl); (case hg => rfl); (case hr => first | (go_simp; done) | (go_simp; rfl)); intro gb124 hg w5 hbox hb; have n0_ := Aside0.mk (blk_below (g := gb123) (o := .cells #[.int .u64 a0_0, .int .u64 a0_1] 65 (0, 0)) (by exact BK123.out) hb); have n1_ := Aside0.mk (below_step (by repeat (first | (with_reducible first | exact HB.out | apply below_alloc | apply pw_below_drewN | apply below_drew1 | refine below_set ?_ GE123.out) | exact HB.out)) hb); have n2_ := Aside0.mk (hbox); have n3_ := Aside0.mk ((by rw [hg]; exact (below_size (by repeat (first | (with_reducible first | exact HB.out | apply below_alloc | apply pw_below_drewN | apply below_drew1 | refine below_set ?_ GE123.out) | exact HB.out))) : w.heap.size ≤ gb124)); have n4_ := Aside0.mk ((by rw [hg]; exact (below_size (by repeat (first | (with_reducible first | exact HB.out | apply below_alloc | apply pw_below_drewN | apply below_drew1 | refine below_set ?_ GE123.out) | exact HB.out))) : w.heap.size ≤ gb124)); have n5_ := Aside0.mk ((by rw [hg]; exact Nat.ne_of_lt (blk_lt (g := gb123) (o := .cells #[.int .u64 a0_0, .int .u64 a0_1] 65 (0, 0)) (by exact BK123.out)) : gb123 ≠ gb124)); have n6_ := Aside0.mk ((by rw [hg]; exact Nat.ne_of_gt (blk_lt (g := gb123) (o := .cells #[.int .u64 a0_0, .int .u64 a0_1] 65 (0, 0)) (by exact BK123.out)) : gb124 ≠ gb123)); clear BK123; clear HB; have BK123 := n0_; have HB := n1_; have BK124 := n2_; have GW124 := n3_; have GE124 := n4_; have NB123_124 := n5_; have NB124_123 := n6_; clear n0_ n1_ n2_ n3_ n4_ n5_ n6_; clear hb hbox hg))
  have n0_ := Aside0.mk (blk_drew BK123.out)
  have n1_ := Aside0.mk (blk_drew BK124.out)
  have n2_ := Aside0.mk (below_drew1 HB.out)
  clear BK123
  clear BK124
  clear HB
  have BK123 := n0_
  have BK124 := n1_
  have HB := n2_
  clear n0_ n1_ n2_
  refine start_ (n := 8) (S := fun w' => w'.cell? ⟨gb123, 0, none⟩ = some (.int .u64 a0_0) ∧ w'.cell? ⟨gb123, 1, none⟩ = some (.int .u64 a0_1)) (ds := []) #[false, false, false, false, false, false, false, false] (by kernel_rfl) rfl rfl ⟨(blk_cell BK123.out 0).trans rfl, (blk_cell BK123.out 1).trans rfl⟩ (fun hHeld => ?_); refine with_tabW uint128_Uint128_Reverse.tab1 uint128_Uint128_Reverse.bits1 (fun HT_ HW_ => ?_)
  generalize w5.drew = w6 at BK123 BK124 HB hHeld ⊢
  refine pure_ (i := 0) (N := some 3) (v := ?_) (a' := ?_) #[true, false, false, false, false, false, false, false] rfl rfl (any_of HT_.out (by kernel_rfl)) (fun _ _ _ h => h) (Or.inl ⟨by rfl, ?_⟩) ?_ ?_
  rotate_left
  · intro w'
    go_simp
    with_reducible rfl
  rotate_left
  · simp only [Act.put, List.setIfInBounds_toArray, List.set_cons_zero, List.set_cons_succ, i64_w, i32_w]
    rfl
  refine pure_ (i := 3) (N := some 6) (v := ?_) (a' := ?_) #[true, false, false, true, false, false, false, false] rfl rfl (any_of HT_.out (by kernel_rfl)) (fun _ _ _ h => h) (Or.inl ⟨by rfl, ?_⟩) ?_ ?_
  rotate_left
  · intro w'
    go_simp
    with_reducible rfl
  rotate_left
  · simp only [Act.put, List.setIfInBounds_toArray, List.set_cons_zero, List.set_cons_succ, i64_w, i32_w]
    rfl
  refine take_ (i := 1) (N := some 4) (v := ?_) (a' := ?_) #[true, true, false, true, false, false, false, false] rfl rfl (take_ofW HT_.out HW_.out (by kernel_rfl)) (fun _ _ _ h => h) (Or.inl ⟨by rfl, ?_⟩) hHeld ?_ ?_
  rotate_left
  · rintro w' ⟨s0, s1⟩
    go_simp
    with_reducible rfl
  rotate_left
  · simp only [Act.put, List.setIfInBounds_toArray, List.set_cons_zero, List.set_cons_succ, i64_w, i32_w]
    rfl
  refine take_ (i := 4) (N := some 7) (v := ?_) (a' := ?_) #[true, true, false, true, true, false, false, false] rfl rfl (take_ofW HT_.out HW_.out (by kernel_rfl)) (fun _ _ _ h => h) (Or.inl ⟨by rfl, ?_⟩) hHeld ?_ ?_
  rotate_left
  · rintro w' ⟨s0, s1⟩
    go_simp
    with_reducible rfl
  rotate_left
  · simp only [Act.put, List.setIfInBounds_toArray, List.set_cons_zero, List.set_cons_succ, i64_w, i32_w]
    rfl
  refine one_ (i := 2) (N := some 5) #[true, true, true, true, true, false, false, false] rfl rfl (one_of HT_.out (by kernel_rfl)) (by decide) (fun K hK => ?_)
  refine goes_ Tryd.func114 (by kernel_rfl) rfl #[.int .u64 a0_1] (by rfl) rfl rfl (by (try simp only [List.map_toArray, List.map_cons, List.map_nil]); first | done | rfl | (simp only [List.length_drop, List.length_take]; rfl)) ?_
  with_reducible refine (bits_Reverse64.calls a0_1 t125 _ A2.out).mono ?_
  rintro e w' ⟨rfl, ⟨nd, rfl⟩⟩
  refine ⟨_, rfl, ?_⟩
  refine hK.out _ _ ⟨(blk_cell BK123.out 0).trans rfl, (blk_cell BK123.out 1).trans rfl⟩ (fun hHeld => ?_)
  clear hK K
  refine norm_ (a' := ?_) ?_ ?_
  rotate_left
  · show Act.put _ (some 5) _ = _
    simp only [Act.put, List.setIfInBounds_toArray, List.set_cons_zero, List.set_cons_succ, i64_w, i32_w]
    rfl
  refine one_ (i := 5) (N := some 8) #[true, true, true, true, true, true, false, false] rfl rfl (one_of HT_.out (by kernel_rfl)) (by decide) (fun K hK => ?_)
  refine goes_ Tryd.func114 (by kernel_rfl) rfl #[.int .u64 a0_0] (by rfl) rfl rfl (by (try simp only [List.map_toArray, List.map_cons, List.map_nil]); first | done | rfl | (simp only [List.length_drop, List.length_take]; rfl)) ?_
  with_reducible refine (bits_Reverse64.calls a0_0 t126 _ A3.out).mono ?_
  rintro e w' ⟨rfl, ⟨nd, rfl⟩⟩
  refine ⟨_, rfl, ?_⟩
  refine hK.out _ _ ⟨(blk_cell BK123.out 0).trans rfl, (blk_cell BK123.out 1).trans rfl⟩ (fun hHeld => ?_)
  clear hK K
  refine norm_ (a' := ?_) ?_ ?_
  rotate_left
  · show Act.put _ (some 8) _ = _
    simp only [Act.put, List.setIfInBounds_toArray, List.set_cons_zero, List.set_cons_succ, i64_w, i32_w]
    rfl
  refine pure_ (i := 6) (N := some 9) (v := ?_) (a' := ?_) #[true, true, true, true, true, true, true, false] rfl rfl (any_of HT_.out (by kernel_rfl)) (fun _ _ _ h => h) (Or.inl ⟨by rfl, ?_⟩) ?_ ?_
  rotate_left
  · intro w'
    go_simp
    with_reducible rfl
  rotate_left
  · simp only [Act.put, List.setIfInBounds_toArray, List.set_cons_zero, List.set_cons_succ, i64_w, i32_w]
    rfl
  refine one_ (i := 7) (N := none) #[true, true, true, true, true, true, true, true] rfl rfl (one_of HT_.out (by kernel_rfl)) (by decide) (fun K hK => ?_)
  have hs7 : w6.cell? ⟨gb124, 0, none⟩ = some (.int .u64 0) := (blk_cell BK124.out 0).trans rfl
  have hfs7 := blk_frozen BK124.out 0
  have hns7_0 := NB123_124.out
  have hms7_0 := NB124_123.out
  have hs8 : w6.cell? ⟨gb124, 1, none⟩ = some (.int .u64 0) := (blk_cell BK124.out 1).trans rfl
  have hfs8 := blk_frozen BK124.out 1
  have hns8_0 := NB123_124.out
  have hms8_0 := NB124_123.out
  refine skip_ (w1 := ?_) (by rfl) rfl ?_ ?_
  rotate_left
  · go_simp
    rfl
  refine hK.out _ _ ⟨((cell_far (p := ⟨gb124, _, none⟩) NB123_124.out _).trans (((cell_far (p := ⟨gb124, _, none⟩) NB123_124.out _).trans (hHeld.1)))), ((cell_far (p := ⟨gb124, _, none⟩) NB123_124.out _).trans (((cell_far (p := ⟨gb124, _, none⟩) NB123_124.out _).trans (hHeld.2))))⟩ (fun hHeld => ?_)
  clear hK K
  refine done_ (done_of HT_.out (by kernel_rfl)) ?_
  try go_wp2
  refine bodyPost_ret (results_cell_row rfl _ _ gb124 65 #[.int .u64 t125, .int .u64 t126] (0, 0) _ rfl (by (with_reducible repeat (first | refine blk_drewN ?_ _ | refine blk_drew ?_ | refine blk_alloc ?_ _)); refine blk_put (cs := #[.int .u64 t125, .int .u64 0]) ?_ 1 _ rfl; (with_reducible repeat (first | refine blk_drewN ?_ _ | refine blk_drew ?_ | refine blk_alloc ?_ _)); refine blk_put (cs := #[.int .u64 0, .int .u64 0]) ?_ 0 _ rfl; (with_reducible repeat (first | refine blk_drewN ?_ _ | refine blk_drew ?_ | refine blk_alloc ?_ _)); exact BK124.out) Tryd.underlying65 rfl (by kernel_rfl)) rfl ?_
  exact ⟨by first | rfl | (simp [errW_none, errW_some] <;> rfl) | (simp [*, errW_none, errW_some] <;> rfl), by repeat (first | (with_reducible first | exact HB.out | apply below_alloc | apply pw_below_drewN | apply below_drew1 | refine below_set ?_ GE123.out | refine below_set ?_ GE124.out) | exact HB.out)⟩
/-! ### uint128_Uint128_ReverseBytes: function 97 -/
def uint128_Uint128_ReverseBytes.f (a0_0 : Int) (a0_1 : Int) : Option (Int × Int) := (bits_ReverseBytes64.f a0_1).bind fun t129 => ((bits_ReverseBytes64.f a0_0).bind fun t130 => (some (t129, t130)))
def uint128_Uint128_ReverseBytes.T1 : Bool × List (List Nat × List Nat) := (true, [([], []), ([0], [0]), ([1], [1]), ([], []), ([3], [3]), ([4, 2], [4]), ([2, 5], [2, 5]), ([6, 5, 0, 1, 2, 3, 4, 5, 6], [6])])
def uint128_Uint128_ReverseBytes.B1 : List Nat := [0, 1, 3, 0, 8, 31, 63, 127]
theorem uint128_Uint128_ReverseBytes.tab1 : rtab .any (opsOf Tryd.f97 1) = uint128_Uint128_ReverseBytes.T1 := by kernel_rfl
theorem uint128_Uint128_ReverseBytes.bits1 : waitsOk uint128_Uint128_ReverseBytes.T1.2 uint128_Uint128_ReverseBytes.B1 = true := by kernel_rfl
set_option maxHeartbeats 8000000 in
set_option maxRecDepth 100000 in
theorem uint128_Uint128_ReverseBytes.calls (a0_0 : Int) (a0_1 : Int) (r1 : Int) (r2 : Int) (w : World) (h : uint128_Uint128_ReverseBytes.f a0_0 a0_1 = some (r1, r2)) :
    Calls Tryd.prog 97 #[.agg #[.int .u64 a0_0, .int .u64 a0_1]] w fun e w' => e = .returned (.agg #[.int .u64 r1, .int .u64 r2]) ∧ Below w.heap.size w w' := by
  have hu65 := Tryd.underlying65
  have HB := Aside0.mk (Below.refl w.heap.size w)
  have H : ((bits_ReverseBytes64.f a0_1).bind fun t129 => ((bits_ReverseBytes64.f a0_0).bind fun t130 => (some (t129, t130)))) = some (r1, r2) := h
  clear h
  replace H := Option.bind_eq_some_iff.mp H
  obtain ⟨t129, A20, H⟩ := H
  replace H : ((bits_ReverseBytes64.f a0_0).bind fun t130 => (some (t129, t130))) = some (r1, r2) := H
  have A2 := Aside0.mk A20
  clear A20
  replace H := Option.bind_eq_some_iff.mp H
  obtain ⟨t130, A30, H⟩ := H
  replace H : (some (t129, t130)) = some (r1, r2) := H
  have A3 := Aside0.mk A30
  clear A30
  simp only [Option.some.injEq, Prod.mk.injEq] at H
  obtain ⟨rfl, rfl⟩ := H
  go_enter Tryd.func97, Tryd.ntmps97
  try go_wp2_with (first | ((with_reducible refine gate_dst (N := 1) rfl ?_); refine box_event ?hg (N := 1) ?hd (cs := #[.int .u64 a0_0, .int .u64 a0_1]) (t := 65) ?hr ?_; (case hd => rfl); (case hg => rfl); (case hr => first | (go_simp; done) | (go_simp; rfl)); intro gb127 hg w4 hbox hb; have n0_ := Aside0.mk (below_step (by repeat (first | (with_reducible first | exact HB.out | apply below_alloc | apply pw_below_drewN | apply below_drew1) | exact HB.out)) hb); have n1_ := Aside0.mk (hbox); have n2_ := Aside0.mk ((by rw [hg]; exact (below_size (by repeat (first | (with_reducible first | exact HB.out | apply below_alloc | apply pw_below_drewN | apply below_drew1) | exact HB.out))) : w.heap.size ≤ gb127)); have n3_ := Aside0.mk ((by rw [hg]; exact (below_size (by repeat (first | (with_reducible first | exact HB.out | apply below_alloc | apply pw_below_drewN | apply below_drew1) | exact HB.out))) : w.heap.size ≤ gb127)); clear HB; have HB := n0_; have BK127 := n1_; have GW127 := n2_; have GE127 := n3_; clear n0_ n1_ n2_ n3_; clear hb hbox hg) | ((with_reducible refine gate_dst (N := 2) rfl ?_); refine box_event ?hg (N := 2) ?hd (cs := #[.int .u64 0, .int .u64 0]) (t := 65) ?hr ?_; (case hd => rfl); (case hg => rfl); (case hr => first | (go_simp; done) | (go_simp; rfl)); intro gb128 hg w5 hbox hb; have n0_ := Aside0.mk (blk_below (g := gb127) (o := .cells #[.int .u64 a0_0, .int .u64 a0_1] 65 (0, 0)) (by exact BK127.out) hb); have n1_ := Aside0.mk (below_step (by repeat (first | (with_reducible first | exact HB.out | apply below_alloc | apply pw_below_drewN | apply below_drew1 | refine below_set ?_ GE127.out) | exact HB.out)) hb); have n2_ := Aside0.mk (hbox); have n3_ := Aside0.mk ((by rw [hg]; exact (below_size (by repeat (first | (with_reducible first | exact HB.out | apply below_alloc | apply pw_below_drewN | apply below_drew1 | refine below_set ?_ GE127.out) | exact HB.out))) : w.heap.size ≤ gb128)); have n4_ := Aside0.mk ((by rw [hg]; exact (below_size (by repeat (first | (with_reducible first | exact HB.out | apply below_alloc | apply pw_below_drewN | apply below_drew1 | refine below_set ?_ GE127.out) | exact HB.out))) : w.heap.size ≤ gb128)); have n5_ := Aside0.mk ((by rw [hg]; exact Nat.ne_of_lt (blk_lt (g := gb127) (o := .cells #[.int .u64 a0_0, .int .u64 a0_1] 65 (0, 0)) (by exact BK127.out)) : gb127 ≠ gb128)); have n6_ := Aside0.mk ((by rw [hg]; exact Nat.ne_of_gt (blk_lt (g := gb127) (o := .cells #[.int .u64 a0_0, .int .u64 a0_1] 65 (0, 0)) (by exact BK127.out)) : gb128 ≠ gb127)); clear BK127; clear HB; have BK127 := n0_; have HB := n1_; have BK128 := n2_; have GW128 := n3_; have GE128 := n4_; have NB127_128 := n5_; have NB128_127 := n6_; clear n0_ n1_ n2_ n3_ n4_ n5_ n6_; clear hb hbox hg))
  have n0_ := Aside0.mk (blk_drew BK127.out)
  have n1_ := Aside0.mk (blk_drew BK128.out)
  have n2_ := Aside0.mk (below_drew1 HB.out)
  clear BK127
  clear BK128
  clear HB
  have BK127 := n0_
  have BK128 := n1_
  have HB := n2_
  clear n0_ n1_ n2_
  refine start_ (n := 8) (S := fun w' => w'.cell? ⟨gb127, 0, none⟩ = some (.int .u64 a0_0) ∧ w'.cell? ⟨gb127, 1, none⟩ = some (.int .u64 a0_1)) (ds := []) #[false, false, false, false, false, false, false, false] (by kernel_rfl) rfl rfl ⟨(blk_cell BK127.out 0).trans rfl, (blk_cell BK127.out 1).trans rfl⟩ (fun hHeld => ?_); refine with_tabW uint128_Uint128_ReverseBytes.tab1 uint128_Uint128_ReverseBytes.bits1 (fun HT_ HW_ => ?_)
  generalize w5.drew = w6 at BK127 BK128 HB hHeld ⊢
  refine pure_ (i := 0) (N := some 3) (v := ?_) (a' := ?_) #[true, false, false, false, false, false, false, false] rfl rfl (any_of HT_.out (by kernel_rfl)) (fun _ _ _ h => h) (Or.inl ⟨by rfl, ?_⟩) ?_ ?_
  rotate_left
  · intro w'
    go_simp
    with_reducible rfl
  rotate_left
  · simp only [Act.put, List.setIfInBounds_toArray, List.set_cons_zero, List.set_cons_succ, i64_w, i32_w]
    rfl
  refine pure_ (i := 3) (N := some 6) (v := ?_) (a' := ?_) #[true, false, false, true, false, false, false, false] rfl rfl (any_of HT_.out (by kernel_rfl)) (fun _ _ _ h => h) (Or.inl ⟨by rfl, ?_⟩) ?_ ?_
  rotate_left
  · intro w'
    go_simp
    with_reducible rfl
  rotate_left
  · simp only [Act.put, List.setIfInBounds_toArray, List.set_cons_zero, List.set_cons_succ, i64_w, i32_w]
    rfl
  refine take_ (i := 1) (N := some 4) (v := ?_) (a' := ?_) #[true, true, false, true, false, false, false, false] rfl rfl (take_ofW HT_.out HW_.out (by kernel_rfl)) (fun _ _ _ h => h) (Or.inl ⟨by rfl, ?_⟩) hHeld ?_ ?_
  rotate_left
  · rintro w' ⟨s0, s1⟩
    go_simp
    with_reducible rfl
  rotate_left
  · simp only [Act.put, List.setIfInBounds_toArray, List.set_cons_zero, List.set_cons_succ, i64_w, i32_w]
    rfl
  refine take_ (i := 4) (N := some 7) (v := ?_) (a' := ?_) #[true, true, false, true, true, false, false, false] rfl rfl (take_ofW HT_.out HW_.out (by kernel_rfl)) (fun _ _ _ h => h) (Or.inl ⟨by rfl, ?_⟩) hHeld ?_ ?_
  rotate_left
  · rintro w' ⟨s0, s1⟩
    go_simp
    with_reducible rfl
  rotate_left
  · simp only [Act.put, List.setIfInBounds_toArray, List.set_cons_zero, List.set_cons_succ, i64_w, i32_w]
    rfl
  refine one_ (i := 2) (N := some 5) #[true, true, true, true, true, false, false, false] rfl rfl (one_of HT_.out (by kernel_rfl)) (by decide) (fun K hK => ?_)
  refine goes_ Tryd.func115 (by kernel_rfl) rfl #[.int .u64 a0_1] (by rfl) rfl rfl (by (try simp only [List.map_toArray, List.map_cons, List.map_nil]); first | done | rfl | (simp only [List.length_drop, List.length_take]; rfl)) ?_
  with_reducible refine (bits_ReverseBytes64.calls a0_1 t129 _ A2.out).mono ?_
  rintro e w' ⟨rfl, ⟨nd, rfl⟩⟩
  refine ⟨_, rfl, ?_⟩
  refine hK.out _ _ ⟨(blk_cell BK127.out 0).trans rfl, (blk_cell BK127.out 1).trans rfl⟩ (fun hHeld => ?_)
  clear hK K
  refine norm_ (a' := ?_) ?_ ?_
  rotate_left
  · show Act.put _ (some 5) _ = _
    simp only [Act.put, List.setIfInBounds_toArray, List.set_cons_zero, List.set_cons_succ, i64_w, i32_w]
    rfl
  refine one_ (i := 5) (N := some 8) #[true, true, true, true, true, true, false, false] rfl rfl (one_of HT_.out (by kernel_rfl)) (by decide) (fun K hK => ?_)
  refine goes_ Tryd.func115 (by kernel_rfl) rfl #[.int .u64 a0_0] (by rfl) rfl rfl (by (try simp only [List.map_toArray, List.map_cons, List.map_nil]); first | done | rfl | (simp only [List.length_drop, List.length_take]; rfl)) ?_
  with_reducible refine (bits_ReverseBytes64.calls a0_0 t130 _ A3.out).mono ?_
  rintro e w' ⟨rfl, ⟨nd, rfl⟩⟩
  refine ⟨_, rfl, ?_⟩
  refine hK.out _ _ ⟨(blk_cell BK127.out 0).trans rfl, (blk_cell BK127.out 1).trans rfl⟩ (fun hHeld => ?_)
  clear hK K
  refine norm_ (a' := ?_) ?_ ?_
  rotate_left
  · show Act.put _ (some 8) _ = _
    simp only [Act.put, List.setIfInBounds_toArray, List.set_cons_zero, List.set_cons_succ, i64_w, i32_w]
    rfl
  refine pure_ (i := 6) (N := some 9) (v := ?_) (a' := ?_) #[true, true, true, true, true, true, true, false] rfl rfl (any_of HT_.out (by kernel_rfl)) (fun _ _ _ h => h) (Or.inl ⟨by rfl, ?_⟩) ?_ ?_
  rotate_left
  · intro w'
    go_simp
    with_reducible rfl
  rotate_left
  · simp only [Act.put, List.setIfInBounds_toArray, List.set_cons_zero, List.set_cons_succ, i64_w, i32_w]
    rfl
  refine one_ (i := 7) (N := none) #[true, true, true, true, true, true, true, true] rfl rfl (one_of HT_.out (by kernel_rfl)) (by decide) (fun K hK => ?_)
  have hs7 : w6.cell? ⟨gb128, 0, none⟩ = some (.int .u64 0) := (blk_cell BK128.out 0).trans rfl
  have hfs7 := blk_frozen BK128.out 0
  have hns7_0 := NB127_128.out
  have hms7_0 := NB128_127.out
  have hs8 : w6.cell? ⟨gb128, 1, none⟩ = some (.int .u64 0) := (blk_cell BK128.out 1).trans rfl
  have hfs8 := blk_frozen BK128.out 1
  have hns8_0 := NB127_128.out
  have hms8_0 := NB128_127.out
  refine skip_ (w1 := ?_) (by rfl) rfl ?_ ?_
  rotate_left
  · go_simp
    rfl
  refine hK.out _ _ ⟨((cell_far (p := ⟨gb128, _, none⟩) NB127_128.out _).trans (((cell_far (p := ⟨gb128, _, none⟩) NB127_128.out _).trans (hHeld.1)))), ((cell_far (p := ⟨gb128, _, none⟩) NB127_128.out _).trans (((cell_far (p := ⟨gb128, _, none⟩) NB127_128.out _).trans (hHeld.2))))⟩ (fun hHeld => ?_)
  clear hK K
  refine done_ (done_of HT_.out (by kernel_rfl)) ?_
  try go_wp2
  refine bodyPost_ret (results_cell_row rfl _ _ gb128 65 #[.int .u64 t129, .int .u64 t130] (0, 0) _ rfl (by (with_reducible repeat (first | refine blk_drewN ?_ _ | refine blk_drew ?_ | refine blk_alloc ?_ _)); refine blk_put (cs := #[.int .u64 t129, .int .u64 0]) ?_ 1 _ rfl; (with_reducible repeat (first | refine blk_drewN ?_ _ | refine blk_drew ?_ | refine blk_alloc ?_ _)); refine blk_put (cs := #[.int .u64 0, .int .u64 0]) ?_ 0 _ rfl; (with_reducible repeat (first | refine blk_drewN ?_ _ | refine blk_drew ?_ | refine blk_alloc ?_ _)); exact BK128.out) Tryd.underlying65 rfl (by kernel_rfl)) rfl ?_
  exact ⟨by first | rfl | (simp [errW_none, errW_some] <;> rfl) | (simp [*, errW_none, errW_some] <;> rfl), by repeat (first | (with_reducible first | exact HB.out | apply below_alloc | apply pw_below_drewN | apply below_drew1 | refine below_set ?_ GE127.out | refine below_set ?_ GE128.out) | exact HB.out)⟩
/-! ### uint128_Uint128_IsZero: function 98 -/
def uint128_Uint128_IsZero.f (a0_0 : Int) (a0_1 : Int) : Option (Bool) := some (a0_0 == 0 && (a0_1 == 0))
set_option maxHeartbeats 8000000 in
set_option maxRecDepth 100000 in
theorem uint128_Uint128_IsZero.calls (a0_0 : Int) (a0_1 : Int) (r : Bool) (w : World) (h : uint128_Uint128_IsZero.f a0_0 a0_1 = some r) :
    Calls Tryd.prog 98 #[.agg #[.int .u64 a0_0, .int .u64 a0_1]] w fun e w' => e = .returned (.bool r) ∧ Below w.heap.size w w' := by
  have hu65 := Tryd.underlying65
  have HB := Aside0.mk (Below.refl w.heap.size w)
  have H : (some (a0_0 == 0 && (a0_1 == 0))) = some r := h
  clear h
  obtain rfl := Option.some.inj H
  go_enter Tryd.func98, Tryd.ntmps98
  go_wp2_with (first | ((with_reducible refine gate_dst (N := 1) rfl ?_); refine box_event ?hg (N := 1) ?hd (cs := #[.int .u64 a0_0, .int .u64 a0_1]) (t := 65) ?hr ?_; (case hd => rfl); (case hg => rfl); (case hr => first | (go_simp; done) | (go_simp; rfl)); intro gb131 hg w2 hbox hb; have n0_ := Aside0.mk (below_step (by repeat (first | (with_reducible first | exact HB.out | apply below_alloc | apply pw_below_drewN | apply below_drew1) | exact HB.out)) hb); have n1_ := Aside0.mk (hbox); have n2_ := Aside0.mk ((by rw [hg]; exact (below_size (by repeat (first | (with_reducible first | exact HB.out | apply below_alloc | apply pw_below_drewN | apply below_drew1) | exact HB.out))) : w.heap.size ≤ gb131)); have n3_ := Aside0.mk ((by rw [hg]; exact (below_size (by repeat (first | (with_reducible first | exact HB.out | apply below_alloc | apply pw_below_drewN | apply below_drew1) | exact HB.out))) : w.heap.size ≤ gb131)); clear HB; have HB := n0_; have BK131 := n1_; have GW131 := n2_; have GE131 := n3_; clear n0_ n1_ n2_ n3_; clear hb hbox hg; have hcz3_0 : w2.cell? ⟨gb131, 0, none⟩ = some (.int .u64 a0_0) := (blk_cell BK131.out 0).trans rfl; have hcz3_1 : w2.cell? ⟨gb131, 1, none⟩ = some (.int .u64 a0_1) := (blk_cell BK131.out 1).trans rfl; have hfz3_0 := blk_frozen BK131.out 0; have hfz3_1 := blk_frozen BK131.out 1))
  go_ret
  exact ⟨by first | rfl | (simp [errW_none, errW_some] <;> rfl) | (simp [*, errW_none, errW_some] <;> rfl), by repeat (first | (with_reducible first | exact HB.out | apply below_alloc | apply pw_below_drewN | apply below_drew1 | refine below_set ?_ GE131.out) | exact HB.out)⟩
/-! ### uint128_New: function 41 -/
def uint128_New.f (a0 : Int) (a1 : Int) : Option (Int × Int) := some (a0, a1)
set_option maxHeartbeats 8000000 in
set_option maxRecDepth 100000 in
theorem uint128_New.calls (a0 : Int) (a1 : Int) (r1 : Int) (r2 : Int) (w : World) (h : uint128_New.f a0 a1 = some (r1, r2)) :
    Calls Tryd.prog 41 #[.int .u64 a0, .int .u64 a1] w fun e w' => e = .returned (.agg #[.int .u64 r1, .int .u64 r2]) ∧ Below w.heap.size w w' := by
  have hu65 := Tryd.underlying65
  have HB := Aside0.mk (Below.refl w.heap.size w)
  have H : (some (a0, a1)) = some (r1, r2) := h
  clear h
  simp only [Option.some.injEq, Prod.mk.injEq] at H
  obtain ⟨rfl, rfl⟩ := H
  go_enter Tryd.func41, Tryd.ntmps41
  go_wp2_with (first | ((with_reducible refine gate_dst (N := 4) rfl ?_); refine box_event ?hg (N := 4) ?hd (cs := #[.int .u64 0, .int .u64 0]) (t := 65) ?hr ?_; (case hd => rfl); (case hg => rfl); (case hr => first | (go_simp; done) | (go_simp; rfl)); intro gb132 hg w3 hbox hb; have n0_ := Aside0.mk (below_step (by repeat (first | (with_reducible first | exact HB.out | apply below_alloc | apply pw_below_drewN | apply below_drew1) | exact HB.out)) hb); have n1_ := Aside0.mk (hbox); have n2_ := Aside0.mk ((by rw [hg]; exact (below_size (by repeat (first | (with_reducible first | exact HB.out | apply below_alloc | apply pw_below_drewN | apply below_drew1) | exact HB.out))) : w.heap.size ≤ gb132)); have n3_ := Aside0.mk ((by rw [hg]; exact (below_size (by repeat (first | (with_reducible first | exact HB.out | apply below_alloc | apply pw_below_drewN | apply below_drew1) | exact HB.out))) : w.heap.size ≤ gb132)); clear HB; have HB := n0_; have BK132 := n1_; have GW132 := n2_; have GE132 := n3_; clear n0_ n1_ n2_ n3_; clear hb hbox hg; have hcz4_0 : w3.cell? ⟨gb132, 0, none⟩ = some (.int .u64 0) := (blk_cell BK132.out 0).trans rfl; have hcz4_1 : w3.cell? ⟨gb132, 1, none⟩ = some (.int .u64 0) := (blk_cell BK132.out 1).trans rfl; have hfz4_0 := blk_frozen BK132.out 0; have hfz4_1 := blk_frozen BK132.out 1))
  refine bodyPost_ret (results_cell_row rfl _ _ gb132 65 #[.int .u64 a0, .int .u64 a1] (0, 0) _ rfl (by (with_reducible repeat (first | refine blk_drewN ?_ _ | refine blk_drew ?_ | refine blk_alloc ?_ _)); refine blk_put (cs := #[.int .u64 a0, .int .u64 0]) ?_ 1 _ rfl; (with_reducible repeat (first | refine blk_drewN ?_ _ | refine blk_drew ?_ | refine blk_alloc ?_ _)); refine blk_put (cs := #[.int .u64 0, .int .u64 0]) ?_ 0 _ rfl; (with_reducible repeat (first | refine blk_drewN ?_ _ | refine blk_drew ?_ | refine blk_alloc ?_ _)); exact BK132.out) Tryd.underlying65 rfl (by kernel_rfl)) rfl ?_
  exact ⟨by first | rfl | (simp [errW_none, errW_some] <;> rfl) | (simp [*, errW_none, errW_some] <;> rfl), by repeat (first | (with_reducible first | exact HB.out | apply below_alloc | apply pw_below_drewN | apply below_drew1 | refine below_set ?_ GE132.out) | exact HB.out)⟩
/-! ### uint128_From64: function 42 -/
def uint128_From64.f (a0 : Int) : Option (Int × Int) := (uint128_New.f a0 0).bind fun bt134 => (some (bt134.1, bt134.2))
set_option maxHeartbeats 8000000 in
set_option maxRecDepth 100000 in
theorem uint128_From64.calls (a0 : Int) (r1 : Int) (r2 : Int) (w : World) (h : uint128_From64.f a0 = some (r1, r2)) :
    Calls Tryd.prog 42 #[.int .u64 a0] w fun e w' => e = .returned (.agg #[.int .u64 r1, .int .u64 r2]) ∧ Below w.heap.size w w' := by
  have hu65 := Tryd.underlying65
  have HB := Aside0.mk (Below.refl w.heap.size w)
  have H : ((uint128_New.f a0 0).bind fun bt134 => (some (bt134.1, bt134.2))) = some (r1, r2) := h
  clear h
  replace H := Option.bind_eq_some_iff.mp H
  obtain ⟨⟨t134, t135⟩, A20, H⟩ := H
  replace H : (some (t134, t135)) = some (r1, r2) := H
  have A2 := Aside0.mk A20
  clear A20
  simp only [Option.some.injEq, Prod.mk.injEq] at H
  obtain ⟨rfl, rfl⟩ := H
  go_enter Tryd.func42, Tryd.ntmps42
  go_wp2_with (first | ((with_reducible refine gate_dst (N := 2) rfl ?_); refine box_event ?hg (N := 2) ?hd (cs := #[.int .u64 0, .int .u64 0]) (t := 65) ?hr ?_; (case hd => rfl); (case hg => rfl); (case hr => first | (go_simp; done) | (go_simp; rfl)); intro gb133 hg w3 hbox hb; have n0_ := Aside0.mk (below_step (by repeat (first | (with_reducible first | exact HB.out | apply below_alloc | apply pw_below_drewN | apply below_drew1) | exact HB.out)) hb); have n1_ := Aside0.mk (hbox); have n2_ := Aside0.mk ((by rw [hg]; exact (below_size (by repeat (first | (with_reducible first | exact HB.out | apply below_alloc | apply pw_below_drewN | apply below_drew1) | exact HB.out))) : w.heap.size ≤ gb133)); have n3_ := Aside0.mk ((by rw [hg]; exact (below_size (by repeat (first | (with_reducible first | exact HB.out | apply below_alloc | apply pw_below_drewN | apply below_drew1) | exact HB.out))) : w.heap.size ≤ gb133)); clear HB; have HB := n0_; have BK133 := n1_; have GW133 := n2_; have GE133 := n3_; clear n0_ n1_ n2_ n3_; clear hb hbox hg) | ((with_reducible refine gate_callee (f := 41) rfl ?_); refine goesL_ (some 4) rfl rfl Tryd.func41 (by kernel_rfl) rfl #[.int .u64 a0, .int .u64 0] rfl (by (try simp only [List.map_toArray, List.map_cons, List.map_nil]); first | done | rfl | (simp only [List.length_drop, List.length_take]; rfl)) ?_; (with_reducible refine (uint128_New.calls a0 0 t134 t135 _ A2.out).mono ?_); rintro e w4 ⟨rfl, hb⟩; refine ⟨_, rfl, ?_⟩; have n0_ := Aside0.mk (blk_below (g := gb133) (o := .cells #[.int .u64 0, .int .u64 0] 65 (0, 0)) (by exact BK133.out) hb); have n1_ := Aside0.mk (below_step (by repeat (first | (with_reducible first | exact HB.out | apply below_alloc | apply pw_below_drewN | apply below_drew1 | refine below_set ?_ GE133.out) | exact HB.out)) hb); clear BK133; clear HB; have BK133 := n0_; have HB := n1_; clear n0_ n1_; (try clear hb); (try clear hb2); (try clear hk); (try clear hi); have hcz5_0 : w4.cell? ⟨gb133, 0, none⟩ = some (.int .u64 0) := (blk_cell BK133.out 0).trans rfl; have hcz5_1 : w4.cell? ⟨gb133, 1, none⟩ = some (.int .u64 0) := (blk_cell BK133.out 1).trans rfl; have hfz5_0 := blk_frozen BK133.out 0; have hfz5_1 := blk_frozen BK133.out 1))
  refine bodyPost_ret (results_cell_row rfl _ _ gb133 65 #[.int .u64 t134, .int .u64 t135] (0, 0) _ rfl (by (with_reducible repeat (first | refine blk_drewN ?_ _ | refine blk_drew ?_ | refine blk_alloc ?_ _)); refine blk_put (cs := #[.int .u64 t134, .int .u64 0]) ?_ 1 _ rfl; (with_reducible repeat (first | refine blk_drewN ?_ _ | refine blk_drew ?_ | refine blk_alloc ?_ _)); refine blk_put (cs := #[.int .u64 0, .int .u64 0]) ?_ 0 _ rfl; (with_reducible repeat (first | refine blk_drewN ?_ _ | refine blk_drew ?_ | refine blk_alloc ?_ _)); exact BK133.out) Tryd.underlying65 rfl (by kernel_rfl)) rfl ?_
  exact ⟨by first | rfl | (simp [errW_none, errW_some] <;> rfl) | (simp [*, errW_none, errW_some] <;> rfl), by repeat (first | (with_reducible first | exact HB.out | apply below_alloc | apply pw_below_drewN | apply below_drew1 | refine below_set ?_ GE133.out) | exact HB.out)⟩
/-! ### bits_Len64: function 116 -/
/-- The number of bits of n without zeros ahead. -/
def lenN (n : Nat) : Nat := if n = 0 then 0 else Nat.log2 n + 1
def len8 : ByteArray := ⟨#[0, 1, 2, 2, 3, 3, 3, 3, 4, 4, 4, 4, 4, 4, 4, 4, 5, 5, 5, 5, 5, 5, 5, 5, 5, 5, 5, 5, 5, 5, 5, 5, 6, 6, 6, 6, 6, 6, 6, 6, 6, 6, 6, 6, 6, 6, 6, 6, 6, 6, 6, 6, 6, 6, 6, 6, 6, 6, 6, 6, 6, 6, 6, 6, 7, 7, 7, 7, 7, 7, 7, 7, 7, 7, 7, 7, 7, 7, 7, 7, 7, 7, 7, 7, 7, 7, 7, 7, 7, 7, 7, 7, 7, 7, 7, 7, 7, 7, 7, 7, 7, 7, 7, 7, 7, 7, 7, 7, 7, 7, 7, 7, 7, 7, 7, 7, 7, 7, 7, 7, 7, 7, 7, 7, 7, 7, 7, 7, 8, 8, 8, 8, 8, 8, 8, 8, 8, 8, 8, 8, 8, 8, 8, 8, 8, 8, 8, 8, 8, 8, 8, 8, 8, 8, 8, 8, 8, 8, 8, 8, 8, 8, 8, 8, 8, 8, 8, 8, 8, 8, 8, 8, 8, 8, 8, 8, 8, 8, 8, 8, 8, 8, 8, 8, 8, 8, 8, 8, 8, 8, 8, 8, 8, 8, 8, 8, 8, 8, 8, 8, 8, 8, 8, 8, 8, 8, 8, 8, 8, 8, 8, 8, 8, 8, 8, 8, 8, 8, 8, 8, 8, 8, 8, 8, 8, 8, 8, 8, 8, 8, 8, 8, 8, 8, 8, 8, 8, 8, 8, 8, 8, 8, 8, 8, 8, 8, 8, 8, 8, 8, 8, 8, 8, 8, 8, 8]⟩
theorem len8_size : len8.size = 256 := by decide +kernel
theorem len8_all : (List.range 256).all (fun x => len8.data.toList.getD x 0 == UInt8.ofNat (lenN x)) = true := by decide +kernel
theorem lenN_8 (x : Nat) (h : x < 256) : lenN x ≤ 8 := by
  unfold lenN
  split
  · decide
  · rename_i h0
    have := (Nat.log2_lt h0 (k := 8)).mpr h
    omega
theorem len8_is (x : Nat) (h : x < len8.size) : (len8[x]'h).toNat = lenN x := by
  have hx : x < 256 := by rw [← len8_size]; exact h
  have a := List.all_eq_true.mp len8_all x (List.mem_range.mpr hx)
  rw [beq_iff_eq] at a
  have e : len8[x]'h = len8.data.toList.getD x 0 := by
    rw [List.getD_eq_getElem?_getD, Array.getElem?_toList, Array.getElem?_eq_getElem (by exact h)]
    rfl
  rw [e, a]
  have := lenN_8 x hx
  rw [UInt8.toNat_ofNat_of_lt' (by show lenN x < 256; omega)]
theorem w64n (n : Int) (h : 0 ≤ n ∧ n < 1000) : wrap64 n = n := by
  unfold wrap64
  omega
theorem lenN_div (x k : Nat) (h : 2 ^ k ≤ x) : lenN x = k + lenN (x / 2 ^ k) := by
  have h0 : 0 < 2 ^ k := Nat.pow_pos (by decide)
  have hx : x ≠ 0 := by omega
  have hq : x / 2 ^ k ≠ 0 := by
    have := Nat.div_pos h h0
    omega
  unfold lenN
  rw [if_neg hx, if_neg hq]
  have l1 := Nat.log2_self_le hq
  have l2 := Nat.lt_log2_self (n := x / 2 ^ k)
  generalize (x / 2 ^ k).log2 = l at *
  have e : x.log2 = k + l := by
    rw [Nat.log2_eq_iff hx, Nat.pow_add, Nat.add_assoc, Nat.pow_add]
    have d := Nat.div_add_mod x (2 ^ k)
    have m := Nat.mod_lt x h0
    constructor
    · have := Nat.mul_le_mul_left (2 ^ k) l1
      omega
    · have := Nat.mul_le_mul_left (2 ^ k) (show x / 2 ^ k + 1 ≤ 2 ^ (l + 1) by omega)
      rw [Nat.mul_add] at this
      omega
  omega
set_option maxHeartbeats 2000000 in
set_option maxRecDepth 100000 in
theorem len_000 (x : Nat) (w : World) (b0 : decide (4294967296 ≤ (x : Int)) = false) (b1 : decide (65536 ≤ (x : Int)) = false) (b2 : decide (256 ≤ (x : Int)) = false) (hv : x < 256) (e : (x : Int) % 256 = (x : Int)) :
    Calls Tryd.prog 116 #[.int .u64 (x : Int)] w fun e w' => e = .returned (.int .i64 ((0 + lenN x : Nat) : Int)) ∧ Drawn0 w w' := by
  go_enter Tryd.func116, Tryd.ntmps116
  go_wp2
  go_ret
  refine ⟨congrArg (fun z => Ending.returned (.int .i64 z)) ?_, Drawn0.refl _⟩
  have q := len8_is x (by rw [len8_size]; exact hv)
  have hb := lenN_8 x hv
  unfold len8 at q
  rw [q]
  clear q e hv b0 b1 b2
  generalize lenN x = r at *
  rw [w64n (r : Int) (by omega), w64n _ (by omega)]
  omega
set_option maxHeartbeats 2000000 in
set_option maxRecDepth 100000 in
theorem len_001 (x t : Nat) (w : World) (b0 : decide (4294967296 ≤ (x : Int)) = false) (b1 : decide (65536 ≤ (x : Int)) = false) (b2 : decide (256 ≤ (x : Int)) = true) (e2 : (x : Int) / 256 = (t : Int)) (hv : t < 256) (e : (t : Int) % 256 = (t : Int)) :
    Calls Tryd.prog 116 #[.int .u64 (x : Int)] w fun e w' => e = .returned (.int .i64 ((8 + lenN t : Nat) : Int)) ∧ Drawn0 w w' := by
  go_enter Tryd.func116, Tryd.ntmps116
  go_wp2
  go_ret
  refine ⟨congrArg (fun z => Ending.returned (.int .i64 z)) ?_, Drawn0.refl _⟩
  have q := len8_is t (by rw [len8_size]; exact hv)
  have hb := lenN_8 t hv
  unfold len8 at q
  rw [q]
  clear q e hv b0 b1 b2 e2
  generalize lenN t = r at *
  rw [w64n (r : Int) (by omega), w64n _ (by omega)]
  omega
set_option maxHeartbeats 2000000 in
set_option maxRecDepth 100000 in
theorem len_010 (x z : Nat) (w : World) (b0 : decide (4294967296 ≤ (x : Int)) = false) (b1 : decide (65536 ≤ (x : Int)) = true) (e1 : (x : Int) / 65536 = (z : Int)) (b2 : decide (256 ≤ (z : Int)) = false) (hv : z < 256) (e : (z : Int) % 256 = (z : Int)) :
    Calls Tryd.prog 116 #[.int .u64 (x : Int)] w fun e w' => e = .returned (.int .i64 ((16 + lenN z : Nat) : Int)) ∧ Drawn0 w w' := by
  go_enter Tryd.func116, Tryd.ntmps116
  go_wp2
  go_ret
  refine ⟨congrArg (fun z => Ending.returned (.int .i64 z)) ?_, Drawn0.refl _⟩
  have q := len8_is z (by rw [len8_size]; exact hv)
  have hb := lenN_8 z hv
  unfold len8 at q
  rw [q]
  clear q e hv b0 b1 b2 e1
  generalize lenN z = r at *
  rw [w64n (r : Int) (by omega), w64n _ (by omega)]
  omega
set_option maxHeartbeats 2000000 in
set_option maxRecDepth 100000 in
theorem len_011 (x z t : Nat) (w : World) (b0 : decide (4294967296 ≤ (x : Int)) = false) (b1 : decide (65536 ≤ (x : Int)) = true) (e1 : (x : Int) / 65536 = (z : Int)) (b2 : decide (256 ≤ (z : Int)) = true) (e2 : (z : Int) / 256 = (t : Int)) (hv : t < 256) (e : (t : Int) % 256 = (t : Int)) :
    Calls Tryd.prog 116 #[.int .u64 (x : Int)] w fun e w' => e = .returned (.int .i64 ((24 + lenN t : Nat) : Int)) ∧ Drawn0 w w' := by
  go_enter Tryd.func116, Tryd.ntmps116
  go_wp2
  go_ret
  refine ⟨congrArg (fun z => Ending.returned (.int .i64 z)) ?_, Drawn0.refl _⟩
  have q := len8_is t (by rw [len8_size]; exact hv)
  have hb := lenN_8 t hv
  unfold len8 at q
  rw [q]
  clear q e hv b0 b1 b2 e1 e2
  generalize lenN t = r at *
  rw [w64n (r : Int) (by omega), w64n _ (by omega)]
  omega
set_option maxHeartbeats 2000000 in
set_option maxRecDepth 100000 in
theorem len_100 (x y : Nat) (w : World) (b0 : decide (4294967296 ≤ (x : Int)) = true) (e0 : (x : Int) / 4294967296 = (y : Int)) (b1 : decide (65536 ≤ (y : Int)) = false) (b2 : decide (256 ≤ (y : Int)) = false) (hv : y < 256) (e : (y : Int) % 256 = (y : Int)) :
    Calls Tryd.prog 116 #[.int .u64 (x : Int)] w fun e w' => e = .returned (.int .i64 ((32 + lenN y : Nat) : Int)) ∧ Drawn0 w w' := by
  go_enter Tryd.func116, Tryd.ntmps116
  go_wp2
  go_ret
  refine ⟨congrArg (fun z => Ending.returned (.int .i64 z)) ?_, Drawn0.refl _⟩
  have q := len8_is y (by rw [len8_size]; exact hv)
  have hb := lenN_8 y hv
  unfold len8 at q
  rw [q]
  clear q e hv b0 b1 b2 e0
  generalize lenN y = r at *
  rw [w64n (r : Int) (by omega), w64n _ (by omega)]
  omega
set_option maxHeartbeats 2000000 in
set_option maxRecDepth 100000 in
theorem len_101 (x y t : Nat) (w : World) (b0 : decide (4294967296 ≤ (x : Int)) = true) (e0 : (x : Int) / 4294967296 = (y : Int)) (b1 : decide (65536 ≤ (y : Int)) = false) (b2 : decide (256 ≤ (y : Int)) = true) (e2 : (y : Int) / 256 = (t : Int)) (hv : t < 256) (e : (t : Int) % 256 = (t : Int)) :
    Calls Tryd.prog 116 #[.int .u64 (x : Int)] w fun e w' => e = .returned (.int .i64 ((40 + lenN t : Nat) : Int)) ∧ Drawn0 w w' := by
  go_enter Tryd.func116, Tryd.ntmps116
  go_wp2
  go_ret
  refine ⟨congrArg (fun z => Ending.returned (.int .i64 z)) ?_, Drawn0.refl _⟩
  have q := len8_is t (by rw [len8_size]; exact hv)
  have hb := lenN_8 t hv
  unfold len8 at q
  rw [q]
  clear q e hv b0 b1 b2 e0 e2
  generalize lenN t = r at *
  rw [w64n (r : Int) (by omega), w64n _ (by omega)]
  omega
set_option maxHeartbeats 2000000 in
set_option maxRecDepth 100000 in
theorem len_110 (x y z : Nat) (w : World) (b0 : decide (4294967296 ≤ (x : Int)) = true) (e0 : (x : Int) / 4294967296 = (y : Int)) (b1 : decide (65536 ≤ (y : Int)) = true) (e1 : (y : Int) / 65536 = (z : Int)) (b2 : decide (256 ≤ (z : Int)) = false) (hv : z < 256) (e : (z : Int) % 256 = (z : Int)) :
    Calls Tryd.prog 116 #[.int .u64 (x : Int)] w fun e w' => e = .returned (.int .i64 ((48 + lenN z : Nat) : Int)) ∧ Drawn0 w w' := by
  go_enter Tryd.func116, Tryd.ntmps116
  go_wp2
  go_ret
  refine ⟨congrArg (fun z => Ending.returned (.int .i64 z)) ?_, Drawn0.refl _⟩
  have q := len8_is z (by rw [len8_size]; exact hv)
  have hb := lenN_8 z hv
  unfold len8 at q
  rw [q]
  clear q e hv b0 b1 b2 e0 e1
  generalize lenN z = r at *
  rw [w64n (r : Int) (by omega), w64n _ (by omega)]
  omega
set_option maxHeartbeats 2000000 in
set_option maxRecDepth 100000 in
theorem len_111 (x y z t : Nat) (w : World) (b0 : decide (4294967296 ≤ (x : Int)) = true) (e0 : (x : Int) / 4294967296 = (y : Int)) (b1 : decide (65536 ≤ (y : Int)) = true) (e1 : (y : Int) / 65536 = (z : Int)) (b2 : decide (256 ≤ (z : Int)) = true) (e2 : (z : Int) / 256 = (t : Int)) (hv : t < 256) (e : (t : Int) % 256 = (t : Int)) :
    Calls Tryd.prog 116 #[.int .u64 (x : Int)] w fun e w' => e = .returned (.int .i64 ((56 + lenN t : Nat) : Int)) ∧ Drawn0 w w' := by
  go_enter Tryd.func116, Tryd.ntmps116
  go_wp2
  go_ret
  refine ⟨congrArg (fun z => Ending.returned (.int .i64 z)) ?_, Drawn0.refl _⟩
  have q := len8_is t (by rw [len8_size]; exact hv)
  have hb := lenN_8 t hv
  unfold len8 at q
  rw [q]
  clear q e hv b0 b1 b2 e0 e1 e2
  generalize lenN t = r at *
  rw [w64n (r : Int) (by omega), w64n _ (by omega)]
  omega
def bits_Len64.f (a0 : Int) : Option Int := if 0 ≤ a0 ∧ a0 < 18446744073709551616 then some ((lenN a0.toNat : Nat) : Int) else none
theorem bits_Len64.calls (a0 : Int) (r : Int) (w : World) (h : bits_Len64.f a0 = some r) :
    Calls Tryd.prog 116 #[.int .u64 a0] w fun e w' => e = .returned (.int .i64 r) ∧ Drawn0 w w' := by
  unfold bits_Len64.f at h
  split at h
  case isFalse => cases h
  rename_i h0
  obtain ⟨x, rfl⟩ := Int.eq_ofNat_of_zero_le h0.1
  rw [Int.toNat_natCast] at h
  obtain rfl := Option.some.inj h
  have hx : x < 18446744073709551616 := by omega
  clear h h0
  by_cases c0 : 4294967296 ≤ x
  · by_cases c1 : 65536 ≤ x / 4294967296
    · by_cases c2 : 256 ≤ x / 4294967296 / 65536
      · have ll : lenN x = 56 + lenN (((x / 4294967296) / 65536) / 256) := by
          rw [lenN_div x 32 (by omega), show (2 : Nat) ^ 32 = 4294967296 from rfl, lenN_div (x / 4294967296) 16 (by omega), show (2 : Nat) ^ 16 = 65536 from rfl, lenN_div ((x / 4294967296) / 65536) 8 (by omega), show (2 : Nat) ^ 8 = 256 from rfl]
          omega
        rw [ll]
        exact len_111 x (x / 4294967296) ((x / 4294967296) / 65536) (((x / 4294967296) / 65536) / 256) w (decide_eq_true (by omega)) (by omega) (decide_eq_true (by omega)) (by omega) (decide_eq_true (by omega)) (by omega) (by omega) (by omega)
      · have ll : lenN x = 48 + lenN ((x / 4294967296) / 65536) := by
          rw [lenN_div x 32 (by omega), show (2 : Nat) ^ 32 = 4294967296 from rfl, lenN_div (x / 4294967296) 16 (by omega), show (2 : Nat) ^ 16 = 65536 from rfl]
          omega
        rw [ll]
        exact len_110 x (x / 4294967296) ((x / 4294967296) / 65536) w (decide_eq_true (by omega)) (by omega) (decide_eq_true (by omega)) (by omega) (decide_eq_false (by omega)) (by omega) (by omega)
    · by_cases c2 : 256 ≤ x / 4294967296
      · have ll : lenN x = 40 + lenN ((x / 4294967296) / 256) := by
          rw [lenN_div x 32 (by omega), show (2 : Nat) ^ 32 = 4294967296 from rfl, lenN_div (x / 4294967296) 8 (by omega), show (2 : Nat) ^ 8 = 256 from rfl]
          omega
        rw [ll]
        exact len_101 x (x / 4294967296) ((x / 4294967296) / 256) w (decide_eq_true (by omega)) (by omega) (decide_eq_false (by omega)) (decide_eq_true (by omega)) (by omega) (by omega) (by omega)
      · have ll : lenN x = 32 + lenN (x / 4294967296) := by
          rw [lenN_div x 32 (by omega), show (2 : Nat) ^ 32 = 4294967296 from rfl]
        rw [ll]
        exact len_100 x (x / 4294967296) w (decide_eq_true (by omega)) (by omega) (decide_eq_false (by omega)) (decide_eq_false (by omega)) (by omega) (by omega)
  · by_cases c1 : 65536 ≤ x
    · by_cases c2 : 256 ≤ x / 65536
      · have ll : lenN x = 24 + lenN ((x / 65536) / 256) := by
          rw [lenN_div x 16 (by omega), show (2 : Nat) ^ 16 = 65536 from rfl, lenN_div (x / 65536) 8 (by omega), show (2 : Nat) ^ 8 = 256 from rfl]
          omega
        rw [ll]
        exact len_011 x (x / 65536) ((x / 65536) / 256) w (decide_eq_false (by omega)) (decide_eq_true (by omega)) (by omega) (decide_eq_true (by omega)) (by omega) (by omega) (by omega)
      · have ll : lenN x = 16 + lenN (x / 65536) := by
          rw [lenN_div x 16 (by omega), show (2 : Nat) ^ 16 = 65536 from rfl]
        rw [ll]
        exact len_010 x (x / 65536) w (decide_eq_false (by omega)) (decide_eq_true (by omega)) (by omega) (decide_eq_false (by omega)) (by omega) (by omega)
    · by_cases c2 : 256 ≤ x
      · have ll : lenN x = 8 + lenN (x / 256) := by
          rw [lenN_div x 8 (by omega), show (2 : Nat) ^ 8 = 256 from rfl]
        rw [ll]
        exact len_001 x (x / 256) w (decide_eq_false (by omega)) (decide_eq_false (by omega)) (decide_eq_true (by omega)) (by omega) (by omega) (by omega)
      · rw [show lenN x = 0 + lenN x by omega]
        exact len_000 x w (decide_eq_false (by omega)) (decide_eq_false (by omega)) (decide_eq_false (by omega)) (by omega) (by omega)
/-! ### bits_LeadingZeros64: function 100 -/
def bits_LeadingZeros64.f (a0 : Int) : Option (Int) := (bits_Len64.f a0).bind fun t136 => (some (wrap64 (64 - t136)))
set_option maxHeartbeats 8000000 in
set_option maxRecDepth 100000 in
theorem bits_LeadingZeros64.calls (a0 : Int) (r : Int) (w : World) (h : bits_LeadingZeros64.f a0 = some r) :
    Calls Tryd.prog 100 #[.int .u64 a0] w fun e w' => e = .returned (.int .i64 r) ∧ Drawn0 w w' := by
  have H : ((bits_Len64.f a0).bind fun t136 => (some (wrap64 (64 - t136)))) = some r := h
  clear h
  replace H := Option.bind_eq_some_iff.mp H
  obtain ⟨t136, A20, H⟩ := H
  replace H : (some (wrap64 (64 - t136))) = some r := H
  have A2 := Aside0.mk A20
  clear A20
  obtain rfl := Option.some.inj H
  go_enter Tryd.func100, Tryd.ntmps100
  go_wp2_with (first | ((with_reducible refine gate_callee (f := 116) rfl ?_); refine goesL_ (some 4) rfl rfl Tryd.func116 (by kernel_rfl) rfl #[.int .u64 a0] rfl (by (try simp only [List.map_toArray, List.map_cons, List.map_nil]); first | done | rfl | (simp only [List.length_drop, List.length_take]; rfl)) ?_; (with_reducible refine (bits_Len64.calls a0 t136 _ A2.out).mono ?_); rintro e w' ⟨rfl, ⟨nd, rfl⟩⟩; refine ⟨_, rfl, ?_⟩))
  go_ret
  exact ⟨by first | rfl | (simp; done) | (simp [*]; done), by repeat (first | exact Drawn0.refl _ | apply Drawn0.step)⟩
/-! ### gobits_Div64: function 104 -/
mutual
def gobits_Div64.j0 : Nat → Int → Int → Int → Option (Int × Int)
  | 0, _, _, _ => none
  | k + 1, x0, x1, x2 => if x2 ≤ x0 then (if 0 = 0 then (none) else (gobits_Div64.j1 k x0 x1 x2)) else (gobits_Div64.j1 k x0 x1 x2)
def gobits_Div64.j1 : Nat → Int → Int → Int → Option (Int × Int)
  | 0, _, _, _ => none
  | k + 1, x0, x1, x2 => if x0 = 0 then (if x2 = 0 then (none) else (some (IntKind.u64.wrap (Int.tdiv x1 x2), Int.tmod x1 x2))) else ((bits_LeadingZeros64.f x2).bind fun t137 => (if 0 ≤ (IntKind.u64.wrap (t137)) then (if 0 ≤ (IntKind.u64.wrap (64 - (IntKind.u64.wrap (t137)))) then (if ((shl .u64 x2 (IntKind.u64.wrap (t137))) / 4294967296) = 0 then (none) else (gobits_Div64.l0 k (shl .u64 x2 (IntKind.u64.wrap (t137))) (IntKind.u64.wrap (t137)) ((shl .u64 x2 (IntKind.u64.wrap (t137))) / 4294967296) (Go.bits .and .u64 (shl .u64 x2 (IntKind.u64.wrap (t137))) 4294967295) (Go.bits .or .u64 (shl .u64 x0 (IntKind.u64.wrap (t137))) (shr .u64 x1 (IntKind.u64.wrap (64 - (IntKind.u64.wrap (t137)))))) ((shl .u64 x1 (IntKind.u64.wrap (t137))) / 4294967296) (Go.bits .and .u64 (shl .u64 x1 (IntKind.u64.wrap (t137))) 4294967295) (IntKind.u64.wrap (Int.tdiv (Go.bits .or .u64 (shl .u64 x0 (IntKind.u64.wrap (t137))) (shr .u64 x1 (IntKind.u64.wrap (64 - (IntKind.u64.wrap (t137)))))) ((shl .u64 x2 (IntKind.u64.wrap (t137))) / 4294967296))) (IntKind.u64.wrap ((Go.bits .or .u64 (shl .u64 x0 (IntKind.u64.wrap (t137))) (shr .u64 x1 (IntKind.u64.wrap (64 - (IntKind.u64.wrap (t137)))))) - (IntKind.u64.wrap ((IntKind.u64.wrap (Int.tdiv (Go.bits .or .u64 (shl .u64 x0 (IntKind.u64.wrap (t137))) (shr .u64 x1 (IntKind.u64.wrap (64 - (IntKind.u64.wrap (t137)))))) ((shl .u64 x2 (IntKind.u64.wrap (t137))) / 4294967296))) * ((shl .u64 x2 (IntKind.u64.wrap (t137))) / 4294967296))))))) else (none)) else (none)))
def gobits_Div64.j4 : Nat → Int → Int → Int → Int → Int → Int → Int → Int → Option (Int × Int)
  | 0, _, _, _, _, _, _, _, _ => none
  | k + 1, x2, x8, x9, x10, x11, x13, x14, x15 => if x9 = 0 then (none) else (gobits_Div64.l1 k x2 x8 x9 x10 x14 x15 (IntKind.u64.wrap ((IntKind.u64.wrap ((IntKind.u64.wrap ((IntKind.u64.wrap (x11 * 4294967296)) + x13)) - (IntKind.u64.wrap (x15 * x2)))) - (IntKind.u64.wrap ((IntKind.u64.wrap (Int.tdiv (IntKind.u64.wrap ((IntKind.u64.wrap ((IntKind.u64.wrap (x11 * 4294967296)) + x13)) - (IntKind.u64.wrap (x15 * x2)))) x9)) * x9)))) (IntKind.u64.wrap ((IntKind.u64.wrap ((IntKind.u64.wrap (x11 * 4294967296)) + x13)) - (IntKind.u64.wrap (x15 * x2)))) (IntKind.u64.wrap (Int.tdiv (IntKind.u64.wrap ((IntKind.u64.wrap ((IntKind.u64.wrap (x11 * 4294967296)) + x13)) - (IntKind.u64.wrap (x15 * x2)))) x9)))
def gobits_Div64.l1 : Nat → Int → Int → Int → Int → Int → Int → Int → Int → Int → Option (Int × Int)
  | 0, _, _, _, _, _, _, _, _, _ => none
  | k + 1, x2, x8, x9, x10, x14, x15, x16, x17, x18 => if x18 ≥ 4294967296 then (gobits_Div64.j6 k x2 x8 x9 x10 x14 x15 x16 x17 x18 true) else (gobits_Div64.j6 k x2 x8 x9 x10 x14 x15 x16 x17 x18 (decide ((IntKind.u64.wrap (x18 * x10)) > (IntKind.u64.wrap ((IntKind.u64.wrap (4294967296 * x16)) + x14)))))
def gobits_Div64.j6 : Nat → Int → Int → Int → Int → Int → Int → Int → Int → Int → Bool → Option (Int × Int)
  | 0, _, _, _, _, _, _, _, _, _, _ => none
  | k + 1, x2, x8, x9, x10, x14, x15, x16, x17, x18, x113 => if x113 = true then (if (IntKind.u64.wrap (x16 + x9)) ≥ 4294967296 then (if 0 ≤ x8 then (some (IntKind.u64.wrap ((IntKind.u64.wrap (x15 * 4294967296)) + (IntKind.u64.wrap (x18 - 1))), shr .u64 (IntKind.u64.wrap ((IntKind.u64.wrap ((IntKind.u64.wrap (x17 * 4294967296)) + x14)) - (IntKind.u64.wrap ((IntKind.u64.wrap (x18 - 1)) * x2)))) x8)) else (none)) else (gobits_Div64.l1 k x2 x8 x9 x10 x14 x15 (IntKind.u64.wrap (x16 + x9)) x17 (IntKind.u64.wrap (x18 - 1)))) else (if 0 ≤ x8 then (some (IntKind.u64.wrap ((IntKind.u64.wrap (x15 * 4294967296)) + x18), shr .u64 (IntKind.u64.wrap ((IntKind.u64.wrap ((IntKind.u64.wrap (x17 * 4294967296)) + x14)) - (IntKind.u64.wrap (x18 * x2)))) x8)) else (none))
def gobits_Div64.l0 : Nat → Int → Int → Int → Int → Int → Int → Int → Int → Int → Option (Int × Int)
  | 0, _, _, _, _, _, _, _, _, _ => none
  | k + 1, x2, x8, x9, x10, x11, x13, x14, x15, x16 => if x15 ≥ 4294967296 then (gobits_Div64.j3 k x2 x8 x9 x10 x11 x13 x14 x15 x16 true) else (gobits_Div64.j3 k x2 x8 x9 x10 x11 x13 x14 x15 x16 (decide ((IntKind.u64.wrap (x15 * x10)) > (IntKind.u64.wrap ((IntKind.u64.wrap (4294967296 * x16)) + x13)))))
def gobits_Div64.j3 : Nat → Int → Int → Int → Int → Int → Int → Int → Int → Int → Bool → Option (Int × Int)
  | 0, _, _, _, _, _, _, _, _, _, _ => none
  | k + 1, x2, x8, x9, x10, x11, x13, x14, x15, x16, x78 => if x78 = true then (if (IntKind.u64.wrap (x16 + x9)) ≥ 4294967296 then (gobits_Div64.j4 k x2 x8 x9 x10 x11 x13 x14 (IntKind.u64.wrap (x15 - 1))) else (gobits_Div64.l0 k x2 x8 x9 x10 x11 x13 x14 (IntKind.u64.wrap (x15 - 1)) (IntKind.u64.wrap (x16 + x9)))) else (gobits_Div64.j4 k x2 x8 x9 x10 x11 x13 x14 x15)
end
def gobits_Div64.f (k : Nat) (a0 : Int) (a1 : Int) (a2 : Int) : Option (Int × Int) := if a2 = 0 then (if 0 = 0 then (none) else (gobits_Div64.j0 k a0 a1 a2)) else (gobits_Div64.j0 k a0 a1 a2)
theorem gobits_Div64.mono_l : ∀ k, (∀ y0 y1 y2, LeO (gobits_Div64.j0 k y0 y1 y2) (gobits_Div64.j0 (k + 1) y0 y1 y2)) ∧ (∀ y0 y1 y2, LeO (gobits_Div64.j1 k y0 y1 y2) (gobits_Div64.j1 (k + 1) y0 y1 y2)) ∧ (∀ y0 y1 y2 y3 y4 y5 y6 y7, LeO (gobits_Div64.j4 k y0 y1 y2 y3 y4 y5 y6 y7) (gobits_Div64.j4 (k + 1) y0 y1 y2 y3 y4 y5 y6 y7)) ∧ (∀ y0 y1 y2 y3 y4 y5 y6 y7 y8, LeO (gobits_Div64.l1 k y0 y1 y2 y3 y4 y5 y6 y7 y8) (gobits_Div64.l1 (k + 1) y0 y1 y2 y3 y4 y5 y6 y7 y8)) ∧ (∀ y0 y1 y2 y3 y4 y5 y6 y7 y8 y9, LeO (gobits_Div64.j6 k y0 y1 y2 y3 y4 y5 y6 y7 y8 y9) (gobits_Div64.j6 (k + 1) y0 y1 y2 y3 y4 y5 y6 y7 y8 y9)) ∧ (∀ y0 y1 y2 y3 y4 y5 y6 y7 y8, LeO (gobits_Div64.l0 k y0 y1 y2 y3 y4 y5 y6 y7 y8) (gobits_Div64.l0 (k + 1) y0 y1 y2 y3 y4 y5 y6 y7 y8)) ∧ (∀ y0 y1 y2 y3 y4 y5 y6 y7 y8 y9, LeO (gobits_Div64.j3 k y0 y1 y2 y3 y4 y5 y6 y7 y8 y9) (gobits_Div64.j3 (k + 1) y0 y1 y2 y3 y4 y5 y6 y7 y8 y9))
  | 0 => ⟨fun _ _ _ r h => by simp [gobits_Div64.j0] at h, fun _ _ _ r h => by simp [gobits_Div64.j1] at h, fun _ _ _ _ _ _ _ _ r h => by simp [gobits_Div64.j4] at h, fun _ _ _ _ _ _ _ _ _ r h => by simp [gobits_Div64.l1] at h, fun _ _ _ _ _ _ _ _ _ _ r h => by simp [gobits_Div64.j6] at h, fun _ _ _ _ _ _ _ _ _ r h => by simp [gobits_Div64.l0] at h, fun _ _ _ _ _ _ _ _ _ _ r h => by simp [gobits_Div64.j3] at h⟩
  | k + 1 => by
    obtain ⟨ih0, ih1, ih2, ih3, ih4, ih5, ih6⟩ := gobits_Div64.mono_l k
    refine ⟨?_, ?_, ?_, ?_, ?_, ?_, ?_⟩
    · intro y0 y1 y2
      unfold gobits_Div64.j0
      repeat' first
      | (with_reducible exact ih0 _ _ _)
      | (with_reducible exact ih1 _ _ _)
      | (with_reducible exact ih2 _ _ _ _ _ _ _ _)
      | (with_reducible exact ih3 _ _ _ _ _ _ _ _ _)
      | (with_reducible exact ih4 _ _ _ _ _ _ _ _ _ _)
      | (with_reducible exact ih5 _ _ _ _ _ _ _ _ _)
      | (with_reducible exact ih6 _ _ _ _ _ _ _ _ _ _)
      | (with_reducible exact LeO.refl _)
      | (with_reducible exact LeO.none _)
      | (with_reducible refine LeO.ite ?_ ?_)
      | (with_reducible refine LeO.bind ?_ (fun _ => ?_))
      | exact ih0 _ _ _
      | exact ih1 _ _ _
      | exact ih2 _ _ _ _ _ _ _ _
      | exact ih3 _ _ _ _ _ _ _ _ _
      | exact ih4 _ _ _ _ _ _ _ _ _ _
      | exact ih5 _ _ _ _ _ _ _ _ _
      | exact ih6 _ _ _ _ _ _ _ _ _ _
      | exact LeO.none _
      | refine LeO.ite ?_ ?_
      | refine LeO.bind ?_ (fun _ => ?_)
    · intro y0 y1 y2
      unfold gobits_Div64.j1
      repeat' first
      | (with_reducible exact ih0 _ _ _)
      | (with_reducible exact ih1 _ _ _)
      | (with_reducible exact ih2 _ _ _ _ _ _ _ _)
      | (with_reducible exact ih3 _ _ _ _ _ _ _ _ _)
      | (with_reducible exact ih4 _ _ _ _ _ _ _ _ _ _)
      | (with_reducible exact ih5 _ _ _ _ _ _ _ _ _)
      | (with_reducible exact ih6 _ _ _ _ _ _ _ _ _ _)
      | (with_reducible exact LeO.refl _)
      | (with_reducible exact LeO.none _)
      | (with_reducible refine LeO.ite ?_ ?_)
      | (with_reducible refine LeO.bind ?_ (fun _ => ?_))
      | exact ih0 _ _ _
      | exact ih1 _ _ _
      | exact ih2 _ _ _ _ _ _ _ _
      | exact ih3 _ _ _ _ _ _ _ _ _
      | exact ih4 _ _ _ _ _ _ _ _ _ _
      | exact ih5 _ _ _ _ _ _ _ _ _
      | exact ih6 _ _ _ _ _ _ _ _ _ _
      | exact LeO.none _
      | refine LeO.ite ?_ ?_
      | refine LeO.bind ?_ (fun _ => ?_)
    · intro y0 y1 y2 y3 y4 y5 y6 y7
      unfold gobits_Div64.j4
      repeat' first
      | (with_reducible exact ih0 _ _ _)
      | (with_reducible exact ih1 _ _ _)
      | (with_reducible exact ih2 _ _ _ _ _ _ _ _)
      | (with_reducible exact ih3 _ _ _ _ _ _ _ _ _)
      | (with_reducible exact ih4 _ _ _ _ _ _ _ _ _ _)
      | (with_reducible exact ih5 _ _ _ _ _ _ _ _ _)
      | (with_reducible exact ih6 _ _ _ _ _ _ _ _ _ _)
      | (with_reducible exact LeO.refl _)
      | (with_reducible exact LeO.none _)
      | (with_reducible refine LeO.ite ?_ ?_)
      | (with_reducible refine LeO.bind ?_ (fun _ => ?_))
      | exact ih0 _ _ _
      | exact ih1 _ _ _
      | exact ih2 _ _ _ _ _ _ _ _
      | exact ih3 _ _ _ _ _ _ _ _ _
      | exact ih4 _ _ _ _ _ _ _ _ _ _
      | exact ih5 _ _ _ _ _ _ _ _ _
      | exact ih6 _ _ _ _ _ _ _ _ _ _
      | exact LeO.none _
      | refine LeO.ite ?_ ?_
      | refine LeO.bind ?_ (fun _ => ?_)
    · intro y0 y1 y2 y3 y4 y5 y6 y7 y8
      unfold gobits_Div64.l1
      repeat' first
      | (with_reducible exact ih0 _ _ _)
      | (with_reducible exact ih1 _ _ _)
      | (with_reducible exact ih2 _ _ _ _ _ _ _ _)
      | (with_reducible exact ih3 _ _ _ _ _ _ _ _ _)
      | (with_reducible exact ih4 _ _ _ _ _ _ _ _ _ _)
      | (with_reducible exact ih5 _ _ _ _ _ _ _ _ _)
      | (with_reducible exact ih6 _ _ _ _ _ _ _ _ _ _)
      | (with_reducible exact LeO.refl _)
      | (with_reducible exact LeO.none _)
      | (with_reducible refine LeO.ite ?_ ?_)
      | (with_reducible refine LeO.bind ?_ (fun _ => ?_))
      | exact ih0 _ _ _
      | exact ih1 _ _ _
      | exact ih2 _ _ _ _ _ _ _ _
      | exact ih3 _ _ _ _ _ _ _ _ _
      | exact ih4 _ _ _ _ _ _ _ _ _ _
      | exact ih5 _ _ _ _ _ _ _ _ _
      | exact ih6 _ _ _ _ _ _ _ _ _ _
      | exact LeO.none _
      | refine LeO.ite ?_ ?_
      | refine LeO.bind ?_ (fun _ => ?_)
    · intro y0 y1 y2 y3 y4 y5 y6 y7 y8 y9
      unfold gobits_Div64.j6
      repeat' first
      | (with_reducible exact ih0 _ _ _)
      | (with_reducible exact ih1 _ _ _)
      | (with_reducible exact ih2 _ _ _ _ _ _ _ _)
      | (with_reducible exact ih3 _ _ _ _ _ _ _ _ _)
      | (with_reducible exact ih4 _ _ _ _ _ _ _ _ _ _)
      | (with_reducible exact ih5 _ _ _ _ _ _ _ _ _)
      | (with_reducible exact ih6 _ _ _ _ _ _ _ _ _ _)
      | (with_reducible exact LeO.refl _)
      | (with_reducible exact LeO.none _)
      | (with_reducible refine LeO.ite ?_ ?_)
      | (with_reducible refine LeO.bind ?_ (fun _ => ?_))
      | exact ih0 _ _ _
      | exact ih1 _ _ _
      | exact ih2 _ _ _ _ _ _ _ _
      | exact ih3 _ _ _ _ _ _ _ _ _
      | exact ih4 _ _ _ _ _ _ _ _ _ _
      | exact ih5 _ _ _ _ _ _ _ _ _
      | exact ih6 _ _ _ _ _ _ _ _ _ _
      | exact LeO.none _
      | refine LeO.ite ?_ ?_
      | refine LeO.bind ?_ (fun _ => ?_)
    · intro y0 y1 y2 y3 y4 y5 y6 y7 y8
      unfold gobits_Div64.l0
      repeat' first
      | (with_reducible exact ih0 _ _ _)
      | (with_reducible exact ih1 _ _ _)
      | (with_reducible exact ih2 _ _ _ _ _ _ _ _)
      | (with_reducible exact ih3 _ _ _ _ _ _ _ _ _)
      | (with_reducible exact ih4 _ _ _ _ _ _ _ _ _ _)
      | (with_reducible exact ih5 _ _ _ _ _ _ _ _ _)
      | (with_reducible exact ih6 _ _ _ _ _ _ _ _ _ _)
      | (with_reducible exact LeO.refl _)
      | (with_reducible exact LeO.none _)
      | (with_reducible refine LeO.ite ?_ ?_)
      | (with_reducible refine LeO.bind ?_ (fun _ => ?_))
      | exact ih0 _ _ _
      | exact ih1 _ _ _
      | exact ih2 _ _ _ _ _ _ _ _
      | exact ih3 _ _ _ _ _ _ _ _ _
      | exact ih4 _ _ _ _ _ _ _ _ _ _
      | exact ih5 _ _ _ _ _ _ _ _ _
      | exact ih6 _ _ _ _ _ _ _ _ _ _
      | exact LeO.none _
      | refine LeO.ite ?_ ?_
      | refine LeO.bind ?_ (fun _ => ?_)
    · intro y0 y1 y2 y3 y4 y5 y6 y7 y8 y9
      unfold gobits_Div64.j3
      repeat' first
      | (with_reducible exact ih0 _ _ _)
      | (with_reducible exact ih1 _ _ _)
      | (with_reducible exact ih2 _ _ _ _ _ _ _ _)
      | (with_reducible exact ih3 _ _ _ _ _ _ _ _ _)
      | (with_reducible exact ih4 _ _ _ _ _ _ _ _ _ _)
      | (with_reducible exact ih5 _ _ _ _ _ _ _ _ _)
      | (with_reducible exact ih6 _ _ _ _ _ _ _ _ _ _)
      | (with_reducible exact LeO.refl _)
      | (with_reducible exact LeO.none _)
      | (with_reducible refine LeO.ite ?_ ?_)
      | (with_reducible refine LeO.bind ?_ (fun _ => ?_))
      | exact ih0 _ _ _
      | exact ih1 _ _ _
      | exact ih2 _ _ _ _ _ _ _ _
      | exact ih3 _ _ _ _ _ _ _ _ _
      | exact ih4 _ _ _ _ _ _ _ _ _ _
      | exact ih5 _ _ _ _ _ _ _ _ _
      | exact ih6 _ _ _ _ _ _ _ _ _ _
      | exact LeO.none _
      | refine LeO.ite ?_ ?_
      | refine LeO.bind ?_ (fun _ => ?_)
theorem gobits_Div64.mono : ∀ a0 a1 a2 k, LeO (gobits_Div64.f k a0 a1 a2) (gobits_Div64.f (k + 1) a0 a1 a2) := by
  intro a0 a1 a2 k
  obtain ⟨ih0, ih1, ih2, ih3, ih4, ih5, ih6⟩ := gobits_Div64.mono_l k
  unfold gobits_Div64.f
  repeat' first
      | (with_reducible exact ih0 _ _ _)
      | (with_reducible exact ih1 _ _ _)
      | (with_reducible exact ih2 _ _ _ _ _ _ _ _)
      | (with_reducible exact ih3 _ _ _ _ _ _ _ _ _)
      | (with_reducible exact ih4 _ _ _ _ _ _ _ _ _ _)
      | (with_reducible exact ih5 _ _ _ _ _ _ _ _ _)
      | (with_reducible exact ih6 _ _ _ _ _ _ _ _ _ _)
      | (with_reducible exact LeO.refl _)
      | (with_reducible exact LeO.none _)
      | (with_reducible refine LeO.ite ?_ ?_)
      | (with_reducible refine LeO.bind ?_ (fun _ => ?_))
      | exact ih0 _ _ _
      | exact ih1 _ _ _
      | exact ih2 _ _ _ _ _ _ _ _
      | exact ih3 _ _ _ _ _ _ _ _ _
      | exact ih4 _ _ _ _ _ _ _ _ _ _
      | exact ih5 _ _ _ _ _ _ _ _ _
      | exact ih6 _ _ _ _ _ _ _ _ _ _
      | exact LeO.none _
      | refine LeO.ite ?_ ?_
      | refine LeO.bind ?_ (fun _ => ?_)
set_option maxHeartbeats 8000000 in
set_option maxRecDepth 100000 in
theorem gobits_Div64.calls (k : Nat) (a0 : Int) (a1 : Int) (a2 : Int) (r1 : Int) (r2 : Int) (w : World) (h : gobits_Div64.f k a0 a1 a2 = some (r1, r2)) :
    Calls Tryd.prog 104 #[.int .u64 a0, .int .u64 a1, .int .u64 a2] w fun e w' => e = .returned (.tuple #[.int .u64 r1, .int .u64 r2]) ∧ Drawn0 w w' := by
  have H : (if a2 = 0 then (if 0 = 0 then (none) else (gobits_Div64.j0 k a0 a1 a2)) else (gobits_Div64.j0 k a0 a1 a2)) = some (r1, r2) := h
  clear h
  have HC4 := Aside0.mk H
  clear H
  go_enter Tryd.func104, Tryd.ntmps104
  go_upto_if 20 with (fail)
  repeat (go_quiet (fail); go_upto_if 20 with (fail))
  go_cut [] (fun wc => ∃ (kq : Nat), Aside0 (gobits_Div64.j0 kq a0 a1 a2 = some (r1, r2)) ∧ Aside0 (kq ≤ k) ∧ Drawn0 w wc)
  case first =>
    have H := HC4.out
    clear HC4
    by_cases c5 : a2 = 0
    · rw [if_pos c5] at H
      have c5b0 : (a2 == 0) = true := beq_iff_eq.mpr c5
      have c5b1 : (a2 != 0) = false := bne_eq_false_iff_eq.mpr c5
      clear c5
      (first | rw [c5b0] | (simp only [i64_w, i32_w]; rw [c5b0]) | skip)
      exact absurd H (by simp)
    · rw [if_neg c5] at H
      have c5b0 : (a2 == 0) = false := beq_eq_false_iff_ne.mpr c5
      have c5b1 : (a2 != 0) = true := bne_iff_ne.mpr c5
      (first | rw [c5b0] | (simp only [i64_w, i32_w]; rw [c5b0]) | skip)
      have H' := Aside0.mk H
      clear H
      go_wp2
      repeat (go_quiet (fail); try go_wp2)
      go_meet
      case rel => exact ⟨_, H', ⟨by first | omega | exact Nat.le_refl _⟩, by repeat (first | exact Drawn0.refl _ | apply Drawn0.step)⟩
  case rest =>
    clear HC4
    try clear c1
    try clear p2
    try clear c5
    try clear c5b0
    try clear c5b1
    try clear c6
    try clear c6b0
    try clear c6b1
    obtain ⟨kq, HA, HJ3, ⟨mc3, rfl⟩⟩ := hcut
    cases kq with
    | zero => exact absurd HA.out (by simp [gobits_Div64.j0])
    | succ kj3 =>
      have H := HA.out
      clear HA
      simp only [gobits_Div64.j0] at H
      have HC7 := Aside0.mk H
      clear H
      go_upto_if 24 with (fail)
      repeat (go_quiet (fail); go_upto_if 24 with (fail))
      go_cut [] (fun wc => ∃ (kq : Nat), Aside0 (gobits_Div64.j1 kq a0 a1 a2 = some (r1, r2)) ∧ Aside0 (kq ≤ kj3) ∧ Drawn0 w wc)
      case first =>
        have H := HC7.out
        clear HC7
        by_cases c8 : a2 ≤ a0
        · rw [if_pos c8] at H
          have c8b0 : decide (a2 ≤ a0) = true := decide_eq_true c8
          clear c8
          (first | rw [c8b0] | (simp only [i64_w, i32_w]; rw [c8b0]) | skip)
          exact absurd H (by simp)
        · rw [if_neg c8] at H
          have c8b0 : decide (a2 ≤ a0) = false := decide_eq_false c8
          clear c8
          (first | rw [c8b0] | (simp only [i64_w, i32_w]; rw [c8b0]) | skip)
          have H' := Aside0.mk H
          clear H
          go_wp2
          repeat (go_quiet (fail); try go_wp2)
          go_meet
          case rel => exact ⟨_, H', ⟨by have := HJ3.out; first | omega | exact Nat.le_refl _⟩, by repeat (first | exact Drawn0.refl _ | apply Drawn0.step)⟩
      case rest =>
        clear HC7
        try clear c1
        try clear p2
        try clear c3
        try clear c5
        try clear c5b0
        try clear c5b1
        try clear c6
        try clear c6b0
        try clear c6b1
        try clear c8
        try clear c8b0
        try clear c9
        try clear c9b0
        try clear c9b1
        try clear p2
        obtain ⟨kq, HA, HJ6, ⟨mc6, rfl⟩⟩ := hcut
        cases kq with
        | zero => exact absurd HA.out (by simp [gobits_Div64.j1])
        | succ kj6 =>
          have H := HA.out
          clear HA
          simp only [gobits_Div64.j1] at H
          by_cases c10 : a0 = 0
          · rw [if_pos c10] at H
            have c10b0 : (a0 == 0) = true := beq_iff_eq.mpr c10
            have c10b1 : (a0 != 0) = false := bne_eq_false_iff_eq.mpr c10
            clear c10
            by_cases c11 : a2 = 0
            · rw [if_pos c11] at H
              exact absurd H (by simp)
            · rw [if_neg c11] at H
              have c11b0 : (a2 == 0) = false := beq_eq_false_iff_ne.mpr c11
              have c11b1 : (a2 != 0) = true := bne_iff_ne.mpr c11
              simp only [Option.some.injEq, Prod.mk.injEq] at H
              obtain ⟨rfl, rfl⟩ := H
              go_wp2
              repeat (go_quiet (fail); try go_wp2)
              go_ret2
              exact ⟨by first | rfl | (simp; done) | (simp [*]; done), by repeat (first | exact Drawn0.refl _ | apply Drawn0.step)⟩
          · rw [if_neg c10] at H
            have c10b0 : (a0 == 0) = false := beq_eq_false_iff_ne.mpr c10
            have c10b1 : (a0 != 0) = true := bne_iff_ne.mpr c10
            replace H := Option.bind_eq_some_iff.mp H
            obtain ⟨t137, A120, H⟩ := H
            replace H : (if 0 ≤ (IntKind.u64.wrap (t137)) then (if 0 ≤ (IntKind.u64.wrap (64 - (IntKind.u64.wrap (t137)))) then (if ((shl .u64 a2 (IntKind.u64.wrap (t137))) / 4294967296) = 0 then (none) else (gobits_Div64.l0 kj6 (shl .u64 a2 (IntKind.u64.wrap (t137))) (IntKind.u64.wrap (t137)) ((shl .u64 a2 (IntKind.u64.wrap (t137))) / 4294967296) (Go.bits .and .u64 (shl .u64 a2 (IntKind.u64.wrap (t137))) 4294967295) (Go.bits .or .u64 (shl .u64 a0 (IntKind.u64.wrap (t137))) (shr .u64 a1 (IntKind.u64.wrap (64 - (IntKind.u64.wrap (t137)))))) ((shl .u64 a1 (IntKind.u64.wrap (t137))) / 4294967296) (Go.bits .and .u64 (shl .u64 a1 (IntKind.u64.wrap (t137))) 4294967295) (IntKind.u64.wrap (Int.tdiv (Go.bits .or .u64 (shl .u64 a0 (IntKind.u64.wrap (t137))) (shr .u64 a1 (IntKind.u64.wrap (64 - (IntKind.u64.wrap (t137)))))) ((shl .u64 a2 (IntKind.u64.wrap (t137))) / 4294967296))) (IntKind.u64.wrap ((Go.bits .or .u64 (shl .u64 a0 (IntKind.u64.wrap (t137))) (shr .u64 a1 (IntKind.u64.wrap (64 - (IntKind.u64.wrap (t137)))))) - (IntKind.u64.wrap ((IntKind.u64.wrap (Int.tdiv (Go.bits .or .u64 (shl .u64 a0 (IntKind.u64.wrap (t137))) (shr .u64 a1 (IntKind.u64.wrap (64 - (IntKind.u64.wrap (t137)))))) ((shl .u64 a2 (IntKind.u64.wrap (t137))) / 4294967296))) * ((shl .u64 a2 (IntKind.u64.wrap (t137))) / 4294967296))))))) else (none)) else (none)) = some (r1, r2) := H
            have A12 := Aside0.mk A120
            clear A120
            obtain ⟨ji13, hji13⟩ : ∃ j_ : Int, (IntKind.u64.wrap (t137)) = j_ := ⟨_, rfl⟩
            replace H : (if 0 ≤ (ji13) then (if 0 ≤ (IntKind.u64.wrap (64 - (ji13))) then (if ((shl .u64 a2 (ji13)) / 4294967296) = 0 then (none) else (gobits_Div64.l0 kj6 (shl .u64 a2 (ji13)) ji13 ((shl .u64 a2 (ji13)) / 4294967296) (Go.bits .and .u64 (shl .u64 a2 (ji13)) 4294967295) (Go.bits .or .u64 (shl .u64 a0 (ji13)) (shr .u64 a1 (IntKind.u64.wrap (64 - (ji13))))) ((shl .u64 a1 (ji13)) / 4294967296) (Go.bits .and .u64 (shl .u64 a1 (ji13)) 4294967295) (IntKind.u64.wrap (Int.tdiv (Go.bits .or .u64 (shl .u64 a0 (ji13)) (shr .u64 a1 (IntKind.u64.wrap (64 - (ji13))))) ((shl .u64 a2 (ji13)) / 4294967296))) (IntKind.u64.wrap ((Go.bits .or .u64 (shl .u64 a0 (ji13)) (shr .u64 a1 (IntKind.u64.wrap (64 - (ji13))))) - (IntKind.u64.wrap ((IntKind.u64.wrap (Int.tdiv (Go.bits .or .u64 (shl .u64 a0 (ji13)) (shr .u64 a1 (IntKind.u64.wrap (64 - (ji13))))) ((shl .u64 a2 (ji13)) / 4294967296))) * ((shl .u64 a2 (ji13)) / 4294967296))))))) else (none)) else (none)) = some (r1, r2) := by first | (rw [hji13] at H; exact H) | (simp only [hji13] at H ⊢; exact H)
            (try rw [hji13] at A12)
            by_cases c14 : 0 ≤ (ji13)
            · rw [if_pos c14] at H
              have c14b0 := eq_true c14
              have c14b1 : decide (0 ≤ (ji13)) = true := decide_eq_true c14
              clear c14
              obtain ⟨ji15, hji15⟩ : ∃ j_ : Int, (shl .u64 a2 (ji13)) = j_ := ⟨_, rfl⟩
              replace H : (if 0 ≤ (IntKind.u64.wrap (64 - (ji13))) then (if ((ji15) / 4294967296) = 0 then (none) else (gobits_Div64.l0 kj6 ji15 ji13 ((ji15) / 4294967296) (Go.bits .and .u64 (ji15) 4294967295) (Go.bits .or .u64 (shl .u64 a0 (ji13)) (shr .u64 a1 (IntKind.u64.wrap (64 - (ji13))))) ((shl .u64 a1 (ji13)) / 4294967296) (Go.bits .and .u64 (shl .u64 a1 (ji13)) 4294967295) (IntKind.u64.wrap (Int.tdiv (Go.bits .or .u64 (shl .u64 a0 (ji13)) (shr .u64 a1 (IntKind.u64.wrap (64 - (ji13))))) ((ji15) / 4294967296))) (IntKind.u64.wrap ((Go.bits .or .u64 (shl .u64 a0 (ji13)) (shr .u64 a1 (IntKind.u64.wrap (64 - (ji13))))) - (IntKind.u64.wrap ((IntKind.u64.wrap (Int.tdiv (Go.bits .or .u64 (shl .u64 a0 (ji13)) (shr .u64 a1 (IntKind.u64.wrap (64 - (ji13))))) ((ji15) / 4294967296))) * ((ji15) / 4294967296))))))) else (none)) = some (r1, r2) := by first | (rw [hji15] at H; exact H) | (simp only [hji15] at H ⊢; exact H)
              (try rw [hji15] at A12)
              have hji15_ : (IntKind.u64.wrap (a2 * 2 ^ min (ji13).toNat 64)) = ji15 := hji15
              have hji15z : (ji13) ≤ 64 → (IntKind.u64.wrap (a2 * 2 ^ (ji13).toNat)) = ji15 := shl_small hji15
              have c16b0 := eq_true (of_decide_eq_true (by first | (with_reducible assumption) | assumption) : 0 ≤ (ji13))
              obtain ⟨ji17, hji17⟩ : ∃ j_ : Int, (shl .u64 a0 (ji13)) = j_ := ⟨_, rfl⟩
              replace H : (if 0 ≤ (IntKind.u64.wrap (64 - (ji13))) then (if ((ji15) / 4294967296) = 0 then (none) else (gobits_Div64.l0 kj6 ji15 ji13 ((ji15) / 4294967296) (Go.bits .and .u64 (ji15) 4294967295) (Go.bits .or .u64 (ji17) (shr .u64 a1 (IntKind.u64.wrap (64 - (ji13))))) ((shl .u64 a1 (ji13)) / 4294967296) (Go.bits .and .u64 (shl .u64 a1 (ji13)) 4294967295) (IntKind.u64.wrap (Int.tdiv (Go.bits .or .u64 (ji17) (shr .u64 a1 (IntKind.u64.wrap (64 - (ji13))))) ((ji15) / 4294967296))) (IntKind.u64.wrap ((Go.bits .or .u64 (ji17) (shr .u64 a1 (IntKind.u64.wrap (64 - (ji13))))) - (IntKind.u64.wrap ((IntKind.u64.wrap (Int.tdiv (Go.bits .or .u64 (ji17) (shr .u64 a1 (IntKind.u64.wrap (64 - (ji13))))) ((ji15) / 4294967296))) * ((ji15) / 4294967296))))))) else (none)) = some (r1, r2) := by first | (rw [hji17] at H; exact H) | (simp only [hji17] at H ⊢; exact H)
              (try rw [hji17] at A12)
              have hji17_ : (IntKind.u64.wrap (a0 * 2 ^ min (ji13).toNat 64)) = ji17 := hji17
              have hji17z : (ji13) ≤ 64 → (IntKind.u64.wrap (a0 * 2 ^ (ji13).toNat)) = ji17 := shl_small hji17
              obtain ⟨ji18, hji18⟩ : ∃ j_ : Int, (IntKind.u64.wrap (64 - (ji13))) = j_ := ⟨_, rfl⟩
              replace H : (if 0 ≤ (ji18) then (if ((ji15) / 4294967296) = 0 then (none) else (gobits_Div64.l0 kj6 ji15 ji13 ((ji15) / 4294967296) (Go.bits .and .u64 (ji15) 4294967295) (Go.bits .or .u64 (ji17) (shr .u64 a1 (ji18))) ((shl .u64 a1 (ji13)) / 4294967296) (Go.bits .and .u64 (shl .u64 a1 (ji13)) 4294967295) (IntKind.u64.wrap (Int.tdiv (Go.bits .or .u64 (ji17) (shr .u64 a1 (ji18))) ((ji15) / 4294967296))) (IntKind.u64.wrap ((Go.bits .or .u64 (ji17) (shr .u64 a1 (ji18))) - (IntKind.u64.wrap ((IntKind.u64.wrap (Int.tdiv (Go.bits .or .u64 (ji17) (shr .u64 a1 (ji18))) ((ji15) / 4294967296))) * ((ji15) / 4294967296))))))) else (none)) = some (r1, r2) := by first | (rw [hji18] at H; exact H) | (simp only [hji18] at H ⊢; exact H)
              (try rw [hji18] at A12)
              by_cases c19 : 0 ≤ (ji18)
              · rw [if_pos c19] at H
                have c19b0 := eq_true c19
                have c19b1 : decide (0 ≤ (ji18)) = true := decide_eq_true c19
                clear c19
                obtain ⟨ji20, hji20⟩ : ∃ j_ : Int, (shr .u64 a1 (ji18)) = j_ := ⟨_, rfl⟩
                replace H : (if ((ji15) / 4294967296) = 0 then (none) else (gobits_Div64.l0 kj6 ji15 ji13 ((ji15) / 4294967296) (Go.bits .and .u64 (ji15) 4294967295) (Go.bits .or .u64 (ji17) (ji20)) ((shl .u64 a1 (ji13)) / 4294967296) (Go.bits .and .u64 (shl .u64 a1 (ji13)) 4294967295) (IntKind.u64.wrap (Int.tdiv (Go.bits .or .u64 (ji17) (ji20)) ((ji15) / 4294967296))) (IntKind.u64.wrap ((Go.bits .or .u64 (ji17) (ji20)) - (IntKind.u64.wrap ((IntKind.u64.wrap (Int.tdiv (Go.bits .or .u64 (ji17) (ji20)) ((ji15) / 4294967296))) * ((ji15) / 4294967296))))))) = some (r1, r2) := by first | (rw [hji20] at H; exact H) | (simp only [hji20] at H ⊢; exact H)
                (try rw [hji20] at A12)
                have hji20_ : (a1 / 2 ^ min (ji18).toNat 64) = ji20 := hji20
                have hji20z : (ji18) ≤ 64 → (a1 / 2 ^ (ji18).toNat) = ji20 := shr_small hji20
                have c21b0 := eq_true (of_decide_eq_true (by first | (with_reducible assumption) | assumption) : 0 ≤ (ji13))
                obtain ⟨ji22, hji22⟩ : ∃ j_ : Int, (shl .u64 a1 (ji13)) = j_ := ⟨_, rfl⟩
                replace H : (if ((ji15) / 4294967296) = 0 then (none) else (gobits_Div64.l0 kj6 ji15 ji13 ((ji15) / 4294967296) (Go.bits .and .u64 (ji15) 4294967295) (Go.bits .or .u64 (ji17) (ji20)) ((ji22) / 4294967296) (Go.bits .and .u64 (ji22) 4294967295) (IntKind.u64.wrap (Int.tdiv (Go.bits .or .u64 (ji17) (ji20)) ((ji15) / 4294967296))) (IntKind.u64.wrap ((Go.bits .or .u64 (ji17) (ji20)) - (IntKind.u64.wrap ((IntKind.u64.wrap (Int.tdiv (Go.bits .or .u64 (ji17) (ji20)) ((ji15) / 4294967296))) * ((ji15) / 4294967296))))))) = some (r1, r2) := by first | (rw [hji22] at H; exact H) | (simp only [hji22] at H ⊢; exact H)
                (try rw [hji22] at A12)
                have hji22_ : (IntKind.u64.wrap (a1 * 2 ^ min (ji13).toNat 64)) = ji22 := hji22
                have hji22z : (ji13) ≤ 64 → (IntKind.u64.wrap (a1 * 2 ^ (ji13).toNat)) = ji22 := shl_small hji22
                by_cases c23 : ((ji15) / 4294967296) = 0
                · rw [if_pos c23] at H
                  exact absurd H (by simp)
                · rw [if_neg c23] at H
                  have c23b0 : (((ji15) / 4294967296) == 0) = false := beq_eq_false_iff_ne.mpr c23
                  have c23b1 : (((ji15) / 4294967296) != 0) = true := bne_iff_ne.mpr c23
                  have HC24 := Aside0.mk H
                  clear H
                  go_upto_block 0 with (first | (go_at_call 100; (with_reducible refine (bits_LeadingZeros64.calls a2 t137 _ A12.out).mono ?_); rintro e w' ⟨rfl, ⟨nd, rfl⟩⟩; (try first | exact ⟨rfl, _, World.drewN_drewN _ _ _⟩ | exact ⟨rfl, _, Eq.trans (World.drewN_drewN _ _ _) (congrArg (World.drewN _) (Nat.add_assoc _ _ _))⟩)))
                  repeat (go_quiet (first | (go_at_call 100; (with_reducible refine (bits_LeadingZeros64.calls a2 t137 _ A12.out).mono ?_); rintro e w' ⟨rfl, ⟨nd, rfl⟩⟩; (try first | exact ⟨rfl, _, World.drewN_drewN _ _ _⟩ | exact ⟨rfl, _, Eq.trans (World.drewN_drewN _ _ _) (congrArg (World.drewN _) (Nat.add_assoc _ _ _))⟩))); go_upto_block 0 with (first | (go_at_call 100; (with_reducible refine (bits_LeadingZeros64.calls a2 t137 _ A12.out).mono ?_); rintro e w' ⟨rfl, ⟨nd, rfl⟩⟩; (try first | exact ⟨rfl, _, World.drewN_drewN _ _ _⟩ | exact ⟨rfl, _, Eq.trans (World.drewN_drewN _ _ _) (congrArg (World.drewN _) (Nat.add_assoc _ _ _))⟩))))
                  (try simp only [Act.put, List.setIfInBounds_toArray, List.set_cons_zero, List.set_cons_succ])
                  go_cut [15] (fun v15 wc => ∃ (kq : Nat) (x15_23 : Int), v15 = .int .u64 x15_23 ∧ Aside0 (gobits_Div64.j4 kq ji15 ji13 ((ji15) / 4294967296) (Go.bits .and .u64 (ji15) 4294967295) (Go.bits .or .u64 (ji17) (ji20)) ((ji22) / 4294967296) (Go.bits .and .u64 (ji22) 4294967295) x15_23 = some (r1, r2)) ∧ Aside0 (kq ≤ kj6) ∧ Drawn0 w wc)
                  case first =>
                    have H := HC24.out
                    clear HC24
                    have H' := Aside0.mk H
                    clear H
                    go_wp2
                    repeat (go_quiet (fail); try go_wp2)
                    go_loopg [15, 16] kj6 (fun kq v15 v16 w' => ∃ (x15_3 : Int) (x16_3 : Int), v15 = .int .u64 x15_3 ∧ v16 = .int .u64 x16_3 ∧ Aside0 (gobits_Div64.l0 kq ji15 ji13 ((ji15) / 4294967296) (Go.bits .and .u64 (ji15) 4294967295) (Go.bits .or .u64 (ji17) (ji20)) ((ji22) / 4294967296) (Go.bits .and .u64 (ji22) 4294967295) x15_3 x16_3 = some (r1, r2)) ∧ Aside0 (kq ≤ kj6) ∧ Drawn0 w w')
                    case atStart => exact ⟨(IntKind.u64.wrap (Int.tdiv (Go.bits .or .u64 (ji17) (ji20)) ((ji15) / 4294967296))), (IntKind.u64.wrap ((Go.bits .or .u64 (ji17) (ji20)) - (IntKind.u64.wrap ((IntKind.u64.wrap (Int.tdiv (Go.bits .or .u64 (ji17) (ji20)) ((ji15) / 4294967296))) * ((ji15) / 4294967296))))), (by first | rfl | (simp; done) | (simp only [← hji15, ← hji17, ← hji20] <;> (first | rfl | simp)) | (simp [*]; done)), (by first | rfl | (simp; done) | (simp only [← hji15, ← hji17, ← hji20] <;> (first | rfl | simp)) | (simp [*]; done)), H', ⟨Nat.le_refl _⟩, by repeat (first | exact Drawn0.refl _ | apply Drawn0.step)⟩
                    case round =>
                      clear H'
                      try clear c1
                      try clear c2
                      try clear p2
                      try clear c3
                      try clear c5
                      try clear c5b0
                      try clear c5b1
                      try clear c6
                      try clear c6b0
                      try clear c6b1
                      try clear c8
                      try clear c8b0
                      try clear c9
                      try clear c9b0
                      try clear c9b1
                      try clear c10
                      try clear c10b0
                      try clear c10b1
                      try clear c11
                      try clear c11b0
                      try clear c11b1
                      try clear c14
                      try clear c14b0
                      try clear c14b1
                      try clear c16
                      try clear c16b0
                      try clear c19
                      try clear c19b0
                      try clear c19b1
                      try clear c21
                      try clear c21b0
                      try clear c23
                      try clear c23b0
                      try clear c23b1
                      try clear p2
                      obtain ⟨x15_3, x16_3, rfl, rfl, HA, HK3, ⟨m3, rfl⟩⟩ := hrel
                      cases gk with
                      | zero => exact absurd HA.out (by simp [gobits_Div64.l0])
                      | succ k3 =>
                        have H := HA.out
                        clear HA
                        simp only [gobits_Div64.l0] at H
                        have HC25 := Aside0.mk H
                        clear H
                        go_upto_region 17 with (fail)
                        repeat (go_quiet (fail); go_upto_region 17 with (fail))
                        go_cut [78] (fun v78 wc => ∃ (kq : Nat) (x78_24 : Bool), v78 = .bool x78_24 ∧ Aside0 (gobits_Div64.j3 kq ji15 ji13 ((ji15) / 4294967296) (Go.bits .and .u64 (ji15) 4294967295) (Go.bits .or .u64 (ji17) (ji20)) ((ji22) / 4294967296) (Go.bits .and .u64 (ji22) 4294967295) x15_3 x16_3 x78_24 = some (r1, r2)) ∧ Aside0 (kq ≤ k3) ∧ Drawn0 w wc)
                        case first =>
                          have H := HC25.out
                          clear HC25
                          by_cases c26 : x15_3 ≥ 4294967296
                          · rw [if_pos c26] at H
                            have c26b0 : decide (4294967296 ≤ x15_3) = true := decide_eq_true c26
                            clear c26
                            (first | rw [c26b0] | (simp only [i64_w, i32_w]; rw [c26b0]) | skip)
                            have H' := Aside0.mk H
                            clear H
                            go_wp2
                            repeat (go_quiet (fail); try go_wp2)
                            go_meet
                            case rel => exact ⟨_, (true), (by first | rfl | (simp; done) | (simp [*]; done)), H', ⟨by have := HJ3.out; have := HJ6.out; have := HK3.out; first | omega | exact Nat.le_refl _⟩, by repeat (first | exact Drawn0.refl _ | apply Drawn0.step)⟩
                          · rw [if_neg c26] at H
                            have c26b0 : decide (4294967296 ≤ x15_3) = false := decide_eq_false c26
                            clear c26
                            (first | rw [c26b0] | (simp only [i64_w, i32_w]; rw [c26b0]) | skip)
                            have H' := Aside0.mk H
                            clear H
                            go_wp2
                            repeat (go_quiet (fail); try go_wp2)
                            go_meet
                            case rel => exact ⟨_, (decide ((IntKind.u64.wrap (x15_3 * (Go.bits .and .u64 (ji15) 4294967295))) > (IntKind.u64.wrap ((IntKind.u64.wrap (4294967296 * x16_3)) + ((ji22) / 4294967296))))), (by first | rfl | (simp; done) | (simp only [← hji15, ← hji22] <;> (first | rfl | simp)) | (simp [*]; done)), H', ⟨by have := HJ3.out; have := HJ6.out; have := HK3.out; first | omega | exact Nat.le_refl _⟩, by repeat (first | exact Drawn0.refl _ | apply Drawn0.step)⟩
                        case rest =>
                          clear HC25
                          try clear c1
                          try clear c2
                          try clear p2
                          try clear c3
                          try clear c5
                          try clear c5b0
                          try clear c5b1
                          try clear c6
                          try clear c6b0
                          try clear c6b1
                          try clear c8
                          try clear c8b0
                          try clear c9
                          try clear c9b0
                          try clear c9b1
                          try clear c10
                          try clear c10b0
                          try clear c10b1
                          try clear c11
                          try clear c11b0
                          try clear c11b1
                          try clear c14
                          try clear c14b0
                          try clear c14b1
                          try clear c16
                          try clear c16b0
                          try clear c19
                          try clear c19b0
                          try clear c19b1
                          try clear c21
                          try clear c21b0
                          try clear c23
                          try clear c23b0
                          try clear c23b1
                          try clear c26
                          try clear c26b0
                          try clear p2
                          obtain ⟨kq, x78_24, rfl, HA, HJ24, ⟨mc24, rfl⟩⟩ := hcut
                          cases kq with
                          | zero => exact absurd HA.out (by simp [gobits_Div64.j3])
                          | succ kj24 =>
                            have H := HA.out
                            clear HA
                            simp only [gobits_Div64.j3] at H
                            by_cases c27 : x78_24 = true
                            · subst c27
                              have H1 : (if (IntKind.u64.wrap (x16_3 + ((ji15) / 4294967296))) ≥ 4294967296 then (gobits_Div64.j4 kj24 ji15 ji13 ((ji15) / 4294967296) (Go.bits .and .u64 (ji15) 4294967295) (Go.bits .or .u64 (ji17) (ji20)) ((ji22) / 4294967296) (Go.bits .and .u64 (ji22) 4294967295) (IntKind.u64.wrap (x15_3 - 1))) else (gobits_Div64.l0 kj24 ji15 ji13 ((ji15) / 4294967296) (Go.bits .and .u64 (ji15) 4294967295) (Go.bits .or .u64 (ji17) (ji20)) ((ji22) / 4294967296) (Go.bits .and .u64 (ji22) 4294967295) (IntKind.u64.wrap (x15_3 - 1)) (IntKind.u64.wrap (x16_3 + ((ji15) / 4294967296))))) = some (r1, r2) := by rw [if_pos rfl] at H; exact H
                              clear H
                              have H := H1
                              clear H1
                              by_cases c28 : (IntKind.u64.wrap (x16_3 + ((ji15) / 4294967296))) ≥ 4294967296
                              · rw [if_pos c28] at H
                                have c28b0 : decide (4294967296 ≤ (IntKind.u64.wrap (x16_3 + ((ji15) / 4294967296)))) = true := decide_eq_true c28
                                clear c28
                                have H' := Aside0.mk H
                                clear H
                                go_wp2
                                repeat (go_quiet (fail); try go_wp2)
                                go_meet
                                case rel => exact ⟨_, (IntKind.u64.wrap (x15_3 - 1)), (by first | rfl | (simp; done) | (simp [*]; done)), H', ⟨by have := HJ3.out; have := HJ6.out; have := HK3.out; have := HJ24.out; first | omega | exact Nat.le_refl _⟩, by repeat (first | exact Drawn0.refl _ | apply Drawn0.step)⟩
                              · rw [if_neg c28] at H
                                have c28b0 : decide (4294967296 ≤ (IntKind.u64.wrap (x16_3 + ((ji15) / 4294967296)))) = false := decide_eq_false c28
                                clear c28
                                have H' := Aside0.mk H
                                clear H
                                go_wp2
                                repeat (go_quiet (fail); try go_wp2)
                                go_roundg kj24
                                case measure => have := HJ3.out; have := HJ6.out; have := HK3.out; have := HJ24.out; omega
                                case rel => exact ⟨(IntKind.u64.wrap (x15_3 - 1)), (IntKind.u64.wrap (x16_3 + ((ji15) / 4294967296))), (by first | rfl | (simp; done) | (simp [*]; done)), (by first | rfl | (simp; done) | (simp only [← hji15] <;> (first | rfl | simp)) | (simp [*]; done)), H', ⟨by have := HJ3.out; have := HJ6.out; have := HK3.out; have := HJ24.out; omega⟩, by repeat (first | exact Drawn0.refl _ | apply Drawn0.step)⟩
                            · replace c27 := Bool.eq_false_iff.mpr c27
                              subst c27
                              have H1 : (gobits_Div64.j4 kj24 ji15 ji13 ((ji15) / 4294967296) (Go.bits .and .u64 (ji15) 4294967295) (Go.bits .or .u64 (ji17) (ji20)) ((ji22) / 4294967296) (Go.bits .and .u64 (ji22) 4294967295) x15_3) = some (r1, r2) := by rw [if_neg (show ¬ (false = true) by decide)] at H; exact H
                              clear H
                              have H := H1
                              clear H1
                              have H' := Aside0.mk H
                              clear H
                              go_wp2
                              repeat (go_quiet (fail); try go_wp2)
                              go_meet
                              case rel => exact ⟨_, (x15_3), (by first | rfl | (simp; done) | (simp [*]; done)), H', ⟨by have := HJ3.out; have := HJ6.out; have := HK3.out; have := HJ24.out; first | omega | exact Nat.le_refl _⟩, by repeat (first | exact Drawn0.refl _ | apply Drawn0.step)⟩
                  case rest =>
                    clear HC24
                    try clear c1
                    try clear c2
                    try clear p2
                    try clear c3
                    try clear c5
                    try clear c5b0
                    try clear c5b1
                    try clear c6
                    try clear c6b0
                    try clear c6b1
                    try clear c8
                    try clear c8b0
                    try clear c9
                    try clear c9b0
                    try clear c9b1
                    try clear c10
                    try clear c10b0
                    try clear c10b1
                    try clear c11
                    try clear c11b0
                    try clear c11b1
                    try clear c14
                    try clear c14b0
                    try clear c14b1
                    try clear c16
                    try clear c16b0
                    try clear c19
                    try clear c19b0
                    try clear c19b1
                    try clear c21
                    try clear c21b0
                    try clear c23
                    try clear c23b0
                    try clear c23b1
                    try clear c24
                    try clear c26
                    try clear c26b0
                    try clear c27
                    try clear c28
                    try clear c28b0
                    try clear p2
                    obtain ⟨kq, x15_23, rfl, HA, HJ23, ⟨mc23, rfl⟩⟩ := hcut
                    cases kq with
                    | zero => exact absurd HA.out (by simp [gobits_Div64.j4])
                    | succ kj23 =>
                      have H := HA.out
                      clear HA
                      simp only [gobits_Div64.j4] at H
                      by_cases c29 : ((ji15) / 4294967296) = 0
                      · rw [if_pos c29] at H
                        exact absurd H (by simp)
                      · rw [if_neg c29] at H
                        have c29b0 : (((ji15) / 4294967296) == 0) = false := beq_eq_false_iff_ne.mpr c29
                        have c29b1 : (((ji15) / 4294967296) != 0) = true := bne_iff_ne.mpr c29
                        have H' := Aside0.mk H
                        clear H
                        go_wp2
                        repeat (go_quiet (fail); try go_wp2)
                        go_loopg [16, 18] kj23 (fun kq v16 v18 w' => ∃ (x16_4 : Int) (x18_4 : Int), v16 = .int .u64 x16_4 ∧ v18 = .int .u64 x18_4 ∧ Aside0 (gobits_Div64.l1 kq ji15 ji13 ((ji15) / 4294967296) (Go.bits .and .u64 (ji15) 4294967295) (Go.bits .and .u64 (ji22) 4294967295) x15_23 x16_4 (IntKind.u64.wrap ((IntKind.u64.wrap ((IntKind.u64.wrap ((Go.bits .or .u64 (ji17) (ji20)) * 4294967296)) + ((ji22) / 4294967296))) - (IntKind.u64.wrap (x15_23 * ji15)))) x18_4 = some (r1, r2)) ∧ Aside0 (kq ≤ kj23) ∧ Drawn0 w w')
                        case atStart => exact ⟨(IntKind.u64.wrap ((IntKind.u64.wrap ((IntKind.u64.wrap ((IntKind.u64.wrap ((Go.bits .or .u64 (ji17) (ji20)) * 4294967296)) + ((ji22) / 4294967296))) - (IntKind.u64.wrap (x15_23 * ji15)))) - (IntKind.u64.wrap ((IntKind.u64.wrap (Int.tdiv (IntKind.u64.wrap ((IntKind.u64.wrap ((IntKind.u64.wrap ((Go.bits .or .u64 (ji17) (ji20)) * 4294967296)) + ((ji22) / 4294967296))) - (IntKind.u64.wrap (x15_23 * ji15)))) ((ji15) / 4294967296))) * ((ji15) / 4294967296))))), (IntKind.u64.wrap (Int.tdiv (IntKind.u64.wrap ((IntKind.u64.wrap ((IntKind.u64.wrap ((Go.bits .or .u64 (ji17) (ji20)) * 4294967296)) + ((ji22) / 4294967296))) - (IntKind.u64.wrap (x15_23 * ji15)))) ((ji15) / 4294967296))), (by first | rfl | (simp; done) | (simp only [← hji15, ← hji17, ← hji20, ← hji22] <;> (first | rfl | simp)) | (simp [*]; done)), (by first | rfl | (simp; done) | (simp only [← hji15, ← hji17, ← hji20, ← hji22] <;> (first | rfl | simp)) | (simp [*]; done)), H', ⟨Nat.le_refl _⟩, by repeat (first | exact Drawn0.refl _ | apply Drawn0.step)⟩
                        case round =>
                          clear H'
                          try clear c1
                          try clear c2
                          try clear p2
                          try clear c3
                          try clear c5
                          try clear c5b0
                          try clear c5b1
                          try clear c6
                          try clear c6b0
                          try clear c6b1
                          try clear c8
                          try clear c8b0
                          try clear c9
                          try clear c9b0
                          try clear c9b1
                          try clear c10
                          try clear c10b0
                          try clear c10b1
                          try clear c11
                          try clear c11b0
                          try clear c11b1
                          try clear c14
                          try clear c14b0
                          try clear c14b1
                          try clear c16
                          try clear c16b0
                          try clear c19
                          try clear c19b0
                          try clear c19b1
                          try clear c21
                          try clear c21b0
                          try clear c23
                          try clear c23b0
                          try clear c23b1
                          try clear c24
                          try clear c26
                          try clear c26b0
                          try clear c27
                          try clear c28
                          try clear c28b0
                          try clear c29
                          try clear c29b0
                          try clear c29b1
                          try clear p2
                          obtain ⟨x16_4, x18_4, rfl, rfl, HA, HK4, ⟨m4, rfl⟩⟩ := hrel
                          cases gk with
                          | zero => exact absurd HA.out (by simp [gobits_Div64.l1])
                          | succ k4 =>
                            have H := HA.out
                            clear HA
                            simp only [gobits_Div64.l1] at H
                            have HC30 := Aside0.mk H
                            clear H
                            go_upto_region 24 with (fail)
                            repeat (go_quiet (fail); go_upto_region 24 with (fail))
                            go_cut [113] (fun v113 wc => ∃ (kq : Nat) (x113_29 : Bool), v113 = .bool x113_29 ∧ Aside0 (gobits_Div64.j6 kq ji15 ji13 ((ji15) / 4294967296) (Go.bits .and .u64 (ji15) 4294967295) (Go.bits .and .u64 (ji22) 4294967295) x15_23 x16_4 (IntKind.u64.wrap ((IntKind.u64.wrap ((IntKind.u64.wrap ((Go.bits .or .u64 (ji17) (ji20)) * 4294967296)) + ((ji22) / 4294967296))) - (IntKind.u64.wrap (x15_23 * ji15)))) x18_4 x113_29 = some (r1, r2)) ∧ Aside0 (kq ≤ k4) ∧ Drawn0 w wc)
                            case first =>
                              have H := HC30.out
                              clear HC30
                              by_cases c31 : x18_4 ≥ 4294967296
                              · rw [if_pos c31] at H
                                have c31b0 : decide (4294967296 ≤ x18_4) = true := decide_eq_true c31
                                clear c31
                                (first | rw [c31b0] | (simp only [i64_w, i32_w]; rw [c31b0]) | skip)
                                have H' := Aside0.mk H
                                clear H
                                go_wp2
                                repeat (go_quiet (fail); try go_wp2)
                                go_meet
                                case rel => exact ⟨_, (true), (by first | rfl | (simp; done) | (simp [*]; done)), H', ⟨by have := HJ3.out; have := HJ6.out; have := HJ23.out; have := HK4.out; first | omega | exact Nat.le_refl _⟩, by repeat (first | exact Drawn0.refl _ | apply Drawn0.step)⟩
                              · rw [if_neg c31] at H
                                have c31b0 : decide (4294967296 ≤ x18_4) = false := decide_eq_false c31
                                clear c31
                                (first | rw [c31b0] | (simp only [i64_w, i32_w]; rw [c31b0]) | skip)
                                have H' := Aside0.mk H
                                clear H
                                go_wp2
                                repeat (go_quiet (fail); try go_wp2)
                                go_meet
                                case rel => exact ⟨_, (decide ((IntKind.u64.wrap (x18_4 * (Go.bits .and .u64 (ji15) 4294967295))) > (IntKind.u64.wrap ((IntKind.u64.wrap (4294967296 * x16_4)) + (Go.bits .and .u64 (ji22) 4294967295))))), (by first | rfl | (simp; done) | (simp only [← hji15, ← hji22] <;> (first | rfl | simp)) | (simp [*]; done)), H', ⟨by have := HJ3.out; have := HJ6.out; have := HJ23.out; have := HK4.out; first | omega | exact Nat.le_refl _⟩, by repeat (first | exact Drawn0.refl _ | apply Drawn0.step)⟩
                            case rest =>
                              clear HC30
                              try clear c1
                              try clear c2
                              try clear p2
                              try clear c3
                              try clear c5
                              try clear c5b0
                              try clear c5b1
                              try clear c6
                              try clear c6b0
                              try clear c6b1
                              try clear c8
                              try clear c8b0
                              try clear c9
                              try clear c9b0
                              try clear c9b1
                              try clear c10
                              try clear c10b0
                              try clear c10b1
                              try clear c11
                              try clear c11b0
                              try clear c11b1
                              try clear c14
                              try clear c14b0
                              try clear c14b1
                              try clear c16
                              try clear c16b0
                              try clear c19
                              try clear c19b0
                              try clear c19b1
                              try clear c21
                              try clear c21b0
                              try clear c23
                              try clear c23b0
                              try clear c23b1
                              try clear c24
                              try clear c26
                              try clear c26b0
                              try clear c27
                              try clear c28
                              try clear c28b0
                              try clear c29
                              try clear c29b0
                              try clear c29b1
                              try clear c31
                              try clear c31b0
                              try clear p2
                              obtain ⟨kq, x113_29, rfl, HA, HJ29, ⟨mc29, rfl⟩⟩ := hcut
                              cases kq with
                              | zero => exact absurd HA.out (by simp [gobits_Div64.j6])
                              | succ kj29 =>
                                have H := HA.out
                                clear HA
                                simp only [gobits_Div64.j6] at H
                                by_cases c32 : x113_29 = true
                                · subst c32
                                  have H1 : (if (IntKind.u64.wrap (x16_4 + ((ji15) / 4294967296))) ≥ 4294967296 then (if 0 ≤ ji13 then (some (IntKind.u64.wrap ((IntKind.u64.wrap (x15_23 * 4294967296)) + (IntKind.u64.wrap (x18_4 - 1))), shr .u64 (IntKind.u64.wrap ((IntKind.u64.wrap ((IntKind.u64.wrap ((IntKind.u64.wrap ((IntKind.u64.wrap ((IntKind.u64.wrap ((Go.bits .or .u64 (ji17) (ji20)) * 4294967296)) + ((ji22) / 4294967296))) - (IntKind.u64.wrap (x15_23 * ji15)))) * 4294967296)) + (Go.bits .and .u64 (ji22) 4294967295))) - (IntKind.u64.wrap ((IntKind.u64.wrap (x18_4 - 1)) * ji15)))) ji13)) else (none)) else (gobits_Div64.l1 kj29 ji15 ji13 ((ji15) / 4294967296) (Go.bits .and .u64 (ji15) 4294967295) (Go.bits .and .u64 (ji22) 4294967295) x15_23 (IntKind.u64.wrap (x16_4 + ((ji15) / 4294967296))) (IntKind.u64.wrap ((IntKind.u64.wrap ((IntKind.u64.wrap ((Go.bits .or .u64 (ji17) (ji20)) * 4294967296)) + ((ji22) / 4294967296))) - (IntKind.u64.wrap (x15_23 * ji15)))) (IntKind.u64.wrap (x18_4 - 1)))) = some (r1, r2) := by rw [if_pos rfl] at H; exact H
                                  clear H
                                  have H := H1
                                  clear H1
                                  by_cases c33 : (IntKind.u64.wrap (x16_4 + ((ji15) / 4294967296))) ≥ 4294967296
                                  · rw [if_pos c33] at H
                                    have c33b0 : decide (4294967296 ≤ (IntKind.u64.wrap (x16_4 + ((ji15) / 4294967296)))) = true := decide_eq_true c33
                                    clear c33
                                    by_cases c34 : 0 ≤ ji13
                                    · rw [if_pos c34] at H
                                      have c34b0 := eq_true c34
                                      have c34b1 : decide (0 ≤ ji13) = true := decide_eq_true c34
                                      clear c34
                                      obtain ⟨ji35, hji35⟩ : ∃ j_ : Int, (shr .u64 (IntKind.u64.wrap ((IntKind.u64.wrap ((IntKind.u64.wrap ((IntKind.u64.wrap ((IntKind.u64.wrap ((IntKind.u64.wrap ((Go.bits .or .u64 (ji17) (ji20)) * 4294967296)) + ((ji22) / 4294967296))) - (IntKind.u64.wrap (x15_23 * ji15)))) * 4294967296)) + (Go.bits .and .u64 (ji22) 4294967295))) - (IntKind.u64.wrap ((IntKind.u64.wrap (x18_4 - 1)) * ji15)))) ji13) = j_ := ⟨_, rfl⟩
                                      replace H : (some (IntKind.u64.wrap ((IntKind.u64.wrap (x15_23 * 4294967296)) + (IntKind.u64.wrap (x18_4 - 1))), ji35)) = some (r1, r2) := by first | (rw [hji35] at H; exact H) | (simp only [hji35] at H ⊢; exact H)
                                      have hji35_ : ((IntKind.u64.wrap ((IntKind.u64.wrap ((IntKind.u64.wrap ((IntKind.u64.wrap ((IntKind.u64.wrap ((IntKind.u64.wrap ((Go.bits .or .u64 (ji17) (ji20)) * 4294967296)) + ((ji22) / 4294967296))) - (IntKind.u64.wrap (x15_23 * ji15)))) * 4294967296)) + (Go.bits .and .u64 (ji22) 4294967295))) - (IntKind.u64.wrap ((IntKind.u64.wrap (x18_4 - 1)) * ji15)))) / 2 ^ min ji13.toNat 64) = ji35 := hji35
                                      have hji35z : ji13 ≤ 64 → ((IntKind.u64.wrap ((IntKind.u64.wrap ((IntKind.u64.wrap ((IntKind.u64.wrap ((IntKind.u64.wrap ((IntKind.u64.wrap ((Go.bits .or .u64 (ji17) (ji20)) * 4294967296)) + ((ji22) / 4294967296))) - (IntKind.u64.wrap (x15_23 * ji15)))) * 4294967296)) + (Go.bits .and .u64 (ji22) 4294967295))) - (IntKind.u64.wrap ((IntKind.u64.wrap (x18_4 - 1)) * ji15)))) / 2 ^ ji13.toNat) = ji35 := shr_small hji35
                                      simp only [Option.some.injEq, Prod.mk.injEq] at H
                                      obtain ⟨rfl, rfl⟩ := H
                                      go_wp2
                                      repeat (go_quiet (fail); try go_wp2)
                                      go_ret2
                                      exact ⟨by first | rfl | (simp; done) | (simp only [← hji13, ← hji15, ← hji17, ← hji18, ← hji20, ← hji22, ← hji35] <;> (first | rfl | simp)) | (simp [*]; done), by repeat (first | exact Drawn0.refl _ | apply Drawn0.step)⟩
                                    · rw [if_neg c34] at H
                                      exact absurd H (by simp)
                                  · rw [if_neg c33] at H
                                    have c33b0 : decide (4294967296 ≤ (IntKind.u64.wrap (x16_4 + ((ji15) / 4294967296)))) = false := decide_eq_false c33
                                    clear c33
                                    have H' := Aside0.mk H
                                    clear H
                                    go_wp2
                                    repeat (go_quiet (fail); try go_wp2)
                                    go_roundg kj29
                                    case measure => have := HJ3.out; have := HJ6.out; have := HJ23.out; have := HK4.out; have := HJ29.out; omega
                                    case rel => exact ⟨(IntKind.u64.wrap (x16_4 + ((ji15) / 4294967296))), (IntKind.u64.wrap (x18_4 - 1)), (by first | rfl | (simp; done) | (simp only [← hji15] <;> (first | rfl | simp)) | (simp [*]; done)), (by first | rfl | (simp; done) | (simp [*]; done)), H', ⟨by have := HJ3.out; have := HJ6.out; have := HJ23.out; have := HK4.out; have := HJ29.out; omega⟩, by repeat (first | exact Drawn0.refl _ | apply Drawn0.step)⟩
                                · replace c32 := Bool.eq_false_iff.mpr c32
                                  subst c32
                                  have H1 : (if 0 ≤ ji13 then (some (IntKind.u64.wrap ((IntKind.u64.wrap (x15_23 * 4294967296)) + x18_4), shr .u64 (IntKind.u64.wrap ((IntKind.u64.wrap ((IntKind.u64.wrap ((IntKind.u64.wrap ((IntKind.u64.wrap ((IntKind.u64.wrap ((Go.bits .or .u64 (ji17) (ji20)) * 4294967296)) + ((ji22) / 4294967296))) - (IntKind.u64.wrap (x15_23 * ji15)))) * 4294967296)) + (Go.bits .and .u64 (ji22) 4294967295))) - (IntKind.u64.wrap (x18_4 * ji15)))) ji13)) else (none)) = some (r1, r2) := by rw [if_neg (show ¬ (false = true) by decide)] at H; exact H
                                  clear H
                                  have H := H1
                                  clear H1
                                  by_cases c36 : 0 ≤ ji13
                                  · rw [if_pos c36] at H
                                    have c36b0 := eq_true c36
                                    have c36b1 : decide (0 ≤ ji13) = true := decide_eq_true c36
                                    clear c36
                                    obtain ⟨ji37, hji37⟩ : ∃ j_ : Int, (shr .u64 (IntKind.u64.wrap ((IntKind.u64.wrap ((IntKind.u64.wrap ((IntKind.u64.wrap ((IntKind.u64.wrap ((IntKind.u64.wrap ((Go.bits .or .u64 (ji17) (ji20)) * 4294967296)) + ((ji22) / 4294967296))) - (IntKind.u64.wrap (x15_23 * ji15)))) * 4294967296)) + (Go.bits .and .u64 (ji22) 4294967295))) - (IntKind.u64.wrap (x18_4 * ji15)))) ji13) = j_ := ⟨_, rfl⟩
                                    replace H : (some (IntKind.u64.wrap ((IntKind.u64.wrap (x15_23 * 4294967296)) + x18_4), ji37)) = some (r1, r2) := by first | (rw [hji37] at H; exact H) | (simp only [hji37] at H ⊢; exact H)
                                    have hji37_ : ((IntKind.u64.wrap ((IntKind.u64.wrap ((IntKind.u64.wrap ((IntKind.u64.wrap ((IntKind.u64.wrap ((IntKind.u64.wrap ((Go.bits .or .u64 (ji17) (ji20)) * 4294967296)) + ((ji22) / 4294967296))) - (IntKind.u64.wrap (x15_23 * ji15)))) * 4294967296)) + (Go.bits .and .u64 (ji22) 4294967295))) - (IntKind.u64.wrap (x18_4 * ji15)))) / 2 ^ min ji13.toNat 64) = ji37 := hji37
                                    have hji37z : ji13 ≤ 64 → ((IntKind.u64.wrap ((IntKind.u64.wrap ((IntKind.u64.wrap ((IntKind.u64.wrap ((IntKind.u64.wrap ((IntKind.u64.wrap ((Go.bits .or .u64 (ji17) (ji20)) * 4294967296)) + ((ji22) / 4294967296))) - (IntKind.u64.wrap (x15_23 * ji15)))) * 4294967296)) + (Go.bits .and .u64 (ji22) 4294967295))) - (IntKind.u64.wrap (x18_4 * ji15)))) / 2 ^ ji13.toNat) = ji37 := shr_small hji37
                                    simp only [Option.some.injEq, Prod.mk.injEq] at H
                                    obtain ⟨rfl, rfl⟩ := H
                                    go_wp2
                                    repeat (go_quiet (fail); try go_wp2)
                                    go_ret2
                                    exact ⟨by first | rfl | (simp; done) | (simp only [← hji13, ← hji15, ← hji17, ← hji18, ← hji20, ← hji22, ← hji37] <;> (first | rfl | simp)) | (simp [*]; done), by repeat (first | exact Drawn0.refl _ | apply Drawn0.step)⟩
                                  · rw [if_neg c36] at H
                                    exact absurd H (by simp)
              · rw [if_neg c19] at H
                exact absurd H (by simp)
            · rw [if_neg c14] at H
              exact absurd H (by simp)
end Go.Proofs.YtiifnofghicnaaaDoor.PAll
