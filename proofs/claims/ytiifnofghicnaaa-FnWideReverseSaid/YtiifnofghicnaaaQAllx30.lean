/- Printed by the kit's print.py, called for several laws at once: functions as plain Lean, and the walks' contracts. -/
import Derived.Test.YtiifnofghicnaaaQAllx0
import Derived.Test.YtiifnofghicnaaaQAllx1
import Derived.Test.YtiifnofghicnaaaQAllx2
namespace Go.Proofs.Ytiifnofghicnaaa.PAll
open Go.RowKit Go.Proofs.YtiifnofghicnaaaW.PrintWords Go.Proofs.YtiifnofghicnaaaW.PrintLast Go.Proofs.YtiifnofghicnaaaW.PrintMore
attribute [local go_sem] max2_int min2_int max_two min_two max_three min_three max_four min_four   -- for this text's walks alone
set_option linter.unusedVariables false
set_option linter.unusedSimpArgs false

/-! ### bits_ReverseBytes64: function 130 -/
def bits_ReverseBytes64.f (a0 : Int) : Option (Int) := some (Go.bits .or .u64 ((Go.bits .or .u64 (Go.bits .and .u64 ((Go.bits .or .u64 (Go.bits .and .u64 (a0 / 256) 71777214294589695) (IntKind.u64.wrap ((Go.bits .and .u64 a0 71777214294589695) * 256))) / 65536) 281470681808895) (IntKind.u64.wrap ((Go.bits .and .u64 (Go.bits .or .u64 (Go.bits .and .u64 (a0 / 256) 71777214294589695) (IntKind.u64.wrap ((Go.bits .and .u64 a0 71777214294589695) * 256))) 281470681808895) * 65536))) / 4294967296) (IntKind.u64.wrap ((Go.bits .or .u64 (Go.bits .and .u64 ((Go.bits .or .u64 (Go.bits .and .u64 (a0 / 256) 71777214294589695) (IntKind.u64.wrap ((Go.bits .and .u64 a0 71777214294589695) * 256))) / 65536) 281470681808895) (IntKind.u64.wrap ((Go.bits .and .u64 (Go.bits .or .u64 (Go.bits .and .u64 (a0 / 256) 71777214294589695) (IntKind.u64.wrap ((Go.bits .and .u64 a0 71777214294589695) * 256))) 281470681808895) * 65536))) * 4294967296)))
set_option maxHeartbeats 8000000 in
set_option maxRecDepth 100000 in
theorem bits_ReverseBytes64.calls (a0 : Int) (r : Int) (w : World) (h : bits_ReverseBytes64.f a0 = some r) :
    Calls Try.prog 130 #[.int .u64 a0] w fun e w' => e = .returned (.int .u64 r) ∧ Drawn0 w w' := by
  have H : (some (Go.bits .or .u64 ((Go.bits .or .u64 (Go.bits .and .u64 ((Go.bits .or .u64 (Go.bits .and .u64 (a0 / 256) 71777214294589695) (IntKind.u64.wrap ((Go.bits .and .u64 a0 71777214294589695) * 256))) / 65536) 281470681808895) (IntKind.u64.wrap ((Go.bits .and .u64 (Go.bits .or .u64 (Go.bits .and .u64 (a0 / 256) 71777214294589695) (IntKind.u64.wrap ((Go.bits .and .u64 a0 71777214294589695) * 256))) 281470681808895) * 65536))) / 4294967296) (IntKind.u64.wrap ((Go.bits .or .u64 (Go.bits .and .u64 ((Go.bits .or .u64 (Go.bits .and .u64 (a0 / 256) 71777214294589695) (IntKind.u64.wrap ((Go.bits .and .u64 a0 71777214294589695) * 256))) / 65536) 281470681808895) (IntKind.u64.wrap ((Go.bits .and .u64 (Go.bits .or .u64 (Go.bits .and .u64 (a0 / 256) 71777214294589695) (IntKind.u64.wrap ((Go.bits .and .u64 a0 71777214294589695) * 256))) 281470681808895) * 65536))) * 4294967296)))) = some r := h
  clear h
  obtain rfl := Option.some.inj H
  go_enter Try.func130, Try.ntmps130
  go_wp2
  go_ret
  exact ⟨by first | rfl | (simp; done) | (simp [*]; done), by repeat (first | exact Drawn0.refl _ | apply Drawn0.step)⟩


/-! ### bits_Reverse64: function 129 -/
def bits_Reverse64.f (a0 : Int) : Option (Int) := (bits_ReverseBytes64.f (Go.bits .or .u64 (Go.bits .and .u64 ((Go.bits .or .u64 (Go.bits .and .u64 ((Go.bits .or .u64 (Go.bits .and .u64 (a0 / 2) 6148914691236517205) (IntKind.u64.wrap ((Go.bits .and .u64 a0 6148914691236517205) * 2))) / 4) 3689348814741910323) (IntKind.u64.wrap ((Go.bits .and .u64 (Go.bits .or .u64 (Go.bits .and .u64 (a0 / 2) 6148914691236517205) (IntKind.u64.wrap ((Go.bits .and .u64 a0 6148914691236517205) * 2))) 3689348814741910323) * 4))) / 16) 1085102592571150095) (IntKind.u64.wrap ((Go.bits .and .u64 (Go.bits .or .u64 (Go.bits .and .u64 ((Go.bits .or .u64 (Go.bits .and .u64 (a0 / 2) 6148914691236517205) (IntKind.u64.wrap ((Go.bits .and .u64 a0 6148914691236517205) * 2))) / 4) 3689348814741910323) (IntKind.u64.wrap ((Go.bits .and .u64 (Go.bits .or .u64 (Go.bits .and .u64 (a0 / 2) 6148914691236517205) (IntKind.u64.wrap ((Go.bits .and .u64 a0 6148914691236517205) * 2))) 3689348814741910323) * 4))) 1085102592571150095) * 16)))).bind fun t423 => (some t423)
set_option maxHeartbeats 8000000 in
set_option maxRecDepth 100000 in
theorem bits_Reverse64.calls (a0 : Int) (r : Int) (w : World) (h : bits_Reverse64.f a0 = some r) :
    Calls Try.prog 129 #[.int .u64 a0] w fun e w' => e = .returned (.int .u64 r) ∧ Drawn0 w w' := by
  have H : ((bits_ReverseBytes64.f (Go.bits .or .u64 (Go.bits .and .u64 ((Go.bits .or .u64 (Go.bits .and .u64 ((Go.bits .or .u64 (Go.bits .and .u64 (a0 / 2) 6148914691236517205) (IntKind.u64.wrap ((Go.bits .and .u64 a0 6148914691236517205) * 2))) / 4) 3689348814741910323) (IntKind.u64.wrap ((Go.bits .and .u64 (Go.bits .or .u64 (Go.bits .and .u64 (a0 / 2) 6148914691236517205) (IntKind.u64.wrap ((Go.bits .and .u64 a0 6148914691236517205) * 2))) 3689348814741910323) * 4))) / 16) 1085102592571150095) (IntKind.u64.wrap ((Go.bits .and .u64 (Go.bits .or .u64 (Go.bits .and .u64 ((Go.bits .or .u64 (Go.bits .and .u64 (a0 / 2) 6148914691236517205) (IntKind.u64.wrap ((Go.bits .and .u64 a0 6148914691236517205) * 2))) / 4) 3689348814741910323) (IntKind.u64.wrap ((Go.bits .and .u64 (Go.bits .or .u64 (Go.bits .and .u64 (a0 / 2) 6148914691236517205) (IntKind.u64.wrap ((Go.bits .and .u64 a0 6148914691236517205) * 2))) 3689348814741910323) * 4))) 1085102592571150095) * 16)))).bind fun t423 => (some t423)) = some r := h
  clear h
  replace H := Option.bind_eq_some_iff.mp H
  obtain ⟨t423, A20, H⟩ := H
  replace H : (some t423) = some r := H
  have A2 := Aside0.mk A20
  clear A20
  obtain rfl := Option.some.inj H
  go_enter Try.func129, Try.ntmps129
  go_wp2_with (first | ((with_reducible refine gate_callee (f := 130) rfl ?_); refine goesL_ (some 25) rfl rfl Try.func130 (by kernel_rfl) rfl #[.int .u64 (Go.bits .or .u64 (Go.bits .and .u64 ((Go.bits .or .u64 (Go.bits .and .u64 ((Go.bits .or .u64 (Go.bits .and .u64 (a0 / 2) 6148914691236517205) (IntKind.u64.wrap ((Go.bits .and .u64 a0 6148914691236517205) * 2))) / 4) 3689348814741910323) (IntKind.u64.wrap ((Go.bits .and .u64 (Go.bits .or .u64 (Go.bits .and .u64 (a0 / 2) 6148914691236517205) (IntKind.u64.wrap ((Go.bits .and .u64 a0 6148914691236517205) * 2))) 3689348814741910323) * 4))) / 16) 1085102592571150095) (IntKind.u64.wrap ((Go.bits .and .u64 (Go.bits .or .u64 (Go.bits .and .u64 ((Go.bits .or .u64 (Go.bits .and .u64 (a0 / 2) 6148914691236517205) (IntKind.u64.wrap ((Go.bits .and .u64 a0 6148914691236517205) * 2))) / 4) 3689348814741910323) (IntKind.u64.wrap ((Go.bits .and .u64 (Go.bits .or .u64 (Go.bits .and .u64 (a0 / 2) 6148914691236517205) (IntKind.u64.wrap ((Go.bits .and .u64 a0 6148914691236517205) * 2))) 3689348814741910323) * 4))) 1085102592571150095) * 16)))] rfl (by (try simp only [List.map_toArray, List.map_cons, List.map_nil]); first | done | rfl | (simp only [List.length_drop, List.length_take]; rfl)) ?_; (with_reducible refine (bits_ReverseBytes64.calls (Go.bits .or .u64 (Go.bits .and .u64 ((Go.bits .or .u64 (Go.bits .and .u64 ((Go.bits .or .u64 (Go.bits .and .u64 (a0 / 2) 6148914691236517205) (IntKind.u64.wrap ((Go.bits .and .u64 a0 6148914691236517205) * 2))) / 4) 3689348814741910323) (IntKind.u64.wrap ((Go.bits .and .u64 (Go.bits .or .u64 (Go.bits .and .u64 (a0 / 2) 6148914691236517205) (IntKind.u64.wrap ((Go.bits .and .u64 a0 6148914691236517205) * 2))) 3689348814741910323) * 4))) / 16) 1085102592571150095) (IntKind.u64.wrap ((Go.bits .and .u64 (Go.bits .or .u64 (Go.bits .and .u64 ((Go.bits .or .u64 (Go.bits .and .u64 (a0 / 2) 6148914691236517205) (IntKind.u64.wrap ((Go.bits .and .u64 a0 6148914691236517205) * 2))) / 4) 3689348814741910323) (IntKind.u64.wrap ((Go.bits .and .u64 (Go.bits .or .u64 (Go.bits .and .u64 (a0 / 2) 6148914691236517205) (IntKind.u64.wrap ((Go.bits .and .u64 a0 6148914691236517205) * 2))) 3689348814741910323) * 4))) 1085102592571150095) * 16))) t423 _ A2.out).mono ?_); rintro e w' ⟨rfl, ⟨nd, rfl⟩⟩; refine ⟨_, rfl, ?_⟩))
  go_ret
  exact ⟨by first | rfl | (simp; done) | (simp [*]; done), by repeat (first | exact Drawn0.refl _ | apply Drawn0.step)⟩


/-! ### uint128_Uint128_Reverse: function 100 -/
def uint128_Uint128_Reverse.f (a0_0 : Int) (a0_1 : Int) : Option (Int × Int) := (bits_Reverse64.f a0_1).bind fun t426 => ((bits_Reverse64.f a0_0).bind fun t427 => (some (t426, t427)))
def uint128_Uint128_Reverse.T1 : Bool × List (List Nat × List Nat) := (true, [([], []), ([0], [0]), ([1], [1]), ([], []), ([3], [3]), ([4, 2], [4]), ([2, 5], [2, 5]), ([6, 5, 0, 1, 2, 3, 4, 5, 6], [6])])
def uint128_Uint128_Reverse.B1 : List Nat := [0, 1, 3, 0, 8, 31, 63, 127]
theorem uint128_Uint128_Reverse.tab1 : rtab .any (opsOf Try.f100 1) = uint128_Uint128_Reverse.T1 := by kernel_rfl
theorem uint128_Uint128_Reverse.bits1 : waitsOk uint128_Uint128_Reverse.T1.2 uint128_Uint128_Reverse.B1 = true := by kernel_rfl
set_option maxHeartbeats 8000000 in
set_option maxRecDepth 100000 in
theorem uint128_Uint128_Reverse.calls (a0_0 : Int) (a0_1 : Int) (r1 : Int) (r2 : Int) (w : World) (h : uint128_Uint128_Reverse.f a0_0 a0_1 = some (r1, r2)) :
    Calls Try.prog 100 #[.agg #[.int .u64 a0_0, .int .u64 a0_1]] w fun e w' => e = .returned (.agg #[.int .u64 r1, .int .u64 r2]) ∧ Below w.heap.size w w' := by
  have hu59 := Try.underlying59
  have HB := Aside0.mk (Below.refl w.heap.size w)
  have H : ((bits_Reverse64.f a0_1).bind fun t426 => ((bits_Reverse64.f a0_0).bind fun t427 => (some (t426, t427)))) = some (r1, r2) := h
  clear h
  replace H := Option.bind_eq_some_iff.mp H
  obtain ⟨t426, A20, H⟩ := H
  replace H : ((bits_Reverse64.f a0_0).bind fun t427 => (some (t426, t427))) = some (r1, r2) := H
  have A2 := Aside0.mk A20
  clear A20
  replace H := Option.bind_eq_some_iff.mp H
  obtain ⟨t427, A30, H⟩ := H
  replace H : (some (t426, t427)) = some (r1, r2) := H
  have A3 := Aside0.mk A30
  clear A30
  simp only [Option.some.injEq, Prod.mk.injEq] at H
  obtain ⟨rfl, rfl⟩ := H
  go_enter Try.func100, Try.ntmps100
  try go_wp2_with (first | ((with_reducible refine gate_dst (N := 1) rfl ?_); refine box_event ?hg (N := 1) ?hd (cs := #[.int .u64 a0_0, .int .u64 a0_1]) (t := 59) ?hr ?_; (case hd => rfl); (case hg => rfl); (case hr => first | (go_simp; done) | (go_simp; rfl)); intro gb424 hg w4 hbox hb; have n0_ := Aside0.mk (below_step (by repeat (first | (with_reducible first | exact HB.out | apply below_alloc | apply pw_below_drewN | apply below_drew1) | exact HB.out)) hb); have n1_ := Aside0.mk (hbox); have n2_ := Aside0.mk ((by rw [hg]; exact (below_size (by repeat (first | (with_reducible first | exact HB.out | apply below_alloc | apply pw_below_drewN | apply below_drew1) | exact HB.out))) : w.heap.size ≤ gb424)); have n3_ := Aside0.mk ((by rw [hg]; exact (below_size (by repeat (first | (with_reducible first | exact HB.out | apply below_alloc | apply pw_below_drewN | apply below_drew1) | exact HB.out))) : w.heap.size ≤ gb424)); clear HB; have HB := n0_; have BK424 := n1_; have GW424 := n2_; have GE424 := n3_; clear n0_ n1_ n2_ n3_; clear hb hbox hg) | ((with_reducible refine gate_dst (N := 2) rfl ?_); refine box_event ?hg (N := 2) ?hd (cs := #[.int .u64 0, .int .u64 0]) (t := 59) ?hr ?_; (case hd => rfl); (case hg => rfl); (case hr => first | (go_simp; done) | (go_simp; rfl)); intro gb425 hg w5 hbox hb; have n0_ := Aside0.mk (blk_below (g := gb424) (o := .cells #[.int .u64 a0_0, .int .u64 a0_1] 59 (0, 0)) (by (with_reducible repeat (first | refine blk_drewN ?_ _ | refine blk_drew ?_ | refine blk_alloc ?_ _)); exact BK424.out) hb); have n1_ := Aside0.mk (below_step (by repeat (first | (with_reducible first | exact HB.out | apply below_alloc | apply pw_below_drewN | apply below_drew1 | refine below_set ?_ GE424.out) | exact HB.out)) hb); have n2_ := Aside0.mk (hbox); have n3_ := Aside0.mk ((by rw [hg]; exact (below_size (by repeat (first | (with_reducible first | exact HB.out | apply below_alloc | apply pw_below_drewN | apply below_drew1 | refine below_set ?_ GE424.out) | exact HB.out))) : w.heap.size ≤ gb425)); have n4_ := Aside0.mk ((by rw [hg]; exact (below_size (by repeat (first | (with_reducible first | exact HB.out | apply below_alloc | apply pw_below_drewN | apply below_drew1 | refine below_set ?_ GE424.out) | exact HB.out))) : w.heap.size ≤ gb425)); have n5_ := Aside0.mk ((by rw [hg]; exact Nat.ne_of_lt (blk_lt (g := gb424) (o := .cells #[.int .u64 a0_0, .int .u64 a0_1] 59 (0, 0)) (by (with_reducible repeat (first | refine blk_drewN ?_ _ | refine blk_drew ?_ | refine blk_alloc ?_ _)); exact BK424.out)) : gb424 ≠ gb425)); have n6_ := Aside0.mk ((by rw [hg]; exact Nat.ne_of_gt (blk_lt (g := gb424) (o := .cells #[.int .u64 a0_0, .int .u64 a0_1] 59 (0, 0)) (by (with_reducible repeat (first | refine blk_drewN ?_ _ | refine blk_drew ?_ | refine blk_alloc ?_ _)); exact BK424.out)) : gb425 ≠ gb424)); clear BK424; clear HB; have BK424 := n0_; have HB := n1_; have BK425 := n2_; have GW425 := n3_; have GE425 := n4_; have NB424_425 := n5_; have NB425_424 := n6_; clear n0_ n1_ n2_ n3_ n4_ n5_ n6_; clear hb hbox hg))
  have n0_ := Aside0.mk (blk_drew BK424.out)
  have n1_ := Aside0.mk (blk_drew BK425.out)
  have n2_ := Aside0.mk (below_drew1 HB.out)
  clear BK424
  clear BK425
  clear HB
  have BK424 := n0_
  have BK425 := n1_
  have HB := n2_
  clear n0_ n1_ n2_
  refine start_ (n := 8) (S := fun w' => w'.cell? ⟨gb424, 0, none⟩ = some (.int .u64 a0_0) ∧ w'.cell? ⟨gb424, 1, none⟩ = some (.int .u64 a0_1)) (ds := []) #[false, false, false, false, false, false, false, false] (by kernel_rfl) rfl rfl ⟨(blk_cell BK424.out 0).trans rfl, (blk_cell BK424.out 1).trans rfl⟩ (fun hHeld => ?_); refine with_tabW uint128_Uint128_Reverse.tab1 uint128_Uint128_Reverse.bits1 (fun HT_ HW_ => ?_)
  generalize w5.drew = w6 at BK424 BK425 HB hHeld ⊢
  refine pure_ (i := 0) (N := some 3) (v := ?_) (a' := ?_) #[true, false, false, false, false, false, false, false] rfl rfl (any_of HT_.out (by kernel_rfl)) (fun _ _ _ h => h) (Or.inl ⟨by rfl, ?_⟩) ?_ ?_
  rotate_left
  · intro w'
    go_simp
    with_reducible rfl
  rotate_left
  · simp only [Act.put, List.setIfInBounds_toArray, List.set_cons_zero, List.set_cons_succ, i64_w, i32_w]
    rfl
  refine pure_ (i := 3) (N := some 6) (v := ?_) (a' := ?_) #[true, false, false, true, false, false, false, false] rfl rfl (any_of HT_.out (by kernel_rfl)) (fun _ _ _ h => h) (Or.inl ⟨by rfl, ?_⟩) ?_ ?_
  rotate_left
  · intro w'
    go_simp
    with_reducible rfl
  rotate_left
  · simp only [Act.put, List.setIfInBounds_toArray, List.set_cons_zero, List.set_cons_succ, i64_w, i32_w]
    rfl
  refine take_ (i := 1) (N := some 4) (v := ?_) (a' := ?_) #[true, true, false, true, false, false, false, false] rfl rfl (take_ofW HT_.out HW_.out (by kernel_rfl)) (fun _ _ _ h => h) (Or.inl ⟨by rfl, ?_⟩) hHeld ?_ ?_
  rotate_left
  · rintro w' ⟨s0, s1⟩
    go_simp
    with_reducible rfl
  rotate_left
  · simp only [Act.put, List.setIfInBounds_toArray, List.set_cons_zero, List.set_cons_succ, i64_w, i32_w]
    rfl
  refine take_ (i := 4) (N := some 7) (v := ?_) (a' := ?_) #[true, true, false, true, true, false, false, false] rfl rfl (take_ofW HT_.out HW_.out (by kernel_rfl)) (fun _ _ _ h => h) (Or.inl ⟨by rfl, ?_⟩) hHeld ?_ ?_
  rotate_left
  · rintro w' ⟨s0, s1⟩
    go_simp
    with_reducible rfl
  rotate_left
  · simp only [Act.put, List.setIfInBounds_toArray, List.set_cons_zero, List.set_cons_succ, i64_w, i32_w]
    rfl
  refine one_ (i := 2) (N := some 5) #[true, true, true, true, true, false, false, false] rfl rfl (one_of HT_.out (by kernel_rfl)) (by decide) (fun K hK => ?_)
  refine goes_ Try.func129 (by kernel_rfl) rfl #[.int .u64 a0_1] (by rfl) rfl rfl (by (try simp only [List.map_toArray, List.map_cons, List.map_nil]); first | done | rfl | (simp only [List.length_drop, List.length_take]; rfl)) ?_
  with_reducible refine (bits_Reverse64.calls a0_1 t426 _ A2.out).mono ?_
  rintro e w' ⟨rfl, ⟨nd, rfl⟩⟩
  refine ⟨_, rfl, ?_⟩
  refine hK.out _ _ ⟨(blk_cell BK424.out 0).trans rfl, (blk_cell BK424.out 1).trans rfl⟩ (fun hHeld => ?_)
  clear hK K
  refine norm_ (a' := ?_) ?_ ?_
  rotate_left
  · show Act.put _ (some 5) _ = _
    simp only [Act.put, List.setIfInBounds_toArray, List.set_cons_zero, List.set_cons_succ, i64_w, i32_w]
    rfl
  refine one_ (i := 5) (N := some 8) #[true, true, true, true, true, true, false, false] rfl rfl (one_of HT_.out (by kernel_rfl)) (by decide) (fun K hK => ?_)
  refine goes_ Try.func129 (by kernel_rfl) rfl #[.int .u64 a0_0] (by rfl) rfl rfl (by (try simp only [List.map_toArray, List.map_cons, List.map_nil]); first | done | rfl | (simp only [List.length_drop, List.length_take]; rfl)) ?_
  with_reducible refine (bits_Reverse64.calls a0_0 t427 _ A3.out).mono ?_
  rintro e w' ⟨rfl, ⟨nd, rfl⟩⟩
  refine ⟨_, rfl, ?_⟩
  refine hK.out _ _ ⟨(blk_cell BK424.out 0).trans rfl, (blk_cell BK424.out 1).trans rfl⟩ (fun hHeld => ?_)
  clear hK K
  refine norm_ (a' := ?_) ?_ ?_
  rotate_left
  · show Act.put _ (some 8) _ = _
    simp only [Act.put, List.setIfInBounds_toArray, List.set_cons_zero, List.set_cons_succ, i64_w, i32_w]
    rfl
  refine pure_ (i := 6) (N := some 9) (v := ?_) (a' := ?_) #[true, true, true, true, true, true, true, false] rfl rfl (any_of HT_.out (by kernel_rfl)) (fun _ _ _ h => h) (Or.inl ⟨by rfl, ?_⟩) ?_ ?_
  rotate_left
  · intro w'
    go_simp
    with_reducible rfl
  rotate_left
  · simp only [Act.put, List.setIfInBounds_toArray, List.set_cons_zero, List.set_cons_succ, i64_w, i32_w]
    rfl
  refine one_ (i := 7) (N := none) #[true, true, true, true, true, true, true, true] rfl rfl (one_of HT_.out (by kernel_rfl)) (by decide) (fun K hK => ?_)
  have hs7 : w6.cell? ⟨gb425, 0, none⟩ = some (.int .u64 0) := (blk_cell BK425.out 0).trans rfl
  have hfs7 := blk_frozen BK425.out 0
  have hns7_0 := NB424_425.out
  have hms7_0 := NB425_424.out
  have hs8 : w6.cell? ⟨gb425, 1, none⟩ = some (.int .u64 0) := (blk_cell BK425.out 1).trans rfl
  have hfs8 := blk_frozen BK425.out 1
  have hns8_0 := NB424_425.out
  have hms8_0 := NB425_424.out
  refine skip_ (w1 := ?_) (by rfl) rfl ?_ ?_
  rotate_left
  · go_simp
    rfl
  refine hK.out _ _ ⟨((cell_far (p := ⟨gb425, _, none⟩) NB424_425.out _).trans (((cell_far (p := ⟨gb425, _, none⟩) NB424_425.out _).trans (hHeld.1)))), ((cell_far (p := ⟨gb425, _, none⟩) NB424_425.out _).trans (((cell_far (p := ⟨gb425, _, none⟩) NB424_425.out _).trans (hHeld.2))))⟩ (fun hHeld => ?_)
  clear hK K
  refine done_ (done_of HT_.out (by kernel_rfl)) ?_
  try go_wp2
  refine bodyPost_ret (results_cell_row rfl _ _ gb425 59 #[.int .u64 t426, .int .u64 t427] (0, 0) _ rfl (by (with_reducible repeat (first | refine blk_drewN ?_ _ | refine blk_drew ?_ | refine blk_alloc ?_ _)); refine blk_put (cs := #[.int .u64 t426, .int .u64 0]) ?_ 1 _ rfl; (with_reducible repeat (first | refine blk_drewN ?_ _ | refine blk_drew ?_ | refine blk_alloc ?_ _)); refine blk_put (cs := #[.int .u64 0, .int .u64 0]) ?_ 0 _ rfl; (with_reducible repeat (first | refine blk_drewN ?_ _ | refine blk_drew ?_ | refine blk_alloc ?_ _)); exact BK425.out) Try.underlying59 rfl (by kernel_rfl)) rfl ?_
  exact ⟨by first | rfl | (simp [errW_none, errW_some] <;> rfl) | (simp [*, errW_none, errW_some] <;> rfl), by repeat (first | (with_reducible first | exact HB.out | apply below_alloc | apply pw_below_drewN | apply below_drew1 | refine below_set ?_ GE424.out | refine below_set ?_ GE425.out) | exact HB.out)⟩


/-! ### impl_WideReverse: function 55 -/
def impl_WideReverse.f (a0_0 : Int) (a0_1 : Int) : Option (Int × Int) := (impl_Wide_u.f a0_0 a0_1).bind fun bt430 => ((uint128_Uint128_Reverse.f bt430.1 bt430.2).bind fun bt432 => ((impl_wide.f bt432.1 bt432.2).bind fun bt434 => (some (bt434.1, bt434.2))))
set_option maxHeartbeats 8000000 in
set_option maxRecDepth 100000 in
theorem impl_WideReverse.calls (a0_0 : Int) (a0_1 : Int) (r1 : Int) (r2 : Int) (w : World) (h : impl_WideReverse.f a0_0 a0_1 = some (r1, r2)) :
    Calls Try.prog 55 #[.agg #[.int .u64 a0_0, .int .u64 a0_1]] w fun e w' => e = .returned (.agg #[.int .u64 r1, .int .u64 r2]) ∧ Below w.heap.size w w' := by
  have hu24 := Try.underlying24
  have HB := Aside0.mk (Below.refl w.heap.size w)
  have H : ((impl_Wide_u.f a0_0 a0_1).bind fun bt430 => ((uint128_Uint128_Reverse.f bt430.1 bt430.2).bind fun bt432 => ((impl_wide.f bt432.1 bt432.2).bind fun bt434 => (some (bt434.1, bt434.2))))) = some (r1, r2) := h
  clear h
  replace H := Option.bind_eq_some_iff.mp H
  obtain ⟨⟨t430, t431⟩, A20, H⟩ := H
  replace H : ((uint128_Uint128_Reverse.f t430 t431).bind fun bt432 => ((impl_wide.f bt432.1 bt432.2).bind fun bt434 => (some (bt434.1, bt434.2)))) = some (r1, r2) := H
  have A2 := Aside0.mk A20
  clear A20
  replace H := Option.bind_eq_some_iff.mp H
  obtain ⟨⟨t432, t433⟩, A30, H⟩ := H
  replace H : ((impl_wide.f t432 t433).bind fun bt434 => (some (bt434.1, bt434.2))) = some (r1, r2) := H
  have A3 := Aside0.mk A30
  clear A30
  replace H := Option.bind_eq_some_iff.mp H
  obtain ⟨⟨t434, t435⟩, A40, H⟩ := H
  replace H : (some (t434, t435)) = some (r1, r2) := H
  have A4 := Aside0.mk A40
  clear A40
  simp only [Option.some.injEq, Prod.mk.injEq] at H
  obtain ⟨rfl, rfl⟩ := H
  go_enter Try.func55, Try.ntmps55
  go_wp2_with (first | ((with_reducible refine gate_dst (N := 1) rfl ?_); refine box_event ?hg (N := 1) ?hd (cs := #[.int .u64 a0_0, .int .u64 a0_1]) (t := 24) ?hr ?_; (case hd => rfl); (case hg => rfl); (case hr => first | (go_simp; done) | (go_simp; rfl)); intro gb428 hg w5 hbox hb; have n0_ := Aside0.mk (below_step (by repeat (first | (with_reducible first | exact HB.out | apply below_alloc | apply pw_below_drewN | apply below_drew1) | exact HB.out)) hb); have n1_ := Aside0.mk (hbox); have n2_ := Aside0.mk ((by rw [hg]; exact (below_size (by repeat (first | (with_reducible first | exact HB.out | apply below_alloc | apply pw_below_drewN | apply below_drew1) | exact HB.out))) : w.heap.size ≤ gb428)); have n3_ := Aside0.mk ((by rw [hg]; exact (below_size (by repeat (first | (with_reducible first | exact HB.out | apply below_alloc | apply pw_below_drewN | apply below_drew1) | exact HB.out))) : w.heap.size ≤ gb428)); clear HB; have HB := n0_; have BK428 := n1_; have GW428 := n2_; have GE428 := n3_; clear n0_ n1_ n2_ n3_; clear hb hbox hg) | ((with_reducible refine gate_dst (N := 2) rfl ?_); refine box_event ?hg (N := 2) ?hd (cs := #[.int .u64 0, .int .u64 0]) (t := 24) ?hr ?_; (case hd => rfl); (case hg => rfl); (case hr => first | (go_simp; done) | (go_simp; rfl)); intro gb429 hg w6 hbox hb; have n0_ := Aside0.mk (blk_below (g := gb428) (o := .cells #[.int .u64 a0_0, .int .u64 a0_1] 24 (0, 0)) (by (with_reducible repeat (first | refine blk_drewN ?_ _ | refine blk_drew ?_ | refine blk_alloc ?_ _)); exact BK428.out) hb); have n1_ := Aside0.mk (below_step (by repeat (first | (with_reducible first | exact HB.out | apply below_alloc | apply pw_below_drewN | apply below_drew1 | refine below_set ?_ GE428.out) | exact HB.out)) hb); have n2_ := Aside0.mk (hbox); have n3_ := Aside0.mk ((by rw [hg]; exact (below_size (by repeat (first | (with_reducible first | exact HB.out | apply below_alloc | apply pw_below_drewN | apply below_drew1 | refine below_set ?_ GE428.out) | exact HB.out))) : w.heap.size ≤ gb429)); have n4_ := Aside0.mk ((by rw [hg]; exact (below_size (by repeat (first | (with_reducible first | exact HB.out | apply below_alloc | apply pw_below_drewN | apply below_drew1 | refine below_set ?_ GE428.out) | exact HB.out))) : w.heap.size ≤ gb429)); have n5_ := Aside0.mk ((by rw [hg]; exact Nat.ne_of_lt (blk_lt (g := gb428) (o := .cells #[.int .u64 a0_0, .int .u64 a0_1] 24 (0, 0)) (by (with_reducible repeat (first | refine blk_drewN ?_ _ | refine blk_drew ?_ | refine blk_alloc ?_ _)); exact BK428.out)) : gb428 ≠ gb429)); have n6_ := Aside0.mk ((by rw [hg]; exact Nat.ne_of_gt (blk_lt (g := gb428) (o := .cells #[.int .u64 a0_0, .int .u64 a0_1] 24 (0, 0)) (by (with_reducible repeat (first | refine blk_drewN ?_ _ | refine blk_drew ?_ | refine blk_alloc ?_ _)); exact BK428.out)) : gb429 ≠ gb428)); clear BK428; clear HB; have BK428 := n0_; have HB := n1_; have BK429 := n2_; have GW429 := n3_; have GE429 := n4_; have NB428_429 := n5_; have NB429_428 := n6_; clear n0_ n1_ n2_ n3_ n4_ n5_ n6_; clear hb hbox hg; have hnb7 := NB428_429.out; have hnc7 := NB429_428.out; have hcz8_0 : w6.cell? ⟨gb428, 0, none⟩ = some (.int .u64 a0_0) := (blk_cell BK428.out 0).trans rfl; have hcz8_1 : w6.cell? ⟨gb428, 1, none⟩ = some (.int .u64 a0_1) := (blk_cell BK428.out 1).trans rfl; have hfz8_0 := blk_frozen BK428.out 0; have hfz8_1 := blk_frozen BK428.out 1) | ((with_reducible refine gate_callee (f := 76) rfl ?_); refine goesL_ (some 4) rfl rfl Try.func76 (by kernel_rfl) rfl #[.agg #[.int .u64 a0_0, .int .u64 a0_1]] rfl (by (try simp only [List.map_toArray, List.map_cons, List.map_nil]); first | done | rfl | (simp only [List.length_drop, List.length_take]; rfl)) ?_; (with_reducible refine (impl_Wide_u.calls a0_0 a0_1 t430 t431 _ A2.out).mono ?_); rintro e w9 ⟨rfl, hb⟩; refine ⟨_, rfl, ?_⟩; have n0_ := Aside0.mk (blk_below (g := gb428) (o := .cells #[.int .u64 a0_0, .int .u64 a0_1] 24 (0, 0)) (by (with_reducible repeat (first | refine blk_drewN ?_ _ | refine blk_drew ?_ | refine blk_alloc ?_ _)); exact BK428.out) hb); have n1_ := Aside0.mk (blk_below (g := gb429) (o := .cells #[.int .u64 0, .int .u64 0] 24 (0, 0)) (by (with_reducible repeat (first | refine blk_drewN ?_ _ | refine blk_drew ?_ | refine blk_alloc ?_ _)); exact BK429.out) hb); have n2_ := Aside0.mk (below_step (by repeat (first | (with_reducible first | exact HB.out | apply below_alloc | apply pw_below_drewN | apply below_drew1 | refine below_set ?_ GE428.out | refine below_set ?_ GE429.out) | exact HB.out)) hb); clear BK428; clear BK429; clear HB; have BK428 := n0_; have BK429 := n1_; have HB := n2_; clear n0_ n1_ n2_; (try clear hb); (try clear hb2); (try clear hk); (try clear hi)) | ((with_reducible refine gate_callee (f := 100) rfl ?_); refine goesL_ (some 5) rfl rfl Try.func100 (by kernel_rfl) rfl #[.agg #[.int .u64 t430, .int .u64 t431]] rfl (by (try simp only [List.map_toArray, List.map_cons, List.map_nil]); first | done | rfl | (simp only [List.length_drop, List.length_take]; rfl)) ?_; (with_reducible refine (uint128_Uint128_Reverse.calls t430 t431 t432 t433 _ A3.out).mono ?_); rintro e w10 ⟨rfl, hb⟩; refine ⟨_, rfl, ?_⟩; have n0_ := Aside0.mk (blk_below (g := gb428) (o := .cells #[.int .u64 a0_0, .int .u64 a0_1] 24 (0, 0)) (by (with_reducible repeat (first | refine blk_drewN ?_ _ | refine blk_drew ?_ | refine blk_alloc ?_ _)); exact BK428.out) hb); have n1_ := Aside0.mk (blk_below (g := gb429) (o := .cells #[.int .u64 0, .int .u64 0] 24 (0, 0)) (by (with_reducible repeat (first | refine blk_drewN ?_ _ | refine blk_drew ?_ | refine blk_alloc ?_ _)); exact BK429.out) hb); have n2_ := Aside0.mk (below_step (by repeat (first | (with_reducible first | exact HB.out | apply below_alloc | apply pw_below_drewN | apply below_drew1 | refine below_set ?_ GE428.out | refine below_set ?_ GE429.out) | exact HB.out)) hb); clear BK428; clear BK429; clear HB; have BK428 := n0_; have BK429 := n1_; have HB := n2_; clear n0_ n1_ n2_; (try clear hb); (try clear hb2); (try clear hk); (try clear hi)) | ((with_reducible refine gate_callee (f := 80) rfl ?_); refine goesL_ (some 6) rfl rfl Try.func80 (by kernel_rfl) rfl #[.agg #[.int .u64 t432, .int .u64 t433]] rfl (by (try simp only [List.map_toArray, List.map_cons, List.map_nil]); first | done | rfl | (simp only [List.length_drop, List.length_take]; rfl)) ?_; (with_reducible refine (impl_wide.calls t432 t433 t434 t435 _ A4.out).mono ?_); rintro e w11 ⟨rfl, hb⟩; refine ⟨_, rfl, ?_⟩; have n0_ := Aside0.mk (blk_below (g := gb428) (o := .cells #[.int .u64 a0_0, .int .u64 a0_1] 24 (0, 0)) (by (with_reducible repeat (first | refine blk_drewN ?_ _ | refine blk_drew ?_ | refine blk_alloc ?_ _)); exact BK428.out) hb); have n1_ := Aside0.mk (blk_below (g := gb429) (o := .cells #[.int .u64 0, .int .u64 0] 24 (0, 0)) (by (with_reducible repeat (first | refine blk_drewN ?_ _ | refine blk_drew ?_ | refine blk_alloc ?_ _)); exact BK429.out) hb); have n2_ := Aside0.mk (below_step (by repeat (first | (with_reducible first | exact HB.out | apply below_alloc | apply pw_below_drewN | apply below_drew1 | refine below_set ?_ GE428.out | refine below_set ?_ GE429.out) | exact HB.out)) hb); clear BK428; clear BK429; clear HB; have BK428 := n0_; have BK429 := n1_; have HB := n2_; clear n0_ n1_ n2_; (try clear hb); (try clear hb2); (try clear hk); (try clear hi); have hcz12_0 : w11.cell? ⟨gb429, 0, none⟩ = some (.int .u64 0) := (blk_cell BK429.out 0).trans rfl; have hcz12_1 : w11.cell? ⟨gb429, 1, none⟩ = some (.int .u64 0) := (blk_cell BK429.out 1).trans rfl; have hfz12_0 := blk_frozen BK429.out 0; have hfz12_1 := blk_frozen BK429.out 1))
  refine bodyPost_ret (results_cell_row rfl _ _ gb429 24 #[.int .u64 t434, .int .u64 t435] (0, 0) _ rfl (by (with_reducible repeat (first | refine blk_drewN ?_ _ | refine blk_drew ?_ | refine blk_alloc ?_ _)); refine blk_put (cs := #[.int .u64 t434, .int .u64 0]) ?_ 1 _ rfl; (with_reducible repeat (first | refine blk_drewN ?_ _ | refine blk_drew ?_ | refine blk_alloc ?_ _)); refine blk_put (cs := #[.int .u64 0, .int .u64 0]) ?_ 0 _ rfl; (with_reducible repeat (first | refine blk_drewN ?_ _ | refine blk_drew ?_ | refine blk_alloc ?_ _)); exact BK429.out) Try.underlying24 rfl (by kernel_rfl)) rfl ?_
  exact ⟨by first | rfl | (simp [errW_none, errW_some] <;> rfl) | (simp [*, errW_none, errW_some] <;> rfl), by repeat (first | (with_reducible first | exact HB.out | apply below_alloc | apply pw_below_drewN | apply below_drew1 | refine below_set ?_ GE428.out | refine below_set ?_ GE429.out) | exact HB.out)⟩


/-! ### uint128_Uint128_ReverseBytes: function 101 -/
def uint128_Uint128_ReverseBytes.f (a0_0 : Int) (a0_1 : Int) : Option (Int × Int) := (bits_ReverseBytes64.f a0_1).bind fun t438 => ((bits_ReverseBytes64.f a0_0).bind fun t439 => (some (t438, t439)))
def uint128_Uint128_ReverseBytes.T1 : Bool × List (List Nat × List Nat) := (true, [([], []), ([0], [0]), ([1], [1]), ([], []), ([3], [3]), ([4, 2], [4]), ([2, 5], [2, 5]), ([6, 5, 0, 1, 2, 3, 4, 5, 6], [6])])
def uint128_Uint128_ReverseBytes.B1 : List Nat := [0, 1, 3, 0, 8, 31, 63, 127]
theorem uint128_Uint128_ReverseBytes.tab1 : rtab .any (opsOf Try.f101 1) = uint128_Uint128_ReverseBytes.T1 := by kernel_rfl
theorem uint128_Uint128_ReverseBytes.bits1 : waitsOk uint128_Uint128_ReverseBytes.T1.2 uint128_Uint128_ReverseBytes.B1 = true := by kernel_rfl
set_option maxHeartbeats 8000000 in
set_option maxRecDepth 100000 in
theorem uint128_Uint128_ReverseBytes.calls (a0_0 : Int) (a0_1 : Int) (r1 : Int) (r2 : Int) (w : World) (h : uint128_Uint128_ReverseBytes.f a0_0 a0_1 = some (r1, r2)) :
    Calls Try.prog 101 #[.agg #[.int .u64 a0_0, .int .u64 a0_1]] w fun e w' => e = .returned (.agg #[.int .u64 r1, .int .u64 r2]) ∧ Below w.heap.size w w' := by
  have hu59 := Try.underlying59
  have HB := Aside0.mk (Below.refl w.heap.size w)
  have H : ((bits_ReverseBytes64.f a0_1).bind fun t438 => ((bits_ReverseBytes64.f a0_0).bind fun t439 => (some (t438, t439)))) = some (r1, r2) := h
  clear h
  replace H := Option.bind_eq_some_iff.mp H
  obtain ⟨t438, A20, H⟩ := H
  replace H : ((bits_ReverseBytes64.f a0_0).bind fun t439 => (some (t438, t439))) = some (r1, r2) := H
  have A2 := Aside0.mk A20
  clear A20
  replace H := Option.bind_eq_some_iff.mp H
  obtain ⟨t439, A30, H⟩ := H
  replace H : (some (t438, t439)) = some (r1, r2) := H
  have A3 := Aside0.mk A30
  clear A30
  simp only [Option.some.injEq, Prod.mk.injEq] at H
  obtain ⟨rfl, rfl⟩ := H
  go_enter Try.func101, Try.ntmps101
  try go_wp2_with (first | ((with_reducible refine gate_dst (N := 1) rfl ?_); refine box_event ?hg (N := 1) ?hd (cs := #[.int .u64 a0_0, .int .u64 a0_1]) (t := 59) ?hr ?_; (case hd => rfl); (case hg => rfl); (case hr => first | (go_simp; done) | (go_simp; rfl)); intro gb436 hg w4 hbox hb; have n0_ := Aside0.mk (below_step (by repeat (first | (with_reducible first | exact HB.out | apply below_alloc | apply pw_below_drewN | apply below_drew1) | exact HB.out)) hb); have n1_ := Aside0.mk (hbox); have n2_ := Aside0.mk ((by rw [hg]; exact (below_size (by repeat (first | (with_reducible first | exact HB.out | apply below_alloc | apply pw_below_drewN | apply below_drew1) | exact HB.out))) : w.heap.size ≤ gb436)); have n3_ := Aside0.mk ((by rw [hg]; exact (below_size (by repeat (first | (with_reducible first | exact HB.out | apply below_alloc | apply pw_below_drewN | apply below_drew1) | exact HB.out))) : w.heap.size ≤ gb436)); clear HB; have HB := n0_; have BK436 := n1_; have GW436 := n2_; have GE436 := n3_; clear n0_ n1_ n2_ n3_; clear hb hbox hg) | ((with_reducible refine gate_dst (N := 2) rfl ?_); refine box_event ?hg (N := 2) ?hd (cs := #[.int .u64 0, .int .u64 0]) (t := 59) ?hr ?_; (case hd => rfl); (case hg => rfl); (case hr => first | (go_simp; done) | (go_simp; rfl)); intro gb437 hg w5 hbox hb; have n0_ := Aside0.mk (blk_below (g := gb436) (o := .cells #[.int .u64 a0_0, .int .u64 a0_1] 59 (0, 0)) (by (with_reducible repeat (first | refine blk_drewN ?_ _ | refine blk_drew ?_ | refine blk_alloc ?_ _)); exact BK436.out) hb); have n1_ := Aside0.mk (below_step (by repeat (first | (with_reducible first | exact HB.out | apply below_alloc | apply pw_below_drewN | apply below_drew1 | refine below_set ?_ GE436.out) | exact HB.out)) hb); have n2_ := Aside0.mk (hbox); have n3_ := Aside0.mk ((by rw [hg]; exact (below_size (by repeat (first | (with_reducible first | exact HB.out | apply below_alloc | apply pw_below_drewN | apply below_drew1 | refine below_set ?_ GE436.out) | exact HB.out))) : w.heap.size ≤ gb437)); have n4_ := Aside0.mk ((by rw [hg]; exact (below_size (by repeat (first | (with_reducible first | exact HB.out | apply below_alloc | apply pw_below_drewN | apply below_drew1 | refine below_set ?_ GE436.out) | exact HB.out))) : w.heap.size ≤ gb437)); have n5_ := Aside0.mk ((by rw [hg]; exact Nat.ne_of_lt (blk_lt (g := gb436) (o := .cells #[.int .u64 a0_0, .int .u64 a0_1] 59 (0, 0)) (by (with_reducible repeat (first | refine blk_drewN ?_ _ | refine blk_drew ?_ | refine blk_alloc ?_ _)); exact BK436.out)) : gb436 ≠ gb437)); have n6_ := Aside0.mk ((by rw [hg]; exact Nat.ne_of_gt (blk_lt (g := gb436) (o := .cells #[.int .u64 a0_0, .int .u64 a0_1] 59 (0, 0)) (by (with_reducible repeat (first | refine blk_drewN ?_ _ | refine blk_drew ?_ | refine blk_alloc ?_ _)); exact BK436.out)) : gb437 ≠ gb436)); clear BK436; clear HB; have BK436 := n0_; have HB := n1_; have BK437 := n2_; have GW437 := n3_; have GE437 := n4_; have NB436_437 := n5_; have NB437_436 := n6_; clear n0_ n1_ n2_ n3_ n4_ n5_ n6_; clear hb hbox hg))
  have n0_ := Aside0.mk (blk_drew BK436.out)
  have n1_ := Aside0.mk (blk_drew BK437.out)
  have n2_ := Aside0.mk (below_drew1 HB.out)
  clear BK436
  clear BK437
  clear HB
  have BK436 := n0_
  have BK437 := n1_
  have HB := n2_
  clear n0_ n1_ n2_
  refine start_ (n := 8) (S := fun w' => w'.cell? ⟨gb436, 0, none⟩ = some (.int .u64 a0_0) ∧ w'.cell? ⟨gb436, 1, none⟩ = some (.int .u64 a0_1)) (ds := []) #[false, false, false, false, false, false, false, false] (by kernel_rfl) rfl rfl ⟨(blk_cell BK436.out 0).trans rfl, (blk_cell BK436.out 1).trans rfl⟩ (fun hHeld => ?_); refine with_tabW uint128_Uint128_ReverseBytes.tab1 uint128_Uint128_ReverseBytes.bits1 (fun HT_ HW_ => ?_)
  generalize w5.drew = w6 at BK436 BK437 HB hHeld ⊢
  refine pure_ (i := 0) (N := some 3) (v := ?_) (a' := ?_) #[true, false, false, false, false, false, false, false] rfl rfl (any_of HT_.out (by kernel_rfl)) (fun _ _ _ h => h) (Or.inl ⟨by rfl, ?_⟩) ?_ ?_
  rotate_left
  · intro w'
    go_simp
    with_reducible rfl
  rotate_left
  · simp only [Act.put, List.setIfInBounds_toArray, List.set_cons_zero, List.set_cons_succ, i64_w, i32_w]
    rfl
  refine pure_ (i := 3) (N := some 6) (v := ?_) (a' := ?_) #[true, false, false, true, false, false, false, false] rfl rfl (any_of HT_.out (by kernel_rfl)) (fun _ _ _ h => h) (Or.inl ⟨by rfl, ?_⟩) ?_ ?_
  rotate_left
  · intro w'
    go_simp
    with_reducible rfl
  rotate_left
  · simp only [Act.put, List.setIfInBounds_toArray, List.set_cons_zero, List.set_cons_succ, i64_w, i32_w]
    rfl
  refine take_ (i := 1) (N := some 4) (v := ?_) (a' := ?_) #[true, true, false, true, false, false, false, false] rfl rfl (take_ofW HT_.out HW_.out (by kernel_rfl)) (fun _ _ _ h => h) (Or.inl ⟨by rfl, ?_⟩) hHeld ?_ ?_
  rotate_left
  · rintro w' ⟨s0, s1⟩
    go_simp
    with_reducible rfl
  rotate_left
  · simp only [Act.put, List.setIfInBounds_toArray, List.set_cons_zero, List.set_cons_succ, i64_w, i32_w]
    rfl
  refine take_ (i := 4) (N := some 7) (v := ?_) (a' := ?_) #[true, true, false, true, true, false, false, false] rfl rfl (take_ofW HT_.out HW_.out (by kernel_rfl)) (fun _ _ _ h => h) (Or.inl ⟨by rfl, ?_⟩) hHeld ?_ ?_
  rotate_left
  · rintro w' ⟨s0, s1⟩
    go_simp
    with_reducible rfl
  rotate_left
  · simp only [Act.put, List.setIfInBounds_toArray, List.set_cons_zero, List.set_cons_succ, i64_w, i32_w]
    rfl
  refine one_ (i := 2) (N := some 5) #[true, true, true, true, true, false, false, false] rfl rfl (one_of HT_.out (by kernel_rfl)) (by decide) (fun K hK => ?_)
  refine goes_ Try.func130 (by kernel_rfl) rfl #[.int .u64 a0_1] (by rfl) rfl rfl (by (try simp only [List.map_toArray, List.map_cons, List.map_nil]); first | done | rfl | (simp only [List.length_drop, List.length_take]; rfl)) ?_
  with_reducible refine (bits_ReverseBytes64.calls a0_1 t438 _ A2.out).mono ?_
  rintro e w' ⟨rfl, ⟨nd, rfl⟩⟩
  refine ⟨_, rfl, ?_⟩
  refine hK.out _ _ ⟨(blk_cell BK436.out 0).trans rfl, (blk_cell BK436.out 1).trans rfl⟩ (fun hHeld => ?_)
  clear hK K
  refine norm_ (a' := ?_) ?_ ?_
  rotate_left
  · show Act.put _ (some 5) _ = _
    simp only [Act.put, List.setIfInBounds_toArray, List.set_cons_zero, List.set_cons_succ, i64_w, i32_w]
    rfl
  refine one_ (i := 5) (N := some 8) #[true, true, true, true, true, true, false, false] rfl rfl (one_of HT_.out (by kernel_rfl)) (by decide) (fun K hK => ?_)
  refine goes_ Try.func130 (by kernel_rfl) rfl #[.int .u64 a0_0] (by rfl) rfl rfl (by (try simp only [List.map_toArray, List.map_cons, List.map_nil]); first | done | rfl | (simp only [List.length_drop, List.length_take]; rfl)) ?_
  with_reducible refine (bits_ReverseBytes64.calls a0_0 t439 _ A3.out).mono ?_
  rintro e w' ⟨rfl, ⟨nd, rfl⟩⟩
  refine ⟨_, rfl, ?_⟩
  refine hK.out _ _ ⟨(blk_cell BK436.out 0).trans rfl, (blk_cell BK436.out 1).trans rfl⟩ (fun hHeld => ?_)
  clear hK K
  refine norm_ (a' := ?_) ?_ ?_
  rotate_left
  · show Act.put _ (some 8) _ = _
    simp only [Act.put, List.setIfInBounds_toArray, List.set_cons_zero, List.set_cons_succ, i64_w, i32_w]
    rfl
  refine pure_ (i := 6) (N := some 9) (v := ?_) (a' := ?_) #[true, true, true, true, true, true, true, false] rfl rfl (any_of HT_.out (by kernel_rfl)) (fun _ _ _ h => h) (Or.inl ⟨by rfl, ?_⟩) ?_ ?_
  rotate_left
  · intro w'
    go_simp
    with_reducible rfl
  rotate_left
  · simp only [Act.put, List.setIfInBounds_toArray, List.set_cons_zero, List.set_cons_succ, i64_w, i32_w]
    rfl
  refine one_ (i := 7) (N := none) #[true, true, true, true, true, true, true, true] rfl rfl (one_of HT_.out (by kernel_rfl)) (by decide) (fun K hK => ?_)
  have hs7 : w6.cell? ⟨gb437, 0, none⟩ = some (.int .u64 0) := (blk_cell BK437.out 0).trans rfl
  have hfs7 := blk_frozen BK437.out 0
  have hns7_0 := NB436_437.out
  have hms7_0 := NB437_436.out
  have hs8 : w6.cell? ⟨gb437, 1, none⟩ = some (.int .u64 0) := (blk_cell BK437.out 1).trans rfl
  have hfs8 := blk_frozen BK437.out 1
  have hns8_0 := NB436_437.out
  have hms8_0 := NB437_436.out
  refine skip_ (w1 := ?_) (by rfl) rfl ?_ ?_
  rotate_left
  · go_simp
    rfl
  refine hK.out _ _ ⟨((cell_far (p := ⟨gb437, _, none⟩) NB436_437.out _).trans (((cell_far (p := ⟨gb437, _, none⟩) NB436_437.out _).trans (hHeld.1)))), ((cell_far (p := ⟨gb437, _, none⟩) NB436_437.out _).trans (((cell_far (p := ⟨gb437, _, none⟩) NB436_437.out _).trans (hHeld.2))))⟩ (fun hHeld => ?_)
  clear hK K
  refine done_ (done_of HT_.out (by kernel_rfl)) ?_
  try go_wp2
  refine bodyPost_ret (results_cell_row rfl _ _ gb437 59 #[.int .u64 t438, .int .u64 t439] (0, 0) _ rfl (by (with_reducible repeat (first | refine blk_drewN ?_ _ | refine blk_drew ?_ | refine blk_alloc ?_ _)); refine blk_put (cs := #[.int .u64 t438, .int .u64 0]) ?_ 1 _ rfl; (with_reducible repeat (first | refine blk_drewN ?_ _ | refine blk_drew ?_ | refine blk_alloc ?_ _)); refine blk_put (cs := #[.int .u64 0, .int .u64 0]) ?_ 0 _ rfl; (with_reducible repeat (first | refine blk_drewN ?_ _ | refine blk_drew ?_ | refine blk_alloc ?_ _)); exact BK437.out) Try.underlying59 rfl (by kernel_rfl)) rfl ?_
  exact ⟨by first | rfl | (simp [errW_none, errW_some] <;> rfl) | (simp [*, errW_none, errW_some] <;> rfl), by repeat (first | (with_reducible first | exact HB.out | apply below_alloc | apply pw_below_drewN | apply below_drew1 | refine below_set ?_ GE436.out | refine below_set ?_ GE437.out) | exact HB.out)⟩


/-! ### impl_WideReverseBytes: function 56 -/
def impl_WideReverseBytes.f (a0_0 : Int) (a0_1 : Int) : Option (Int × Int) := (impl_Wide_u.f a0_0 a0_1).bind fun bt442 => ((uint128_Uint128_ReverseBytes.f bt442.1 bt442.2).bind fun bt444 => ((impl_wide.f bt444.1 bt444.2).bind fun bt446 => (some (bt446.1, bt446.2))))
set_option maxHeartbeats 8000000 in
set_option maxRecDepth 100000 in
theorem impl_WideReverseBytes.calls (a0_0 : Int) (a0_1 : Int) (r1 : Int) (r2 : Int) (w : World) (h : impl_WideReverseBytes.f a0_0 a0_1 = some (r1, r2)) :
    Calls Try.prog 56 #[.agg #[.int .u64 a0_0, .int .u64 a0_1]] w fun e w' => e = .returned (.agg #[.int .u64 r1, .int .u64 r2]) ∧ Below w.heap.size w w' := by
  have hu24 := Try.underlying24
  have HB := Aside0.mk (Below.refl w.heap.size w)
  have H : ((impl_Wide_u.f a0_0 a0_1).bind fun bt442 => ((uint128_Uint128_ReverseBytes.f bt442.1 bt442.2).bind fun bt444 => ((impl_wide.f bt444.1 bt444.2).bind fun bt446 => (some (bt446.1, bt446.2))))) = some (r1, r2) := h
  clear h
  replace H := Option.bind_eq_some_iff.mp H
  obtain ⟨⟨t442, t443⟩, A20, H⟩ := H
  replace H : ((uint128_Uint128_ReverseBytes.f t442 t443).bind fun bt444 => ((impl_wide.f bt444.1 bt444.2).bind fun bt446 => (some (bt446.1, bt446.2)))) = some (r1, r2) := H
  have A2 := Aside0.mk A20
  clear A20
  replace H := Option.bind_eq_some_iff.mp H
  obtain ⟨⟨t444, t445⟩, A30, H⟩ := H
  replace H : ((impl_wide.f t444 t445).bind fun bt446 => (some (bt446.1, bt446.2))) = some (r1, r2) := H
  have A3 := Aside0.mk A30
  clear A30
  replace H := Option.bind_eq_some_iff.mp H
  obtain ⟨⟨t446, t447⟩, A40, H⟩ := H
  replace H : (some (t446, t447)) = some (r1, r2) := H
  have A4 := Aside0.mk A40
  clear A40
  simp only [Option.some.injEq, Prod.mk.injEq] at H
  obtain ⟨rfl, rfl⟩ := H
  go_enter Try.func56, Try.ntmps56
  go_wp2_with (first | ((with_reducible refine gate_dst (N := 1) rfl ?_); refine box_event ?hg (N := 1) ?hd (cs := #[.int .u64 a0_0, .int .u64 a0_1]) (t := 24) ?hr ?_; (case hd => rfl); (case hg => rfl); (case hr => first | (go_simp; done) | (go_simp; rfl)); intro gb440 hg w5 hbox hb; have n0_ := Aside0.mk (below_step (by repeat (first | (with_reducible first | exact HB.out | apply below_alloc | apply pw_below_drewN | apply below_drew1) | exact HB.out)) hb); have n1_ := Aside0.mk (hbox); have n2_ := Aside0.mk ((by rw [hg]; exact (below_size (by repeat (first | (with_reducible first | exact HB.out | apply below_alloc | apply pw_below_drewN | apply below_drew1) | exact HB.out))) : w.heap.size ≤ gb440)); have n3_ := Aside0.mk ((by rw [hg]; exact (below_size (by repeat (first | (with_reducible first | exact HB.out | apply below_alloc | apply pw_below_drewN | apply below_drew1) | exact HB.out))) : w.heap.size ≤ gb440)); clear HB; have HB := n0_; have BK440 := n1_; have GW440 := n2_; have GE440 := n3_; clear n0_ n1_ n2_ n3_; clear hb hbox hg) | ((with_reducible refine gate_dst (N := 2) rfl ?_); refine box_event ?hg (N := 2) ?hd (cs := #[.int .u64 0, .int .u64 0]) (t := 24) ?hr ?_; (case hd => rfl); (case hg => rfl); (case hr => first | (go_simp; done) | (go_simp; rfl)); intro gb441 hg w6 hbox hb; have n0_ := Aside0.mk (blk_below (g := gb440) (o := .cells #[.int .u64 a0_0, .int .u64 a0_1] 24 (0, 0)) (by (with_reducible repeat (first | refine blk_drewN ?_ _ | refine blk_drew ?_ | refine blk_alloc ?_ _)); exact BK440.out) hb); have n1_ := Aside0.mk (below_step (by repeat (first | (with_reducible first | exact HB.out | apply below_alloc | apply pw_below_drewN | apply below_drew1 | refine below_set ?_ GE440.out) | exact HB.out)) hb); have n2_ := Aside0.mk (hbox); have n3_ := Aside0.mk ((by rw [hg]; exact (below_size (by repeat (first | (with_reducible first | exact HB.out | apply below_alloc | apply pw_below_drewN | apply below_drew1 | refine below_set ?_ GE440.out) | exact HB.out))) : w.heap.size ≤ gb441)); have n4_ := Aside0.mk ((by rw [hg]; exact (below_size (by repeat (first | (with_reducible first | exact HB.out | apply below_alloc | apply pw_below_drewN | apply below_drew1 | refine below_set ?_ GE440.out) | exact HB.out))) : w.heap.size ≤ gb441)); have n5_ := Aside0.mk ((by rw [hg]; exact Nat.ne_of_lt (blk_lt (g := gb440) (o := .cells #[.int .u64 a0_0, .int .u64 a0_1] 24 (0, 0)) (by (with_reducible repeat (first | refine blk_drewN ?_ _ | refine blk_drew ?_ | refine blk_alloc ?_ _)); exact BK440.out)) : gb440 ≠ gb441)); have n6_ := Aside0.mk ((by rw [hg]; exact Nat.ne_of_gt (blk_lt (g := gb440) (o := .cells #[.int .u64 a0_0, .int .u64 a0_1] 24 (0, 0)) (by (with_reducible repeat (first | refine blk_drewN ?_ _ | refine blk_drew ?_ | refine blk_alloc ?_ _)); exact BK440.out)) : gb441 ≠ gb440)); clear BK440; clear HB; have BK440 := n0_; have HB := n1_; have BK441 := n2_; have GW441 := n3_; have GE441 := n4_; have NB440_441 := n5_; have NB441_440 := n6_; clear n0_ n1_ n2_ n3_ n4_ n5_ n6_; clear hb hbox hg; have hnb7 := NB440_441.out; have hnc7 := NB441_440.out; have hcz8_0 : w6.cell? ⟨gb440, 0, none⟩ = some (.int .u64 a0_0) := (blk_cell BK440.out 0).trans rfl; have hcz8_1 : w6.cell? ⟨gb440, 1, none⟩ = some (.int .u64 a0_1) := (blk_cell BK440.out 1).trans rfl; have hfz8_0 := blk_frozen BK440.out 0; have hfz8_1 := blk_frozen BK440.out 1) | ((with_reducible refine gate_callee (f := 76) rfl ?_); refine goesL_ (some 4) rfl rfl Try.func76 (by kernel_rfl) rfl #[.agg #[.int .u64 a0_0, .int .u64 a0_1]] rfl (by (try simp only [List.map_toArray, List.map_cons, List.map_nil]); first | done | rfl | (simp only [List.length_drop, List.length_take]; rfl)) ?_; (with_reducible refine (impl_Wide_u.calls a0_0 a0_1 t442 t443 _ A2.out).mono ?_); rintro e w9 ⟨rfl, hb⟩; refine ⟨_, rfl, ?_⟩; have n0_ := Aside0.mk (blk_below (g := gb440) (o := .cells #[.int .u64 a0_0, .int .u64 a0_1] 24 (0, 0)) (by (with_reducible repeat (first | refine blk_drewN ?_ _ | refine blk_drew ?_ | refine blk_alloc ?_ _)); exact BK440.out) hb); have n1_ := Aside0.mk (blk_below (g := gb441) (o := .cells #[.int .u64 0, .int .u64 0] 24 (0, 0)) (by (with_reducible repeat (first | refine blk_drewN ?_ _ | refine blk_drew ?_ | refine blk_alloc ?_ _)); exact BK441.out) hb); have n2_ := Aside0.mk (below_step (by repeat (first | (with_reducible first | exact HB.out | apply below_alloc | apply pw_below_drewN | apply below_drew1 | refine below_set ?_ GE440.out | refine below_set ?_ GE441.out) | exact HB.out)) hb); clear BK440; clear BK441; clear HB; have BK440 := n0_; have BK441 := n1_; have HB := n2_; clear n0_ n1_ n2_; (try clear hb); (try clear hb2); (try clear hk); (try clear hi)) | ((with_reducible refine gate_callee (f := 101) rfl ?_); refine goesL_ (some 5) rfl rfl Try.func101 (by kernel_rfl) rfl #[.agg #[.int .u64 t442, .int .u64 t443]] rfl (by (try simp only [List.map_toArray, List.map_cons, List.map_nil]); first | done | rfl | (simp only [List.length_drop, List.length_take]; rfl)) ?_; (with_reducible refine (uint128_Uint128_ReverseBytes.calls t442 t443 t444 t445 _ A3.out).mono ?_); rintro e w10 ⟨rfl, hb⟩; refine ⟨_, rfl, ?_⟩; have n0_ := Aside0.mk (blk_below (g := gb440) (o := .cells #[.int .u64 a0_0, .int .u64 a0_1] 24 (0, 0)) (by (with_reducible repeat (first | refine blk_drewN ?_ _ | refine blk_drew ?_ | refine blk_alloc ?_ _)); exact BK440.out) hb); have n1_ := Aside0.mk (blk_below (g := gb441) (o := .cells #[.int .u64 0, .int .u64 0] 24 (0, 0)) (by (with_reducible repeat (first | refine blk_drewN ?_ _ | refine blk_drew ?_ | refine blk_alloc ?_ _)); exact BK441.out) hb); have n2_ := Aside0.mk (below_step (by repeat (first | (with_reducible first | exact HB.out | apply below_alloc | apply pw_below_drewN | apply below_drew1 | refine below_set ?_ GE440.out | refine below_set ?_ GE441.out) | exact HB.out)) hb); clear BK440; clear BK441; clear HB; have BK440 := n0_; have BK441 := n1_; have HB := n2_; clear n0_ n1_ n2_; (try clear hb); (try clear hb2); (try clear hk); (try clear hi)) | ((with_reducible refine gate_callee (f := 80) rfl ?_); refine goesL_ (some 6) rfl rfl Try.func80 (by kernel_rfl) rfl #[.agg #[.int .u64 t444, .int .u64 t445]] rfl (by (try simp only [List.map_toArray, List.map_cons, List.map_nil]); first | done | rfl | (simp only [List.length_drop, List.length_take]; rfl)) ?_; (with_reducible refine (impl_wide.calls t444 t445 t446 t447 _ A4.out).mono ?_); rintro e w11 ⟨rfl, hb⟩; refine ⟨_, rfl, ?_⟩; have n0_ := Aside0.mk (blk_below (g := gb440) (o := .cells #[.int .u64 a0_0, .int .u64 a0_1] 24 (0, 0)) (by (with_reducible repeat (first | refine blk_drewN ?_ _ | refine blk_drew ?_ | refine blk_alloc ?_ _)); exact BK440.out) hb); have n1_ := Aside0.mk (blk_below (g := gb441) (o := .cells #[.int .u64 0, .int .u64 0] 24 (0, 0)) (by (with_reducible repeat (first | refine blk_drewN ?_ _ | refine blk_drew ?_ | refine blk_alloc ?_ _)); exact BK441.out) hb); have n2_ := Aside0.mk (below_step (by repeat (first | (with_reducible first | exact HB.out | apply below_alloc | apply pw_below_drewN | apply below_drew1 | refine below_set ?_ GE440.out | refine below_set ?_ GE441.out) | exact HB.out)) hb); clear BK440; clear BK441; clear HB; have BK440 := n0_; have BK441 := n1_; have HB := n2_; clear n0_ n1_ n2_; (try clear hb); (try clear hb2); (try clear hk); (try clear hi); have hcz12_0 : w11.cell? ⟨gb441, 0, none⟩ = some (.int .u64 0) := (blk_cell BK441.out 0).trans rfl; have hcz12_1 : w11.cell? ⟨gb441, 1, none⟩ = some (.int .u64 0) := (blk_cell BK441.out 1).trans rfl; have hfz12_0 := blk_frozen BK441.out 0; have hfz12_1 := blk_frozen BK441.out 1))
  refine bodyPost_ret (results_cell_row rfl _ _ gb441 24 #[.int .u64 t446, .int .u64 t447] (0, 0) _ rfl (by (with_reducible repeat (first | refine blk_drewN ?_ _ | refine blk_drew ?_ | refine blk_alloc ?_ _)); refine blk_put (cs := #[.int .u64 t446, .int .u64 0]) ?_ 1 _ rfl; (with_reducible repeat (first | refine blk_drewN ?_ _ | refine blk_drew ?_ | refine blk_alloc ?_ _)); refine blk_put (cs := #[.int .u64 0, .int .u64 0]) ?_ 0 _ rfl; (with_reducible repeat (first | refine blk_drewN ?_ _ | refine blk_drew ?_ | refine blk_alloc ?_ _)); exact BK441.out) Try.underlying24 rfl (by kernel_rfl)) rfl ?_
  exact ⟨by first | rfl | (simp [errW_none, errW_some] <;> rfl) | (simp [*, errW_none, errW_some] <;> rfl), by repeat (first | (with_reducible first | exact HB.out | apply below_alloc | apply pw_below_drewN | apply below_drew1 | refine below_set ?_ GE440.out | refine below_set ?_ GE441.out) | exact HB.out)⟩


-- NOT PRINTED: function 13 (laws_FnWideReverse)

end Go.Proofs.Ytiifnofghicnaaa.PAll
