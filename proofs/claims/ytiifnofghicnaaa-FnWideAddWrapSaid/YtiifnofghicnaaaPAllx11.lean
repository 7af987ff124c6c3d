/- Printed by the kit's print.py, called for several laws at once: functions as plain Lean, and the walks' contracts. -/
import Derived.Test.YtiifnofghicnaaaPAllx0
import Derived.Test.YtiifnofghicnaaaPAllx3
import Derived.Test.YtiifnofghicnaaaPAllx4
import Derived.Test.YtiifnofghicnaaaPAllx7
import Derived.Test.YtiifnofghicnaaaPAllx10
namespace Go.Proofs.Ytiifnofghicnaaa.PAll
open Go.RowKit Go.Proofs.YtiifnofghicnaaaW.PrintWords Go.Proofs.YtiifnofghicnaaaW.PrintLast Go.Proofs.YtiifnofghicnaaaW.PrintMore
attribute [local go_sem] max2_int min2_int max_two min_two max_three min_three max_four min_four   -- for this text's walks alone
set_option linter.unusedVariables false
set_option linter.unusedSimpArgs false

/-! ### laws_FnWideAddWrap: function 12 -/
def laws_FnWideAddWrap.f (k : Nat) (a0_0 : Int) (a0_1 : Int) (a1_0 : Int) (a1_1 : Int) (a2 : Int) : Option (Bool) := (impl_WideAddWrap.f a0_0 a0_1 a1_0 a1_1).bind fun bt399 => ((laws_wideWhole.f a0_0 a0_1).bind fun t401 => ((laws_wideWhole.f a1_0 a1_1).bind fun t404 => ((spec_Plus.f k t401 t404).bind fun t407 => ((laws_wideIs.f k bt399.1 bt399.2 t407).bind fun t410 => (if t410 = true then ((impl_WideAddWrap64.f a0_0 a0_1 a2).bind fun bt411 => ((laws_wideWhole.f a0_0 a0_1).bind fun t413 => ((laws_wideSmall.f a2).bind fun t416 => ((spec_Plus.f k t413 t416).bind fun t419 => ((laws_wideIs.f k bt411.1 bt411.2 t419).bind fun t422 => (some t422)))))) else (some false))))))
theorem laws_FnWideAddWrap.mono : ∀ a0 a1 a2 a3 a4 k, LeO (laws_FnWideAddWrap.f k a0 a1 a2 a3 a4) (laws_FnWideAddWrap.f (k + 1) a0 a1 a2 a3 a4) := by
  intro a0 a1 a2 a3 a4 k
  unfold laws_FnWideAddWrap.f
  repeat' first
      | (with_reducible exact laws_wideIs.mono _ _ _ _)
      | (with_reducible exact spec_Plus.mono _ _ _)
      | (with_reducible exact LeO.refl _)
      | (with_reducible exact LeO.none _)
      | (with_reducible refine LeO.ite ?_ ?_)
      | (with_reducible refine LeO.bind ?_ (fun _ => ?_))
      | exact laws_wideIs.mono _ _ _ _
      | exact spec_Plus.mono _ _ _
      | exact LeO.none _
      | refine LeO.ite ?_ ?_
      | refine LeO.bind ?_ (fun _ => ?_)
def laws_FnWideAddWrap.T1 : Bool × List (List Nat × List Nat) := (true, [([], []), ([], []), ([0, 1], [0, 1]), ([], []), ([3, 2], [3]), ([], []), ([5, 4], [5]), ([4, 6, 6], [4, 6]), ([2, 7, 7], [2, 7]), ([8, 8], [8]), ([9], [9]), ([9], [9]), ([10, 11, 9, 9], [9, 10, 11]), ([9], [9]), ([13, 12, 9], [9, 13]), ([9], [9]), ([15, 14, 9], [9, 15]), ([14, 16, 16, 9], [9, 14, 16]), ([12, 17, 17, 9], [9, 12, 17]), ([9, 18], [9, 18]), ([19, 18, 0, 1, 2, 3, 4, 5, 6, 7, 8, 9, 10, 11, 12, 13, 14, 15, 16, 17, 18, 19], [19])])
def laws_FnWideAddWrap.B1 : List Nat := [0, 0, 3, 0, 15, 0, 63, 127, 255, 511, 1023, 1023, 4095, 1023, 16383, 1023, 65535, 131071, 262143, 524287, 1048575]
theorem laws_FnWideAddWrap.tab1 : rtab .any (opsOf Try.f12 1) = laws_FnWideAddWrap.T1 := by kernel_rfl
theorem laws_FnWideAddWrap.bits1 : waitsOk laws_FnWideAddWrap.T1.2 laws_FnWideAddWrap.B1 = true := by kernel_rfl
set_option maxHeartbeats 8000000 in
set_option maxRecDepth 100000 in
theorem laws_FnWideAddWrap.calls (k : Nat) (a0_0 : Int) (a0_1 : Int) (a1_0 : Int) (a1_1 : Int) (a2 : Int) (r : Bool) (w : World) (h : laws_FnWideAddWrap.f k a0_0 a0_1 a1_0 a1_1 a2 = some r) :
    Calls Try.prog 12 #[.agg #[.int .u64 a0_0, .int .u64 a0_1], .agg #[.int .u64 a1_0, .int .u64 a1_1], .int .u64 a2] w fun e w' => e = .returned (.bool r) ∧ Below w.heap.size w w' := by
  have hu24 := Try.underlying24
  have HB := Aside0.mk (Below.refl w.heap.size w)
  have H : ((impl_WideAddWrap.f a0_0 a0_1 a1_0 a1_1).bind fun bt399 => ((laws_wideWhole.f a0_0 a0_1).bind fun t401 => ((laws_wideWhole.f a1_0 a1_1).bind fun t404 => ((spec_Plus.f k t401 t404).bind fun t407 => ((laws_wideIs.f k bt399.1 bt399.2 t407).bind fun t410 => (if t410 = true then ((impl_WideAddWrap64.f a0_0 a0_1 a2).bind fun bt411 => ((laws_wideWhole.f a0_0 a0_1).bind fun t413 => ((laws_wideSmall.f a2).bind fun t416 => ((spec_Plus.f k t413 t416).bind fun t419 => ((laws_wideIs.f k bt411.1 bt411.2 t419).bind fun t422 => (some t422)))))) else (some false))))))) = some r := h
  clear h
  replace H := Option.bind_eq_some_iff.mp H
  obtain ⟨⟨t399, t400⟩, A40, H⟩ := H
  replace H : ((laws_wideWhole.f a0_0 a0_1).bind fun t401 => ((laws_wideWhole.f a1_0 a1_1).bind fun t404 => ((spec_Plus.f k t401 t404).bind fun t407 => ((laws_wideIs.f k t399 t400 t407).bind fun t410 => (if t410 = true then ((impl_WideAddWrap64.f a0_0 a0_1 a2).bind fun bt411 => ((laws_wideWhole.f a0_0 a0_1).bind fun t413 => ((laws_wideSmall.f a2).bind fun t416 => ((spec_Plus.f k t413 t416).bind fun t419 => ((laws_wideIs.f k bt411.1 bt411.2 t419).bind fun t422 => (some t422)))))) else (some false)))))) = some r := H
  have A4 := Aside0.mk A40
  clear A40
  replace H := Option.bind_eq_some_iff.mp H
  obtain ⟨t401, A50, H⟩ := H
  replace H : ((laws_wideWhole.f a1_0 a1_1).bind fun t404 => ((spec_Plus.f k t401 t404).bind fun t407 => ((laws_wideIs.f k t399 t400 t407).bind fun t410 => (if t410 = true then ((impl_WideAddWrap64.f a0_0 a0_1 a2).bind fun bt411 => ((laws_wideWhole.f a0_0 a0_1).bind fun t413 => ((laws_wideSmall.f a2).bind fun t416 => ((spec_Plus.f k t413 t416).bind fun t419 => ((laws_wideIs.f k bt411.1 bt411.2 t419).bind fun t422 => (some t422)))))) else (some false))))) = some r := H
  have A5 := Aside0.mk A50
  clear A50
  replace H := Option.bind_eq_some_iff.mp H
  obtain ⟨t404, A60, H⟩ := H
  replace H : ((spec_Plus.f k t401 t404).bind fun t407 => ((laws_wideIs.f k t399 t400 t407).bind fun t410 => (if t410 = true then ((impl_WideAddWrap64.f a0_0 a0_1 a2).bind fun bt411 => ((laws_wideWhole.f a0_0 a0_1).bind fun t413 => ((laws_wideSmall.f a2).bind fun t416 => ((spec_Plus.f k t413 t416).bind fun t419 => ((laws_wideIs.f k bt411.1 bt411.2 t419).bind fun t422 => (some t422)))))) else (some false)))) = some r := H
  have A6 := Aside0.mk A60
  clear A60
  replace H := Option.bind_eq_some_iff.mp H
  obtain ⟨t407, A70, H⟩ := H
  replace H : ((laws_wideIs.f k t399 t400 t407).bind fun t410 => (if t410 = true then ((impl_WideAddWrap64.f a0_0 a0_1 a2).bind fun bt411 => ((laws_wideWhole.f a0_0 a0_1).bind fun t413 => ((laws_wideSmall.f a2).bind fun t416 => ((spec_Plus.f k t413 t416).bind fun t419 => ((laws_wideIs.f k bt411.1 bt411.2 t419).bind fun t422 => (some t422)))))) else (some false))) = some r := H
  have A7 := Aside0.mk A70
  clear A70
  replace H := Option.bind_eq_some_iff.mp H
  obtain ⟨t410, A80, H⟩ := H
  replace H : (if t410 = true then ((impl_WideAddWrap64.f a0_0 a0_1 a2).bind fun bt411 => ((laws_wideWhole.f a0_0 a0_1).bind fun t413 => ((laws_wideSmall.f a2).bind fun t416 => ((spec_Plus.f k t413 t416).bind fun t419 => ((laws_wideIs.f k bt411.1 bt411.2 t419).bind fun t422 => (some t422)))))) else (some false)) = some r := H
  have A8 := Aside0.mk A80
  clear A80
  by_cases c9 : t410 = true
  · subst c9
    have H1 : ((impl_WideAddWrap64.f a0_0 a0_1 a2).bind fun bt411 => ((laws_wideWhole.f a0_0 a0_1).bind fun t413 => ((laws_wideSmall.f a2).bind fun t416 => ((spec_Plus.f k t413 t416).bind fun t419 => ((laws_wideIs.f k bt411.1 bt411.2 t419).bind fun t422 => (some t422)))))) = some r := by rw [if_pos rfl] at H; exact H
    clear H
    have H := H1
    clear H1
    replace H := Option.bind_eq_some_iff.mp H
    obtain ⟨⟨t411, t412⟩, A100, H⟩ := H
    replace H : ((laws_wideWhole.f a0_0 a0_1).bind fun t413 => ((laws_wideSmall.f a2).bind fun t416 => ((spec_Plus.f k t413 t416).bind fun t419 => ((laws_wideIs.f k t411 t412 t419).bind fun t422 => (some t422))))) = some r := H
    have A10 := Aside0.mk A100
    clear A100
    replace H := Option.bind_eq_some_iff.mp H
    obtain ⟨t413, A110, H⟩ := H
    replace H : ((laws_wideSmall.f a2).bind fun t416 => ((spec_Plus.f k t413 t416).bind fun t419 => ((laws_wideIs.f k t411 t412 t419).bind fun t422 => (some t422)))) = some r := H
    have A11 := Aside0.mk A110
    clear A110
    replace H := Option.bind_eq_some_iff.mp H
    obtain ⟨t416, A120, H⟩ := H
    replace H : ((spec_Plus.f k t413 t416).bind fun t419 => ((laws_wideIs.f k t411 t412 t419).bind fun t422 => (some t422))) = some r := H
    have A12 := Aside0.mk A120
    clear A120
    replace H := Option.bind_eq_some_iff.mp H
    obtain ⟨t419, A130, H⟩ := H
    replace H : ((laws_wideIs.f k t411 t412 t419).bind fun t422 => (some t422)) = some r := H
    have A13 := Aside0.mk A130
    clear A130
    replace H := Option.bind_eq_some_iff.mp H
    obtain ⟨t422, A140, H⟩ := H
    replace H : (some t422) = some r := H
    have A14 := Aside0.mk A140
    clear A140
    obtain rfl := Option.some.inj H
    go_enter Try.func12, Try.ntmps12
    try go_wp2_with (first | ((with_reducible refine gate_dst (N := 3) rfl ?_); refine box_event ?hg (N := 3) ?hd (cs := #[.int .u64 a0_0, .int .u64 a0_1]) (t := 24) ?hr ?_; (case hd => rfl); (case hg => rfl); (case hr => first | (go_simp; done) | (go_simp; rfl)); intro gb397 hg w15 hbox hb; have n0_ := Aside0.mk (below_step (by repeat (first | (with_reducible first | exact HB.out | apply below_alloc | apply pw_below_drewN | apply below_drew1) | exact HB.out)) hb); have n1_ := Aside0.mk (hbox); have n2_ := Aside0.mk ((by rw [hg]; exact (below_size (by repeat (first | (with_reducible first | exact HB.out | apply below_alloc | apply pw_below_drewN | apply below_drew1) | exact HB.out))) : w.heap.size ≤ gb397)); have n3_ := Aside0.mk ((by rw [hg]; exact (below_size (by repeat (first | (with_reducible first | exact HB.out | apply below_alloc | apply pw_below_drewN | apply below_drew1) | exact HB.out))) : w.heap.size ≤ gb397)); clear HB; have HB := n0_; have BK397 := n1_; have GW397 := n2_; have GE397 := n3_; clear n0_ n1_ n2_ n3_; clear hb hbox hg) | ((with_reducible refine gate_dst (N := 4) rfl ?_); refine box_event ?hg (N := 4) ?hd (cs := #[.int .u64 a1_0, .int .u64 a1_1]) (t := 24) ?hr ?_; (case hd => rfl); (case hg => rfl); (case hr => first | (go_simp; done) | (go_simp; rfl)); intro gb398 hg w16 hbox hb; have n0_ := Aside0.mk (blk_below (g := gb397) (o := .cells #[.int .u64 a0_0, .int .u64 a0_1] 24 (0, 0)) (by (with_reducible repeat (first | refine blk_drewN ?_ _ | refine blk_drew ?_ | refine blk_alloc ?_ _)); exact BK397.out) hb); have n1_ := Aside0.mk (below_step (by repeat (first | (with_reducible first | exact HB.out | apply below_alloc | apply pw_below_drewN | apply below_drew1 | refine below_set ?_ GE397.out) | exact HB.out)) hb); have n2_ := Aside0.mk (hbox); have n3_ := Aside0.mk ((by rw [hg]; exact (below_size (by repeat (first | (with_reducible first | exact HB.out | apply below_alloc | apply pw_below_drewN | apply below_drew1 | refine below_set ?_ GE397.out) | exact HB.out))) : w.heap.size ≤ gb398)); have n4_ := Aside0.mk ((by rw [hg]; exact (below_size (by repeat (first | (with_reducible first | exact HB.out | apply below_alloc | apply pw_below_drewN | apply below_drew1 | refine below_set ?_ GE397.out) | exact HB.out))) : w.heap.size ≤ gb398)); have n5_ := Aside0.mk ((by rw [hg]; exact Nat.ne_of_lt (blk_lt (g := gb397) (o := .cells #[.int .u64 a0_0, .int .u64 a0_1] 24 (0, 0)) (by (with_reducible repeat (first | refine blk_drewN ?_ _ | refine blk_drew ?_ | refine blk_alloc ?_ _)); exact BK397.out)) : gb397 ≠ gb398)); have n6_ := Aside0.mk ((by rw [hg]; exact Nat.ne_of_gt (blk_lt (g := gb397) (o := .cells #[.int .u64 a0_0, .int .u64 a0_1] 24 (0, 0)) (by (with_reducible repeat (first | refine blk_drewN ?_ _ | refine blk_drew ?_ | refine blk_alloc ?_ _)); exact BK397.out)) : gb398 ≠ gb397)); clear BK397; clear HB; have BK397 := n0_; have HB := n1_; have BK398 := n2_; have GW398 := n3_; have GE398 := n4_; have NB397_398 := n5_; have NB398_397 := n6_; clear n0_ n1_ n2_ n3_ n4_ n5_ n6_; clear hb hbox hg))
    have n0_ := Aside0.mk (blk_drew BK397.out)
    have n1_ := Aside0.mk (blk_drew BK398.out)
    have n2_ := Aside0.mk (below_drew1 HB.out)
    clear BK397
    clear BK398
    clear HB
    have BK397 := n0_
    have BK398 := n1_
    have HB := n2_
    clear n0_ n1_ n2_
    refine start_ (n := 21) (S := fun w' => w'.cell? ⟨gb397, 0, none⟩ = some (.int .u64 a0_0) ∧ w'.cell? ⟨gb397, 1, none⟩ = some (.int .u64 a0_1) ∧ w'.cell? ⟨gb398, 0, none⟩ = some (.int .u64 a1_0) ∧ w'.cell? ⟨gb398, 1, none⟩ = some (.int .u64 a1_1)) (ds := []) #[false, false, false, false, false, false, false, false, false, false, false, false, false, false, false, false, false, false, false, false, false] (by kernel_rfl) rfl rfl ⟨(blk_cell BK397.out 0).trans rfl, (blk_cell BK397.out 1).trans rfl, (blk_cell BK398.out 0).trans rfl, (blk_cell BK398.out 1).trans rfl⟩ (fun hHeld => ?_); refine with_tabW laws_FnWideAddWrap.tab1 laws_FnWideAddWrap.bits1 (fun HT_ HW_ => ?_)
    generalize w16.drew = w17 at BK397 BK398 HB hHeld ⊢
    refine take_ (i := 0) (N := some 7) (v := ?_) (a' := ?_) #[true, false, false, false, false, false, false, false, false, false, false, false, false, false, false, false, false, false, false, false, false] rfl rfl (take_ofW HT_.out HW_.out (by kernel_rfl)) (fun _ _ _ h => h) (Or.inl ⟨by rfl, ?_⟩) hHeld ?_ ?_
    rotate_left
    · rintro w' ⟨s0, s1, s2, s3⟩
      go_simp
      with_reducible rfl
    rotate_left
    · simp only [Act.put, List.setIfInBounds_toArray, List.set_cons_zero, List.set_cons_succ, i64_w, i32_w]
      rfl
    refine take_ (i := 1) (N := some 8) (v := ?_) (a' := ?_) #[true, true, false, false, false, false, false, false, false, false, false, false, false, false, false, false, false, false, false, false, false] rfl rfl (take_ofW HT_.out HW_.out (by kernel_rfl)) (fun _ _ _ h => h) (Or.inl ⟨by rfl, ?_⟩) hHeld ?_ ?_
    rotate_left
    · rintro w' ⟨s0, s1, s2, s3⟩
      go_simp
      with_reducible rfl
    rotate_left
    · simp only [Act.put, List.setIfInBounds_toArray, List.set_cons_zero, List.set_cons_succ, i64_w, i32_w]
      rfl
    refine take_ (i := 3) (N := some 10) (v := ?_) (a' := ?_) #[true, true, false, true, false, false, false, false, false, false, false, false, false, false, false, false, false, false, false, false, false] rfl rfl (take_ofW HT_.out HW_.out (by kernel_rfl)) (fun _ _ _ h => h) (Or.inl ⟨by rfl, ?_⟩) hHeld ?_ ?_
    rotate_left
    · rintro w' ⟨s0, s1, s2, s3⟩
      go_simp
      with_reducible rfl
    rotate_left
    · simp only [Act.put, List.setIfInBounds_toArray, List.set_cons_zero, List.set_cons_succ, i64_w, i32_w]
      rfl
    refine take_ (i := 5) (N := some 12) (v := ?_) (a' := ?_) #[true, true, false, true, false, true, false, false, false, false, false, false, false, false, false, false, false, false, false, false, false] rfl rfl (take_ofW HT_.out HW_.out (by kernel_rfl)) (fun _ _ _ h => h) (Or.inl ⟨by rfl, ?_⟩) hHeld ?_ ?_
    rotate_left
    · rintro w' ⟨s0, s1, s2, s3⟩
      go_simp
      with_reducible rfl
    rotate_left
    · simp only [Act.put, List.setIfInBounds_toArray, List.set_cons_zero, List.set_cons_succ, i64_w, i32_w]
      rfl
    refine one_ (i := 2) (N := some 9) #[true, true, true, true, false, true, false, false, false, false, false, false, false, false, false, false, false, false, false, false, false] rfl rfl (one_of HT_.out (by kernel_rfl)) (by decide) (fun K hK => ?_)
    refine goes_ Try.func52 (by kernel_rfl) rfl #[.agg #[.int .u64 a0_0, .int .u64 a0_1], .agg #[.int .u64 a1_0, .int .u64 a1_1]] (by rfl) rfl rfl (by (try simp only [List.map_toArray, List.map_cons, List.map_nil]); first | done | rfl | (simp only [List.length_drop, List.length_take]; rfl)) ?_
    with_reducible refine (impl_WideAddWrap.calls a0_0 a0_1 a1_0 a1_1 t399 t400 _ A4.out).mono ?_
    rintro e w18 ⟨rfl, hb⟩
    refine ⟨_, rfl, ?_⟩
    have n0_ := Aside0.mk (blk_below (g := gb397) (o := .cells #[.int .u64 a0_0, .int .u64 a0_1] 24 (0, 0)) (by (with_reducible repeat (first | refine blk_drewN ?_ _ | refine blk_drew ?_ | refine blk_alloc ?_ _)); exact BK397.out) hb)
    have n1_ := Aside0.mk (blk_below (g := gb398) (o := .cells #[.int .u64 a1_0, .int .u64 a1_1] 24 (0, 0)) (by (with_reducible repeat (first | refine blk_drewN ?_ _ | refine blk_drew ?_ | refine blk_alloc ?_ _)); exact BK398.out) hb)
    have n2_ := Aside0.mk (below_step (by repeat (first | (with_reducible first | exact HB.out | apply below_alloc | apply pw_below_drewN | apply below_drew1 | refine below_set ?_ GE397.out | refine below_set ?_ GE398.out) | exact HB.out)) hb)
    clear BK397
    clear BK398
    clear HB
    have BK397 := n0_
    have BK398 := n1_
    have HB := n2_
    clear n0_ n1_ n2_
    (try clear hb)
    (try clear hb2)
    (try clear hk)
    (try clear hi)
    refine hK.out _ _ ⟨(blk_cell BK397.out 0).trans rfl, (blk_cell BK397.out 1).trans rfl, (blk_cell BK398.out 0).trans rfl, (blk_cell BK398.out 1).trans rfl⟩ (fun hHeld => ?_)
    clear hK K
    refine norm_ (a' := ?_) ?_ ?_
    rotate_left
    · show Act.put _ (some 9) _ = _
      simp only [Act.put, List.setIfInBounds_toArray, List.set_cons_zero, List.set_cons_succ, i64_w, i32_w]
      rfl
    refine one_ (i := 4) (N := some 11) #[true, true, true, true, true, true, false, false, false, false, false, false, false, false, false, false, false, false, false, false, false] rfl rfl (one_of HT_.out (by kernel_rfl)) (by decide) (fun K hK => ?_)
    refine goes_ Try.func25 (by kernel_rfl) rfl #[.agg #[.int .u64 a0_0, .int .u64 a0_1]] (by rfl) rfl rfl (by (try simp only [List.map_toArray, List.map_cons, List.map_nil]); first | done | rfl | (simp only [List.length_drop, List.length_take]; rfl)) ?_
    with_reducible refine (laws_wideWhole.calls a0_0 a0_1 t401 _ A5.out).mono ?_
    rintro e w19 ⟨v402, rfl, ho0, hb⟩
    refine ⟨_, rfl, ?_⟩
    have n0_ := Aside0.mk (Kd.V_lower (Kd.V_mono (ok' := fun k_ => k_ ≠ gb397 ∧ k_ ≠ gb398) ho0 (fun k_ hk_ => ⟨(Kd.freshB (g := gb397) (o := .cells #[.int .u64 a0_0, .int .u64 a0_1] 24 (0, 0)) (by (with_reducible repeat (first | refine blk_drewN ?_ _ | refine blk_drew ?_ | refine blk_alloc ?_ _)); exact BK397.out) k_ hk_), (Kd.freshB (g := gb398) (o := .cells #[.int .u64 a1_0, .int .u64 a1_1] 24 (0, 0)) (by (with_reducible repeat (first | refine blk_drewN ?_ _ | refine blk_drew ?_ | refine blk_alloc ?_ _)); exact BK398.out) k_ hk_)⟩)) (below_size (by repeat (first | (with_reducible first | exact HB.out | apply below_alloc | apply pw_below_drewN | apply below_drew1 | refine below_set ?_ GE397.out | refine below_set ?_ GE398.out) | exact HB.out))))
    have n1_ := Aside0.mk (blk_below (g := gb397) (o := .cells #[.int .u64 a0_0, .int .u64 a0_1] 24 (0, 0)) (by (with_reducible repeat (first | refine blk_drewN ?_ _ | refine blk_drew ?_ | refine blk_alloc ?_ _)); exact BK397.out) hb)
    have n2_ := Aside0.mk (blk_below (g := gb398) (o := .cells #[.int .u64 a1_0, .int .u64 a1_1] 24 (0, 0)) (by (with_reducible repeat (first | refine blk_drewN ?_ _ | refine blk_drew ?_ | refine blk_alloc ?_ _)); exact BK398.out) hb)
    have n3_ := Aside0.mk (below_step (by repeat (first | (with_reducible first | exact HB.out | apply below_alloc | apply pw_below_drewN | apply below_drew1 | refine below_set ?_ GE397.out | refine below_set ?_ GE398.out) | exact HB.out)) hb)
    clear BK397
    clear BK398
    clear HB
    have HO403 := n0_
    have BK397 := n1_
    have BK398 := n2_
    have HB := n3_
    clear n0_ n1_ n2_ n3_
    (try clear hb)
    (try clear hb2)
    (try clear hk)
    (try clear hi)
    (try clear ho0)
    refine hK.out _ _ ⟨(blk_cell BK397.out 0).trans rfl, (blk_cell BK397.out 1).trans rfl, (blk_cell BK398.out 0).trans rfl, (blk_cell BK398.out 1).trans rfl⟩ (fun hHeld => ?_)
    clear hK K
    refine norm_ (a' := ?_) ?_ ?_
    rotate_left
    · show Act.put _ (some 11) _ = _
      simp only [Act.put, List.setIfInBounds_toArray, List.set_cons_zero, List.set_cons_succ, i64_w, i32_w]
      rfl
    refine one_ (i := 6) (N := some 13) #[true, true, true, true, true, true, true, false, false, false, false, false, false, false, false, false, false, false, false, false, false] rfl rfl (one_of HT_.out (by kernel_rfl)) (by decide) (fun K hK => ?_)
    refine goes_ Try.func25 (by kernel_rfl) rfl #[.agg #[.int .u64 a1_0, .int .u64 a1_1]] (by rfl) rfl rfl (by (try simp only [List.map_toArray, List.map_cons, List.map_nil]); first | done | rfl | (simp only [List.length_drop, List.length_take]; rfl)) ?_
    with_reducible refine (laws_wideWhole.calls a1_0 a1_1 t404 _ A6.out).mono ?_
    rintro e w20 ⟨v405, rfl, ho0, hb⟩
    refine ⟨_, rfl, ?_⟩
    have n0_ := Aside0.mk (Kd.V_below (by (with_reducible repeat (first | apply Kd.V_alloc | apply Kd.V_drewN | apply Kd.V_drew)); exact HO403.out) hb)
    have n1_ := Aside0.mk (Kd.V_lower (Kd.V_mono (ok' := fun k_ => k_ ≠ gb397 ∧ k_ ≠ gb398) ho0 (fun k_ hk_ => ⟨(Kd.freshB (g := gb397) (o := .cells #[.int .u64 a0_0, .int .u64 a0_1] 24 (0, 0)) (by (with_reducible repeat (first | refine blk_drewN ?_ _ | refine blk_drew ?_ | refine blk_alloc ?_ _)); exact BK397.out) k_ hk_), (Kd.freshB (g := gb398) (o := .cells #[.int .u64 a1_0, .int .u64 a1_1] 24 (0, 0)) (by (with_reducible repeat (first | refine blk_drewN ?_ _ | refine blk_drew ?_ | refine blk_alloc ?_ _)); exact BK398.out) k_ hk_)⟩)) (below_size (by repeat (first | (with_reducible first | exact HB.out | apply below_alloc | apply pw_below_drewN | apply below_drew1 | refine below_set ?_ GE397.out | refine below_set ?_ GE398.out) | exact HB.out))))
    have n2_ := Aside0.mk (blk_below (g := gb397) (o := .cells #[.int .u64 a0_0, .int .u64 a0_1] 24 (0, 0)) (by (with_reducible repeat (first | refine blk_drewN ?_ _ | refine blk_drew ?_ | refine blk_alloc ?_ _)); exact BK397.out) hb)
    have n3_ := Aside0.mk (blk_below (g := gb398) (o := .cells #[.int .u64 a1_0, .int .u64 a1_1] 24 (0, 0)) (by (with_reducible repeat (first | refine blk_drewN ?_ _ | refine blk_drew ?_ | refine blk_alloc ?_ _)); exact BK398.out) hb)
    have n4_ := Aside0.mk (below_step (by repeat (first | (with_reducible first | exact HB.out | apply below_alloc | apply pw_below_drewN | apply below_drew1 | refine below_set ?_ GE397.out | refine below_set ?_ GE398.out) | exact HB.out)) hb)
    clear HO403
    clear BK397
    clear BK398
    clear HB
    have HO403 := n0_
    have HO406 := n1_
    have BK397 := n2_
    have BK398 := n3_
    have HB := n4_
    clear n0_ n1_ n2_ n3_ n4_
    (try clear hb)
    (try clear hb2)
    (try clear hk)
    (try clear hi)
    (try clear ho0)
    obtain ⟨Ao21, co21, eo21⟩ := Kd.V_slice HO403.out
    (first | subst eo21 | (injection eo21 with f1_ f2_ f3_; have f4_ := f1_.symm; have f5_ := f3_.symm; clear f1_ f2_ f3_; subst f4_; subst f5_))
    obtain ⟨Ao22, co22, eo22⟩ := Kd.V_slice HO406.out
    (first | subst eo22 | (injection eo22 with f1_ f2_ f3_; have f4_ := f1_.symm; have f5_ := f3_.symm; clear f1_ f2_ f3_; subst f4_; subst f5_))
    refine hK.out _ _ ⟨(blk_cell BK397.out 0).trans rfl, (blk_cell BK397.out 1).trans rfl, (blk_cell BK398.out 0).trans rfl, (blk_cell BK398.out 1).trans rfl⟩ (fun hHeld => ?_)
    clear hK K
    refine norm_ (a' := ?_) ?_ ?_
    rotate_left
    · show Act.put _ (some 13) _ = _
      simp only [Act.put, List.setIfInBounds_toArray, List.set_cons_zero, List.set_cons_succ, i64_w, i32_w]
      rfl
    refine one_ (i := 7) (N := some 14) #[true, true, true, true, true, true, true, true, false, false, false, false, false, false, false, false, false, false, false, false, false] rfl rfl (one_of HT_.out (by kernel_rfl)) (by decide) (fun K hK => ?_)
    refine goes_ Try.func53 (by kernel_rfl) rfl #[.slice Ao21 t401.length co21, .slice Ao22 t404.length co22] (by rfl) rfl rfl (by (try simp only [List.map_toArray, List.map_cons, List.map_nil]); first | done | rfl | (simp only [List.length_drop, List.length_take]; rfl)) ?_
    with_reducible refine (spec_Plus.calls k _ _ t401 _ _ t404 t407 _ ?side1 ?side2 ?side3 ?side4 A7.out).mono ?_
    (case side1 => repeat (first | exact (Kd.V_reads' HO403.out).2.2 | (with_reducible refine Kd.C_alloc ?_ _) | (with_reducible refine Kd.C_drewN ?_ _) | (with_reducible refine Kd.C_drew ?_)))
    (case side2 => exact (Kd.V_reads' HO403.out).2.1)
    (case side3 => repeat (first | exact (Kd.V_reads' HO406.out).2.2 | (with_reducible refine Kd.C_alloc ?_ _) | (with_reducible refine Kd.C_drewN ?_ _) | (with_reducible refine Kd.C_drew ?_)))
    (case side4 => exact (Kd.V_reads' HO406.out).2.1)
    rintro e w23 ⟨v408, rfl, ho0, hb⟩
    refine ⟨_, rfl, ?_⟩
    have n0_ := Aside0.mk (Kd.V_below (by (with_reducible repeat (first | apply Kd.V_alloc | apply Kd.V_drewN | apply Kd.V_drew)); exact HO403.out) hb)
    have n1_ := Aside0.mk (Kd.V_below (by (with_reducible repeat (first | apply Kd.V_alloc | apply Kd.V_drewN | apply Kd.V_drew)); exact HO406.out) hb)
    have n2_ := Aside0.mk (Kd.V_lower (Kd.V_mono (ok' := fun k_ => k_ ≠ gb397 ∧ k_ ≠ gb398) ho0 (fun k_ hk_ => ⟨(Kd.freshB (g := gb397) (o := .cells #[.int .u64 a0_0, .int .u64 a0_1] 24 (0, 0)) (by (with_reducible repeat (first | refine blk_drewN ?_ _ | refine blk_drew ?_ | refine blk_alloc ?_ _)); exact BK397.out) k_ hk_), (Kd.freshB (g := gb398) (o := .cells #[.int .u64 a1_0, .int .u64 a1_1] 24 (0, 0)) (by (with_reducible repeat (first | refine blk_drewN ?_ _ | refine blk_drew ?_ | refine blk_alloc ?_ _)); exact BK398.out) k_ hk_)⟩)) (below_size (by repeat (first | (with_reducible first | exact HB.out | apply below_alloc | apply pw_below_drewN | apply below_drew1 | refine below_set ?_ GE397.out | refine below_set ?_ GE398.out) | exact HB.out))))
    have n3_ := Aside0.mk (blk_below (g := gb397) (o := .cells #[.int .u64 a0_0, .int .u64 a0_1] 24 (0, 0)) (by (with_reducible repeat (first | refine blk_drewN ?_ _ | refine blk_drew ?_ | refine blk_alloc ?_ _)); exact BK397.out) hb)
    have n4_ := Aside0.mk (blk_below (g := gb398) (o := .cells #[.int .u64 a1_0, .int .u64 a1_1] 24 (0, 0)) (by (with_reducible repeat (first | refine blk_drewN ?_ _ | refine blk_drew ?_ | refine blk_alloc ?_ _)); exact BK398.out) hb)
    have n5_ := Aside0.mk (below_step (by repeat (first | (with_reducible first | exact HB.out | apply below_alloc | apply pw_below_drewN | apply below_drew1 | refine below_set ?_ GE397.out | refine below_set ?_ GE398.out) | exact HB.out)) hb)
    clear HO403
    clear HO406
    clear BK397
    clear BK398
    clear HB
    have HO403 := n0_
    have HO406 := n1_
    have HO409 := n2_
    have BK397 := n3_
    have BK398 := n4_
    have HB := n5_
    clear n0_ n1_ n2_ n3_ n4_ n5_
    (try clear hb)
    (try clear hb2)
    (try clear hk)
    (try clear hi)
    (try clear ho0)
    obtain ⟨Ao24, co24, eo24⟩ := Kd.V_slice HO409.out
    (first | subst eo24 | (injection eo24 with f1_ f2_ f3_; have f4_ := f1_.symm; have f5_ := f3_.symm; clear f1_ f2_ f3_; subst f4_; subst f5_))
    refine hK.out _ _ ⟨(blk_cell BK397.out 0).trans rfl, (blk_cell BK397.out 1).trans rfl, (blk_cell BK398.out 0).trans rfl, (blk_cell BK398.out 1).trans rfl⟩ (fun hHeld => ?_)
    clear hK K
    refine norm_ (a' := ?_) ?_ ?_
    rotate_left
    · show Act.put _ (some 14) _ = _
      simp only [Act.put, List.setIfInBounds_toArray, List.set_cons_zero, List.set_cons_succ, i64_w, i32_w]
      rfl
    refine one_ (i := 8) (N := some 15) #[true, true, true, true, true, true, true, true, true, false, false, false, false, false, false, false, false, false, false, false, false] rfl rfl (one_of HT_.out (by kernel_rfl)) (by decide) (fun K hK => ?_)
    refine goes_ Try.func27 (by kernel_rfl) rfl #[.agg #[.int .u64 t399, .int .u64 t400], .slice Ao24 t407.length co24] (by rfl) rfl rfl (by (try simp only [List.map_toArray, List.map_cons, List.map_nil]); first | done | rfl | (simp only [List.length_drop, List.length_take]; rfl)) ?_
    with_reducible refine (laws_wideIs.calls k t399 t400 _ _ t407 true _ ?side1 ?side2 A8.out).mono ?_
    (case side1 => repeat (first | exact (Kd.V_reads' HO409.out).2.2 | (with_reducible refine Kd.C_alloc ?_ _) | (with_reducible refine Kd.C_drewN ?_ _) | (with_reducible refine Kd.C_drew ?_)))
    (case side2 => exact (Kd.V_reads' HO409.out).2.1)
    rintro e w25 ⟨rfl, hb⟩
    refine ⟨_, rfl, ?_⟩
    have n0_ := Aside0.mk (Kd.V_below (by (with_reducible repeat (first | apply Kd.V_alloc | apply Kd.V_drewN | apply Kd.V_drew)); exact HO403.out) hb)
    have n1_ := Aside0.mk (Kd.V_below (by (with_reducible repeat (first | apply Kd.V_alloc | apply Kd.V_drewN | apply Kd.V_drew)); exact HO406.out) hb)
    have n2_ := Aside0.mk (Kd.V_below (by (with_reducible repeat (first | apply Kd.V_alloc | apply Kd.V_drewN | apply Kd.V_drew)); exact HO409.out) hb)
    have n3_ := Aside0.mk (blk_below (g := gb397) (o := .cells #[.int .u64 a0_0, .int .u64 a0_1] 24 (0, 0)) (by (with_reducible repeat (first | refine blk_drewN ?_ _ | refine blk_drew ?_ | refine blk_alloc ?_ _)); exact BK397.out) hb)
    have n4_ := Aside0.mk (blk_below (g := gb398) (o := .cells #[.int .u64 a1_0, .int .u64 a1_1] 24 (0, 0)) (by (with_reducible repeat (first | refine blk_drewN ?_ _ | refine blk_drew ?_ | refine blk_alloc ?_ _)); exact BK398.out) hb)
    have n5_ := Aside0.mk (below_step (by repeat (first | (with_reducible first | exact HB.out | apply below_alloc | apply pw_below_drewN | apply below_drew1 | refine below_set ?_ GE397.out | refine below_set ?_ GE398.out) | exact HB.out)) hb)
    clear HO403
    clear HO406
    clear HO409
    clear BK397
    clear BK398
    clear HB
    have HO403 := n0_
    have HO406 := n1_
    have HO409 := n2_
    have BK397 := n3_
    have BK398 := n4_
    have HB := n5_
    clear n0_ n1_ n2_ n3_ n4_ n5_
    (try clear hb)
    (try clear hb2)
    (try clear hk)
    (try clear hi)
    refine hK.out _ _ ⟨(blk_cell BK397.out 0).trans rfl, (blk_cell BK397.out 1).trans rfl, (blk_cell BK398.out 0).trans rfl, (blk_cell BK398.out 1).trans rfl⟩ (fun hHeld => ?_)
    clear hK K
    refine norm_ (a' := ?_) ?_ ?_
    rotate_left
    · show Act.put _ (some 15) _ = _
      simp only [Act.put, List.setIfInBounds_toArray, List.set_cons_zero, List.set_cons_succ, i64_w, i32_w]
      rfl
    refine pure_ (i := 9) (N := some 16) (v := ?_) (a' := ?_) #[true, true, true, true, true, true, true, true, true, true, false, false, false, false, false, false, false, false, false, false, false] rfl rfl (any_of HT_.out (by kernel_rfl)) (fun _ _ _ h => h) (Or.inl ⟨by rfl, ?_⟩) ?_ ?_
    rotate_left
    · intro w'
      go_simp
      with_reducible rfl
    rotate_left
    · simp only [Act.put, List.setIfInBounds_toArray, List.set_cons_zero, List.set_cons_succ, i64_w, i32_w]
      rfl
    refine pure_ (i := 11) (N := some 18) (v := ?_) (a' := ?_) #[true, true, true, true, true, true, true, true, true, true, false, true, false, false, false, false, false, false, false, false, false] rfl rfl (any_of HT_.out (by kernel_rfl)) (fun _ _ _ h => h) (Or.inl ⟨by rfl, ?_⟩) ?_ ?_
    rotate_left
    · intro w'
      go_simp
      with_reducible rfl
    rotate_left
    · simp only [Act.put, List.setIfInBounds_toArray, List.set_cons_zero, List.set_cons_succ, i64_w, i32_w]
      rfl
    refine pure_ (i := 15) (N := some 22) (v := ?_) (a' := ?_) #[true, true, true, true, true, true, true, true, true, true, false, true, false, false, false, true, false, false, false, false, false] rfl rfl (any_of HT_.out (by kernel_rfl)) (fun _ _ _ h => h) (Or.inl ⟨by rfl, ?_⟩) ?_ ?_
    rotate_left
    · intro w'
      go_simp
      with_reducible rfl
    rotate_left
    · simp only [Act.put, List.setIfInBounds_toArray, List.set_cons_zero, List.set_cons_succ, i64_w, i32_w]
      rfl
    refine take_ (i := 10) (N := some 17) (v := ?_) (a' := ?_) #[true, true, true, true, true, true, true, true, true, true, true, true, false, false, false, true, false, false, false, false, false] rfl rfl (take_ofW HT_.out HW_.out (by kernel_rfl)) (fun _ _ _ h => h) (Or.inl ⟨by rfl, ?_⟩) hHeld ?_ ?_
    rotate_left
    · rintro w' ⟨s0, s1, s2, s3⟩
      go_simp
      with_reducible rfl
    rotate_left
    · simp only [Act.put, List.setIfInBounds_toArray, List.set_cons_zero, List.set_cons_succ, i64_w, i32_w]
      rfl
    refine take_ (i := 13) (N := some 20) (v := ?_) (a' := ?_) #[true, true, true, true, true, true, true, true, true, true, true, true, false, true, false, true, false, false, false, false, false] rfl rfl (take_ofW HT_.out HW_.out (by kernel_rfl)) (fun _ _ _ h => h) (Or.inl ⟨by rfl, ?_⟩) hHeld ?_ ?_
    rotate_left
    · rintro w' ⟨s0, s1, s2, s3⟩
      go_simp
      with_reducible rfl
    rotate_left
    · simp only [Act.put, List.setIfInBounds_toArray, List.set_cons_zero, List.set_cons_succ, i64_w, i32_w]
      rfl
    refine one_ (i := 12) (N := some 19) #[true, true, true, true, true, true, true, true, true, true, true, true, true, true, false, true, false, false, false, false, false] rfl rfl (one_of HT_.out (by kernel_rfl)) (by decide) (fun K hK => ?_)
    refine goes_ Try.func54 (by kernel_rfl) rfl #[.agg #[.int .u64 a0_0, .int .u64 a0_1], .int .u64 a2] (by rfl) rfl rfl (by (try simp only [List.map_toArray, List.map_cons, List.map_nil]); first | done | rfl | (simp only [List.length_drop, List.length_take]; rfl)) ?_
    with_reducible refine (impl_WideAddWrap64.calls a0_0 a0_1 a2 t411 t412 _ A10.out).mono ?_
    rintro e w26 ⟨rfl, hb⟩
    refine ⟨_, rfl, ?_⟩
    have n0_ := Aside0.mk (Kd.V_below (by (with_reducible repeat (first | apply Kd.V_alloc | apply Kd.V_drewN | apply Kd.V_drew)); exact HO403.out) hb)
    have n1_ := Aside0.mk (Kd.V_below (by (with_reducible repeat (first | apply Kd.V_alloc | apply Kd.V_drewN | apply Kd.V_drew)); exact HO406.out) hb)
    have n2_ := Aside0.mk (Kd.V_below (by (with_reducible repeat (first | apply Kd.V_alloc | apply Kd.V_drewN | apply Kd.V_drew)); exact HO409.out) hb)
    have n3_ := Aside0.mk (blk_below (g := gb397) (o := .cells #[.int .u64 a0_0, .int .u64 a0_1] 24 (0, 0)) (by (with_reducible repeat (first | refine blk_drewN ?_ _ | refine blk_drew ?_ | refine blk_alloc ?_ _)); exact BK397.out) hb)
    have n4_ := Aside0.mk (blk_below (g := gb398) (o := .cells #[.int .u64 a1_0, .int .u64 a1_1] 24 (0, 0)) (by (with_reducible repeat (first | refine blk_drewN ?_ _ | refine blk_drew ?_ | refine blk_alloc ?_ _)); exact BK398.out) hb)
    have n5_ := Aside0.mk (below_step (by repeat (first | (with_reducible first | exact HB.out | apply below_alloc | apply pw_below_drewN | apply below_drew1 | refine below_set ?_ GE397.out | refine below_set ?_ GE398.out) | exact HB.out)) hb)
    clear HO403
    clear HO406
    clear HO409
    clear BK397
    clear BK398
    clear HB
    have HO403 := n0_
    have HO406 := n1_
    have HO409 := n2_
    have BK397 := n3_
    have BK398 := n4_
    have HB := n5_
    clear n0_ n1_ n2_ n3_ n4_ n5_
    (try clear hb)
    (try clear hb2)
    (try clear hk)
    (try clear hi)
    refine hK.out _ _ ⟨(blk_cell BK397.out 0).trans rfl, (blk_cell BK397.out 1).trans rfl, (blk_cell BK398.out 0).trans rfl, (blk_cell BK398.out 1).trans rfl⟩ (fun hHeld => ?_)
    clear hK K
    refine norm_ (a' := ?_) ?_ ?_
    rotate_left
    · show Act.put _ (some 19) _ = _
      simp only [Act.put, List.setIfInBounds_toArray, List.set_cons_zero, List.set_cons_succ, i64_w, i32_w]
      rfl
    refine one_ (i := 14) (N := some 21) #[true, true, true, true, true, true, true, true, true, true, true, true, true, true, true, true, false, false, false, false, false] rfl rfl (one_of HT_.out (by kernel_rfl)) (by decide) (fun K hK => ?_)
    refine goes_ Try.func25 (by kernel_rfl) rfl #[.agg #[.int .u64 a0_0, .int .u64 a0_1]] (by rfl) rfl rfl (by (try simp only [List.map_toArray, List.map_cons, List.map_nil]); first | done | rfl | (simp only [List.length_drop, List.length_take]; rfl)) ?_
    with_reducible refine (laws_wideWhole.calls a0_0 a0_1 t413 _ A11.out).mono ?_
    rintro e w27 ⟨v414, rfl, ho0, hb⟩
    refine ⟨_, rfl, ?_⟩
    have n0_ := Aside0.mk (Kd.V_below (by (with_reducible repeat (first | apply Kd.V_alloc | apply Kd.V_drewN | apply Kd.V_drew)); exact HO403.out) hb)
    have n1_ := Aside0.mk (Kd.V_below (by (with_reducible repeat (first | apply Kd.V_alloc | apply Kd.V_drewN | apply Kd.V_drew)); exact HO406.out) hb)
    have n2_ := Aside0.mk (Kd.V_below (by (with_reducible repeat (first | apply Kd.V_alloc | apply Kd.V_drewN | apply Kd.V_drew)); exact HO409.out) hb)
    have n3_ := Aside0.mk (Kd.V_lower (Kd.V_mono (ok' := fun k_ => k_ ≠ gb397 ∧ k_ ≠ gb398) ho0 (fun k_ hk_ => ⟨(Kd.freshB (g := gb397) (o := .cells #[.int .u64 a0_0, .int .u64 a0_1] 24 (0, 0)) (by (with_reducible repeat (first | refine blk_drewN ?_ _ | refine blk_drew ?_ | refine blk_alloc ?_ _)); exact BK397.out) k_ hk_), (Kd.freshB (g := gb398) (o := .cells #[.int .u64 a1_0, .int .u64 a1_1] 24 (0, 0)) (by (with_reducible repeat (first | refine blk_drewN ?_ _ | refine blk_drew ?_ | refine blk_alloc ?_ _)); exact BK398.out) k_ hk_)⟩)) (below_size (by repeat (first | (with_reducible first | exact HB.out | apply below_alloc | apply pw_below_drewN | apply below_drew1 | refine below_set ?_ GE397.out | refine below_set ?_ GE398.out) | exact HB.out))))
    have n4_ := Aside0.mk (blk_below (g := gb397) (o := .cells #[.int .u64 a0_0, .int .u64 a0_1] 24 (0, 0)) (by (with_reducible repeat (first | refine blk_drewN ?_ _ | refine blk_drew ?_ | refine blk_alloc ?_ _)); exact BK397.out) hb)
    have n5_ := Aside0.mk (blk_below (g := gb398) (o := .cells #[.int .u64 a1_0, .int .u64 a1_1] 24 (0, 0)) (by (with_reducible repeat (first | refine blk_drewN ?_ _ | refine blk_drew ?_ | refine blk_alloc ?_ _)); exact BK398.out) hb)
    have n6_ := Aside0.mk (below_step (by repeat (first | (with_reducible first | exact HB.out | apply below_alloc | apply pw_below_drewN | apply below_drew1 | refine below_set ?_ GE397.out | refine below_set ?_ GE398.out) | exact HB.out)) hb)
    clear HO403
    clear HO406
    clear HO409
    clear BK397
    clear BK398
    clear HB
    have HO403 := n0_
    have HO406 := n1_
    have HO409 := n2_
    have HO415 := n3_
    have BK397 := n4_
    have BK398 := n5_
    have HB := n6_
    clear n0_ n1_ n2_ n3_ n4_ n5_ n6_
    (try clear hb)
    (try clear hb2)
    (try clear hk)
    (try clear hi)
    (try clear ho0)
    refine hK.out _ _ ⟨(blk_cell BK397.out 0).trans rfl, (blk_cell BK397.out 1).trans rfl, (blk_cell BK398.out 0).trans rfl, (blk_cell BK398.out 1).trans rfl⟩ (fun hHeld => ?_)
    clear hK K
    refine norm_ (a' := ?_) ?_ ?_
    rotate_left
    · show Act.put _ (some 21) _ = _
      simp only [Act.put, List.setIfInBounds_toArray, List.set_cons_zero, List.set_cons_succ, i64_w, i32_w]
      rfl
    refine one_ (i := 16) (N := some 23) #[true, true, true, true, true, true, true, true, true, true, true, true, true, true, true, true, true, false, false, false, false] rfl rfl (one_of HT_.out (by kernel_rfl)) (by decide) (fun K hK => ?_)
    refine goes_ Try.func31 (by kernel_rfl) rfl #[.int .u64 a2] (by rfl) rfl rfl (by (try simp only [List.map_toArray, List.map_cons, List.map_nil]); first | done | rfl | (simp only [List.length_drop, List.length_take]; rfl)) ?_
    with_reducible refine (laws_wideSmall.calls a2 t416 _ A12.out).mono ?_
    rintro e w28 ⟨v417, rfl, ho0, hb⟩
    refine ⟨_, rfl, ?_⟩
    have n0_ := Aside0.mk (Kd.V_below (by (with_reducible repeat (first | apply Kd.V_alloc | apply Kd.V_drewN | apply Kd.V_drew)); exact HO403.out) hb)
    have n1_ := Aside0.mk (Kd.V_below (by (with_reducible repeat (first | apply Kd.V_alloc | apply Kd.V_drewN | apply Kd.V_drew)); exact HO406.out) hb)
    have n2_ := Aside0.mk (Kd.V_below (by (with_reducible repeat (first | apply Kd.V_alloc | apply Kd.V_drewN | apply Kd.V_drew)); exact HO409.out) hb)
    have n3_ := Aside0.mk (Kd.V_below (by (with_reducible repeat (first | apply Kd.V_alloc | apply Kd.V_drewN | apply Kd.V_drew)); exact HO415.out) hb)
    have n4_ := Aside0.mk (Kd.V_lower (Kd.V_mono (ok' := fun k_ => k_ ≠ gb397 ∧ k_ ≠ gb398) ho0 (fun k_ hk_ => ⟨(Kd.freshB (g := gb397) (o := .cells #[.int .u64 a0_0, .int .u64 a0_1] 24 (0, 0)) (by (with_reducible repeat (first | refine blk_drewN ?_ _ | refine blk_drew ?_ | refine blk_alloc ?_ _)); exact BK397.out) k_ hk_), (Kd.freshB (g := gb398) (o := .cells #[.int .u64 a1_0, .int .u64 a1_1] 24 (0, 0)) (by (with_reducible repeat (first | refine blk_drewN ?_ _ | refine blk_drew ?_ | refine blk_alloc ?_ _)); exact BK398.out) k_ hk_)⟩)) (below_size (by repeat (first | (with_reducible first | exact HB.out | apply below_alloc | apply pw_below_drewN | apply below_drew1 | refine below_set ?_ GE397.out | refine below_set ?_ GE398.out) | exact HB.out))))
    have n5_ := Aside0.mk (blk_below (g := gb397) (o := .cells #[.int .u64 a0_0, .int .u64 a0_1] 24 (0, 0)) (by (with_reducible repeat (first | refine blk_drewN ?_ _ | refine blk_drew ?_ | refine blk_alloc ?_ _)); exact BK397.out) hb)
    have n6_ := Aside0.mk (blk_below (g := gb398) (o := .cells #[.int .u64 a1_0, .int .u64 a1_1] 24 (0, 0)) (by (with_reducible repeat (first | refine blk_drewN ?_ _ | refine blk_drew ?_ | refine blk_alloc ?_ _)); exact BK398.out) hb)
    have n7_ := Aside0.mk (below_step (by repeat (first | (with_reducible first | exact HB.out | apply below_alloc | apply pw_below_drewN | apply below_drew1 | refine below_set ?_ GE397.out | refine below_set ?_ GE398.out) | exact HB.out)) hb)
    clear HO403
    clear HO406
    clear HO409
    clear HO415
    clear BK397
    clear BK398
    clear HB
    have HO403 := n0_
    have HO406 := n1_
    have HO409 := n2_
    have HO415 := n3_
    have HO418 := n4_
    have BK397 := n5_
    have BK398 := n6_
    have HB := n7_
    clear n0_ n1_ n2_ n3_ n4_ n5_ n6_ n7_
    (try clear hb)
    (try clear hb2)
    (try clear hk)
    (try clear hi)
    (try clear ho0)
    obtain ⟨Ao29, co29, eo29⟩ := Kd.V_slice HO415.out
    (first | subst eo29 | (injection eo29 with f1_ f2_ f3_; have f4_ := f1_.symm; have f5_ := f3_.symm; clear f1_ f2_ f3_; subst f4_; subst f5_))
    obtain ⟨Ao30, co30, eo30⟩ := Kd.V_slice HO418.out
    (first | subst eo30 | (injection eo30 with f1_ f2_ f3_; have f4_ := f1_.symm; have f5_ := f3_.symm; clear f1_ f2_ f3_; subst f4_; subst f5_))
    refine hK.out _ _ ⟨(blk_cell BK397.out 0).trans rfl, (blk_cell BK397.out 1).trans rfl, (blk_cell BK398.out 0).trans rfl, (blk_cell BK398.out 1).trans rfl⟩ (fun hHeld => ?_)
    clear hK K
    refine norm_ (a' := ?_) ?_ ?_
    rotate_left
    · show Act.put _ (some 23) _ = _
      simp only [Act.put, List.setIfInBounds_toArray, List.set_cons_zero, List.set_cons_succ, i64_w, i32_w]
      rfl
    refine one_ (i := 17) (N := some 24) #[true, true, true, true, true, true, true, true, true, true, true, true, true, true, true, true, true, true, false, false, false] rfl rfl (one_of HT_.out (by kernel_rfl)) (by decide) (fun K hK => ?_)
    refine goes_ Try.func53 (by kernel_rfl) rfl #[.slice Ao29 t413.length co29, .slice Ao30 t416.length co30] (by rfl) rfl rfl (by (try simp only [List.map_toArray, List.map_cons, List.map_nil]); first | done | rfl | (simp only [List.length_drop, List.length_take]; rfl)) ?_
    with_reducible refine (spec_Plus.calls k _ _ t413 _ _ t416 t419 _ ?side1 ?side2 ?side3 ?side4 A13.out).mono ?_
    (case side1 => repeat (first | exact (Kd.V_reads' HO415.out).2.2 | (with_reducible refine Kd.C_alloc ?_ _) | (with_reducible refine Kd.C_drewN ?_ _) | (with_reducible refine Kd.C_drew ?_)))
    (case side2 => exact (Kd.V_reads' HO415.out).2.1)
    (case side3 => repeat (first | exact (Kd.V_reads' HO418.out).2.2 | (with_reducible refine Kd.C_alloc ?_ _) | (with_reducible refine Kd.C_drewN ?_ _) | (with_reducible refine Kd.C_drew ?_)))
    (case side4 => exact (Kd.V_reads' HO418.out).2.1)
    rintro e w31 ⟨v420, rfl, ho0, hb⟩
    refine ⟨_, rfl, ?_⟩
    have n0_ := Aside0.mk (Kd.V_below (by (with_reducible repeat (first | apply Kd.V_alloc | apply Kd.V_drewN | apply Kd.V_drew)); exact HO403.out) hb)
    have n1_ := Aside0.mk (Kd.V_below (by (with_reducible repeat (first | apply Kd.V_alloc | apply Kd.V_drewN | apply Kd.V_drew)); exact HO406.out) hb)
    have n2_ := Aside0.mk (Kd.V_below (by (with_reducible repeat (first | apply Kd.V_alloc | apply Kd.V_drewN | apply Kd.V_drew)); exact HO409.out) hb)
    have n3_ := Aside0.mk (Kd.V_below (by (with_reducible repeat (first | apply Kd.V_alloc | apply Kd.V_drewN | apply Kd.V_drew)); exact HO415.out) hb)
    have n4_ := Aside0.mk (Kd.V_below (by (with_reducible repeat (first | apply Kd.V_alloc | apply Kd.V_drewN | apply Kd.V_drew)); exact HO418.out) hb)
    have n5_ := Aside0.mk (Kd.V_lower (Kd.V_mono (ok' := fun k_ => k_ ≠ gb397 ∧ k_ ≠ gb398) ho0 (fun k_ hk_ => ⟨(Kd.freshB (g := gb397) (o := .cells #[.int .u64 a0_0, .int .u64 a0_1] 24 (0, 0)) (by (with_reducible repeat (first | refine blk_drewN ?_ _ | refine blk_drew ?_ | refine blk_alloc ?_ _)); exact BK397.out) k_ hk_), (Kd.freshB (g := gb398) (o := .cells #[.int .u64 a1_0, .int .u64 a1_1] 24 (0, 0)) (by (with_reducible repeat (first | refine blk_drewN ?_ _ | refine blk_drew ?_ | refine blk_alloc ?_ _)); exact BK398.out) k_ hk_)⟩)) (below_size (by repeat (first | (with_reducible first | exact HB.out | apply below_alloc | apply pw_below_drewN | apply below_drew1 | refine below_set ?_ GE397.out | refine below_set ?_ GE398.out) | exact HB.out))))
    have n6_ := Aside0.mk (blk_below (g := gb397) (o := .cells #[.int .u64 a0_0, .int .u64 a0_1] 24 (0, 0)) (by (with_reducible repeat (first | refine blk_drewN ?_ _ | refine blk_drew ?_ | refine blk_alloc ?_ _)); exact BK397.out) hb)
    have n7_ := Aside0.mk (blk_below (g := gb398) (o := .cells #[.int .u64 a1_0, .int .u64 a1_1] 24 (0, 0)) (by (with_reducible repeat (first | refine blk_drewN ?_ _ | refine blk_drew ?_ | refine blk_alloc ?_ _)); exact BK398.out) hb)
    have n8_ := Aside0.mk (below_step (by repeat (first | (with_reducible first | exact HB.out | apply below_alloc | apply pw_below_drewN | apply below_drew1 | refine below_set ?_ GE397.out | refine below_set ?_ GE398.out) | exact HB.out)) hb)
    clear HO403
    clear HO406
    clear HO409
    clear HO415
    clear HO418
    clear BK397
    clear BK398
    clear HB
    have HO403 := n0_
    have HO406 := n1_
    have HO409 := n2_
    have HO415 := n3_
    have HO418 := n4_
    have HO421 := n5_
    have BK397 := n6_
    have BK398 := n7_
    have HB := n8_
    clear n0_ n1_ n2_ n3_ n4_ n5_ n6_ n7_ n8_
    (try clear hb)
    (try clear hb2)
    (try clear hk)
    (try clear hi)
    (try clear ho0)
    obtain ⟨Ao32, co32, eo32⟩ := Kd.V_slice HO421.out
    (first | subst eo32 | (injection eo32 with f1_ f2_ f3_; have f4_ := f1_.symm; have f5_ := f3_.symm; clear f1_ f2_ f3_; subst f4_; subst f5_))
    refine hK.out _ _ ⟨(blk_cell BK397.out 0).trans rfl, (blk_cell BK397.out 1).trans rfl, (blk_cell BK398.out 0).trans rfl, (blk_cell BK398.out 1).trans rfl⟩ (fun hHeld => ?_)
    clear hK K
    refine norm_ (a' := ?_) ?_ ?_
    rotate_left
    · show Act.put _ (some 24) _ = _
      simp only [Act.put, List.setIfInBounds_toArray, List.set_cons_zero, List.set_cons_succ, i64_w, i32_w]
      rfl
    refine one_ (i := 18) (N := some 25) #[true, true, true, true, true, true, true, true, true, true, true, true, true, true, true, true, true, true, true, false, false] rfl rfl (one_of HT_.out (by kernel_rfl)) (by decide) (fun K hK => ?_)
    refine goes_ Try.func27 (by kernel_rfl) rfl #[.agg #[.int .u64 t411, .int .u64 t412], .slice Ao32 t419.length co32] (by rfl) rfl rfl (by (try simp only [List.map_toArray, List.map_cons, List.map_nil]); first | done | rfl | (simp only [List.length_drop, List.length_take]; rfl)) ?_
    with_reducible refine (laws_wideIs.calls k t411 t412 _ _ t419 t422 _ ?side1 ?side2 A14.out).mono ?_
    (case side1 => repeat (first | exact (Kd.V_reads' HO421.out).2.2 | (with_reducible refine Kd.C_alloc ?_ _) | (with_reducible refine Kd.C_drewN ?_ _) | (with_reducible refine Kd.C_drew ?_)))
    (case side2 => exact (Kd.V_reads' HO421.out).2.1)
    rintro e w33 ⟨rfl, hb⟩
    refine ⟨_, rfl, ?_⟩
    have n0_ := Aside0.mk (Kd.V_below (by (with_reducible repeat (first | apply Kd.V_alloc | apply Kd.V_drewN | apply Kd.V_drew)); exact HO403.out) hb)
    have n1_ := Aside0.mk (Kd.V_below (by (with_reducible repeat (first | apply Kd.V_alloc | apply Kd.V_drewN | apply Kd.V_drew)); exact HO406.out) hb)
    have n2_ := Aside0.mk (Kd.V_below (by (with_reducible repeat (first | apply Kd.V_alloc | apply Kd.V_drewN | apply Kd.V_drew)); exact HO409.out) hb)
    have n3_ := Aside0.mk (Kd.V_below (by (with_reducible repeat (first | apply Kd.V_alloc | apply Kd.V_drewN | apply Kd.V_drew)); exact HO415.out) hb)
    have n4_ := Aside0.mk (Kd.V_below (by (with_reducible repeat (first | apply Kd.V_alloc | apply Kd.V_drewN | apply Kd.V_drew)); exact HO418.out) hb)
    have n5_ := Aside0.mk (Kd.V_below (by (with_reducible repeat (first | apply Kd.V_alloc | apply Kd.V_drewN | apply Kd.V_drew)); exact HO421.out) hb)
    have n6_ := Aside0.mk (blk_below (g := gb397) (o := .cells #[.int .u64 a0_0, .int .u64 a0_1] 24 (0, 0)) (by (with_reducible repeat (first | refine blk_drewN ?_ _ | refine blk_drew ?_ | refine blk_alloc ?_ _)); exact BK397.out) hb)
    have n7_ := Aside0.mk (blk_below (g := gb398) (o := .cells #[.int .u64 a1_0, .int .u64 a1_1] 24 (0, 0)) (by (with_reducible repeat (first | refine blk_drewN ?_ _ | refine blk_drew ?_ | refine blk_alloc ?_ _)); exact BK398.out) hb)
    have n8_ := Aside0.mk (below_step (by repeat (first | (with_reducible first | exact HB.out | apply below_alloc | apply pw_below_drewN | apply below_drew1 | refine below_set ?_ GE397.out | refine below_set ?_ GE398.out) | exact HB.out)) hb)
    clear HO403
    clear HO406
    clear HO409
    clear HO415
    clear HO418
    clear HO421
    clear BK397
    clear BK398
    clear HB
    have HO403 := n0_
    have HO406 := n1_
    have HO409 := n2_
    have HO415 := n3_
    have HO418 := n4_
    have HO421 := n5_
    have BK397 := n6_
    have BK398 := n7_
    have HB := n8_
    clear n0_ n1_ n2_ n3_ n4_ n5_ n6_ n7_ n8_
    (try clear hb)
    (try clear hb2)
    (try clear hk)
    (try clear hi)
    refine hK.out _ _ ⟨(blk_cell BK397.out 0).trans rfl, (blk_cell BK397.out 1).trans rfl, (blk_cell BK398.out 0).trans rfl, (blk_cell BK398.out 1).trans rfl⟩ (fun hHeld => ?_)
    clear hK K
    refine norm_ (a' := ?_) ?_ ?_
    rotate_left
    · show Act.put _ (some 25) _ = _
      simp only [Act.put, List.setIfInBounds_toArray, List.set_cons_zero, List.set_cons_succ, i64_w, i32_w]
      rfl
    refine pure_ (i := 19) (N := some 26) (v := ?_) (a' := ?_) #[true, true, true, true, true, true, true, true, true, true, true, true, true, true, true, true, true, true, true, true, false] rfl rfl (any_of HT_.out (by kernel_rfl)) (fun _ _ _ h => h) (Or.inl ⟨by rfl, ?_⟩) ?_ ?_
    rotate_left
    · intro w'
      go_simp
      with_reducible rfl
    rotate_left
    · simp only [Act.put, List.setIfInBounds_toArray, List.set_cons_zero, List.set_cons_succ, i64_w, i32_w]
      rfl
    refine pure_ (i := 20) (N := some 6) (v := ?_) (a' := ?_) #[true, true, true, true, true, true, true, true, true, true, true, true, true, true, true, true, true, true, true, true, true] rfl rfl (any_of HT_.out (by kernel_rfl)) (fun _ _ _ h => h) (Or.inl ⟨by rfl, ?_⟩) ?_ ?_
    rotate_left
    · intro w'
      go_simp
      with_reducible rfl
    rotate_left
    · simp only [Act.put, List.setIfInBounds_toArray, List.set_cons_zero, List.set_cons_succ, i64_w, i32_w]
      rfl
    refine done_ (done_of HT_.out (by kernel_rfl)) ?_
    try go_wp2
    go_ret
    exact ⟨by first | rfl | (simp [errW_none, errW_some] <;> rfl) | (simp [*, errW_none, errW_some] <;> rfl), by repeat (first | (with_reducible first | exact HB.out | apply below_alloc | apply pw_below_drewN | apply below_drew1 | refine below_set ?_ GE397.out | refine below_set ?_ GE398.out) | exact HB.out)⟩
  · replace c9 := Bool.eq_false_iff.mpr c9
    subst c9
    have H1 : (some false) = some r := by rw [if_neg (show ¬ (false = true) by decide)] at H; exact H
    clear H
    have H := H1
    clear H1
    obtain rfl := Option.some.inj H
    go_enter Try.func12, Try.ntmps12
    try go_wp2_with (first | ((with_reducible refine gate_dst (N := 3) rfl ?_); refine box_event ?hg (N := 3) ?hd (cs := #[.int .u64 a0_0, .int .u64 a0_1]) (t := 24) ?hr ?_; (case hd => rfl); (case hg => rfl); (case hr => first | (go_simp; done) | (go_simp; rfl)); intro gb397 hg w34 hbox hb; have n0_ := Aside0.mk (below_step (by repeat (first | (with_reducible first | exact HB.out | apply below_alloc | apply pw_below_drewN | apply below_drew1) | exact HB.out)) hb); have n1_ := Aside0.mk (hbox); have n2_ := Aside0.mk ((by rw [hg]; exact (below_size (by repeat (first | (with_reducible first | exact HB.out | apply below_alloc | apply pw_below_drewN | apply below_drew1) | exact HB.out))) : w.heap.size ≤ gb397)); have n3_ := Aside0.mk ((by rw [hg]; exact (below_size (by repeat (first | (with_reducible first | exact HB.out | apply below_alloc | apply pw_below_drewN | apply below_drew1) | exact HB.out))) : w.heap.size ≤ gb397)); clear HB; have HB := n0_; have BK397 := n1_; have GW397 := n2_; have GE397 := n3_; clear n0_ n1_ n2_ n3_; clear hb hbox hg) | ((with_reducible refine gate_dst (N := 4) rfl ?_); refine box_event ?hg (N := 4) ?hd (cs := #[.int .u64 a1_0, .int .u64 a1_1]) (t := 24) ?hr ?_; (case hd => rfl); (case hg => rfl); (case hr => first | (go_simp; done) | (go_simp; rfl)); intro gb398 hg w35 hbox hb; have n0_ := Aside0.mk (blk_below (g := gb397) (o := .cells #[.int .u64 a0_0, .int .u64 a0_1] 24 (0, 0)) (by (with_reducible repeat (first | refine blk_drewN ?_ _ | refine blk_drew ?_ | refine blk_alloc ?_ _)); exact BK397.out) hb); have n1_ := Aside0.mk (below_step (by repeat (first | (with_reducible first | exact HB.out | apply below_alloc | apply pw_below_drewN | apply below_drew1 | refine below_set ?_ GE397.out) | exact HB.out)) hb); have n2_ := Aside0.mk (hbox); have n3_ := Aside0.mk ((by rw [hg]; exact (below_size (by repeat (first | (with_reducible first | exact HB.out | apply below_alloc | apply pw_below_drewN | apply below_drew1 | refine below_set ?_ GE397.out) | exact HB.out))) : w.heap.size ≤ gb398)); have n4_ := Aside0.mk ((by rw [hg]; exact (below_size (by repeat (first | (with_reducible first | exact HB.out | apply below_alloc | apply pw_below_drewN | apply below_drew1 | refine below_set ?_ GE397.out) | exact HB.out))) : w.heap.size ≤ gb398)); have n5_ := Aside0.mk ((by rw [hg]; exact Nat.ne_of_lt (blk_lt (g := gb397) (o := .cells #[.int .u64 a0_0, .int .u64 a0_1] 24 (0, 0)) (by (with_reducible repeat (first | refine blk_drewN ?_ _ | refine blk_drew ?_ | refine blk_alloc ?_ _)); exact BK397.out)) : gb397 ≠ gb398)); have n6_ := Aside0.mk ((by rw [hg]; exact Nat.ne_of_gt (blk_lt (g := gb397) (o := .cells #[.int .u64 a0_0, .int .u64 a0_1] 24 (0, 0)) (by (with_reducible repeat (first | refine blk_drewN ?_ _ | refine blk_drew ?_ | refine blk_alloc ?_ _)); exact BK397.out)) : gb398 ≠ gb397)); clear BK397; clear HB; have BK397 := n0_; have HB := n1_; have BK398 := n2_; have GW398 := n3_; have GE398 := n4_; have NB397_398 := n5_; have NB398_397 := n6_; clear n0_ n1_ n2_ n3_ n4_ n5_ n6_; clear hb hbox hg))
    have n0_ := Aside0.mk (blk_drew BK397.out)
    have n1_ := Aside0.mk (blk_drew BK398.out)
    have n2_ := Aside0.mk (below_drew1 HB.out)
    clear BK397
    clear BK398
    clear HB
    have BK397 := n0_
    have BK398 := n1_
    have HB := n2_
    clear n0_ n1_ n2_
    refine start_ (n := 21) (S := fun w' => w'.cell? ⟨gb397, 0, none⟩ = some (.int .u64 a0_0) ∧ w'.cell? ⟨gb397, 1, none⟩ = some (.int .u64 a0_1) ∧ w'.cell? ⟨gb398, 0, none⟩ = some (.int .u64 a1_0) ∧ w'.cell? ⟨gb398, 1, none⟩ = some (.int .u64 a1_1)) (ds := []) #[false, false, false, false, false, false, false, false, false, false, false, false, false, false, false, false, false, false, false, false, false] (by kernel_rfl) rfl rfl ⟨(blk_cell BK397.out 0).trans rfl, (blk_cell BK397.out 1).trans rfl, (blk_cell BK398.out 0).trans rfl, (blk_cell BK398.out 1).trans rfl⟩ (fun hHeld => ?_); refine with_tabW laws_FnWideAddWrap.tab1 laws_FnWideAddWrap.bits1 (fun HT_ HW_ => ?_)
    generalize w35.drew = w36 at BK397 BK398 HB hHeld ⊢
    refine take_ (i := 0) (N := some 7) (v := ?_) (a' := ?_) #[true, false, false, false, false, false, false, false, false, false, false, false, false, false, false, false, false, false, false, false, false] rfl rfl (take_ofW HT_.out HW_.out (by kernel_rfl)) (fun _ _ _ h => h) (Or.inl ⟨by rfl, ?_⟩) hHeld ?_ ?_
    rotate_left
    · rintro w' ⟨s0, s1, s2, s3⟩
      go_simp
      with_reducible rfl
    rotate_left
    · simp only [Act.put, List.setIfInBounds_toArray, List.set_cons_zero, List.set_cons_succ, i64_w, i32_w]
      rfl
    refine take_ (i := 1) (N := some 8) (v := ?_) (a' := ?_) #[true, true, false, false, false, false, false, false, false, false, false, false, false, false, false, false, false, false, false, false, false] rfl rfl (take_ofW HT_.out HW_.out (by kernel_rfl)) (fun _ _ _ h => h) (Or.inl ⟨by rfl, ?_⟩) hHeld ?_ ?_
    rotate_left
    · rintro w' ⟨s0, s1, s2, s3⟩
      go_simp
      with_reducible rfl
    rotate_left
    · simp only [Act.put, List.setIfInBounds_toArray, List.set_cons_zero, List.set_cons_succ, i64_w, i32_w]
      rfl
    refine take_ (i := 3) (N := some 10) (v := ?_) (a' := ?_) #[true, true, false, true, false, false, false, false, false, false, false, false, false, false, false, false, false, false, false, false, false] rfl rfl (take_ofW HT_.out HW_.out (by kernel_rfl)) (fun _ _ _ h => h) (Or.inl ⟨by rfl, ?_⟩) hHeld ?_ ?_
    rotate_left
    · rintro w' ⟨s0, s1, s2, s3⟩
      go_simp
      with_reducible rfl
    rotate_left
    · simp only [Act.put, List.setIfInBounds_toArray, List.set_cons_zero, List.set_cons_succ, i64_w, i32_w]
      rfl
    refine take_ (i := 5) (N := some 12) (v := ?_) (a' := ?_) #[true, true, false, true, false, true, false, false, false, false, false, false, false, false, false, false, false, false, false, false, false] rfl rfl (take_ofW HT_.out HW_.out (by kernel_rfl)) (fun _ _ _ h => h) (Or.inl ⟨by rfl, ?_⟩) hHeld ?_ ?_
    rotate_left
    · rintro w' ⟨s0, s1, s2, s3⟩
      go_simp
      with_reducible rfl
    rotate_left
    · simp only [Act.put, List.setIfInBounds_toArray, List.set_cons_zero, List.set_cons_succ, i64_w, i32_w]
      rfl
    refine one_ (i := 2) (N := some 9) #[true, true, true, true, false, true, false, false, false, false, false, false, false, false, false, false, false, false, false, false, false] rfl rfl (one_of HT_.out (by kernel_rfl)) (by decide) (fun K hK => ?_)
    refine goes_ Try.func52 (by kernel_rfl) rfl #[.agg #[.int .u64 a0_0, .int .u64 a0_1], .agg #[.int .u64 a1_0, .int .u64 a1_1]] (by rfl) rfl rfl (by (try simp only [List.map_toArray, List.map_cons, List.map_nil]); first | done | rfl | (simp only [List.length_drop, List.length_take]; rfl)) ?_
    with_reducible refine (impl_WideAddWrap.calls a0_0 a0_1 a1_0 a1_1 t399 t400 _ A4.out).mono ?_
    rintro e w37 ⟨rfl, hb⟩
    refine ⟨_, rfl, ?_⟩
    have n0_ := Aside0.mk (blk_below (g := gb397) (o := .cells #[.int .u64 a0_0, .int .u64 a0_1] 24 (0, 0)) (by (with_reducible repeat (first | refine blk_drewN ?_ _ | refine blk_drew ?_ | refine blk_alloc ?_ _)); exact BK397.out) hb)
    have n1_ := Aside0.mk (blk_below (g := gb398) (o := .cells #[.int .u64 a1_0, .int .u64 a1_1] 24 (0, 0)) (by (with_reducible repeat (first | refine blk_drewN ?_ _ | refine blk_drew ?_ | refine blk_alloc ?_ _)); exact BK398.out) hb)
    have n2_ := Aside0.mk (below_step (by repeat (first | (with_reducible first | exact HB.out | apply below_alloc | apply pw_below_drewN | apply below_drew1 | refine below_set ?_ GE397.out | refine below_set ?_ GE398.out) | exact HB.out)) hb)
    clear BK397
    clear BK398
    clear HB
    have BK397 := n0_
    have BK398 := n1_
    have HB := n2_
    clear n0_ n1_ n2_
    (try clear hb)
    (try clear hb2)
    (try clear hk)
    (try clear hi)
    refine hK.out _ _ ⟨(blk_cell BK397.out 0).trans rfl, (blk_cell BK397.out 1).trans rfl, (blk_cell BK398.out 0).trans rfl, (blk_cell BK398.out 1).trans rfl⟩ (fun hHeld => ?_)
    clear hK K
    refine norm_ (a' := ?_) ?_ ?_
    rotate_left
    · show Act.put _ (some 9) _ = _
      simp only [Act.put, List.setIfInBounds_toArray, List.set_cons_zero, List.set_cons_succ, i64_w, i32_w]
      rfl
    refine one_ (i := 4) (N := some 11) #[true, true, true, true, true, true, false, false, false, false, false, false, false, false, false, false, false, false, false, false, false] rfl rfl (one_of HT_.out (by kernel_rfl)) (by decide) (fun K hK => ?_)
    refine goes_ Try.func25 (by kernel_rfl) rfl #[.agg #[.int .u64 a0_0, .int .u64 a0_1]] (by rfl) rfl rfl (by (try simp only [List.map_toArray, List.map_cons, List.map_nil]); first | done | rfl | (simp only [List.length_drop, List.length_take]; rfl)) ?_
    with_reducible refine (laws_wideWhole.calls a0_0 a0_1 t401 _ A5.out).mono ?_
    rintro e w38 ⟨v402, rfl, ho0, hb⟩
    refine ⟨_, rfl, ?_⟩
    have n0_ := Aside0.mk (Kd.V_lower (Kd.V_mono (ok' := fun k_ => k_ ≠ gb397 ∧ k_ ≠ gb398) ho0 (fun k_ hk_ => ⟨(Kd.freshB (g := gb397) (o := .cells #[.int .u64 a0_0, .int .u64 a0_1] 24 (0, 0)) (by (with_reducible repeat (first | refine blk_drewN ?_ _ | refine blk_drew ?_ | refine blk_alloc ?_ _)); exact BK397.out) k_ hk_), (Kd.freshB (g := gb398) (o := .cells #[.int .u64 a1_0, .int .u64 a1_1] 24 (0, 0)) (by (with_reducible repeat (first | refine blk_drewN ?_ _ | refine blk_drew ?_ | refine blk_alloc ?_ _)); exact BK398.out) k_ hk_)⟩)) (below_size (by repeat (first | (with_reducible first | exact HB.out | apply below_alloc | apply pw_below_drewN | apply below_drew1 | refine below_set ?_ GE397.out | refine below_set ?_ GE398.out) | exact HB.out))))
    have n1_ := Aside0.mk (blk_below (g := gb397) (o := .cells #[.int .u64 a0_0, .int .u64 a0_1] 24 (0, 0)) (by (with_reducible repeat (first | refine blk_drewN ?_ _ | refine blk_drew ?_ | refine blk_alloc ?_ _)); exact BK397.out) hb)
    have n2_ := Aside0.mk (blk_below (g := gb398) (o := .cells #[.int .u64 a1_0, .int .u64 a1_1] 24 (0, 0)) (by (with_reducible repeat (first | refine blk_drewN ?_ _ | refine blk_drew ?_ | refine blk_alloc ?_ _)); exact BK398.out) hb)
    have n3_ := Aside0.mk (below_step (by repeat (first | (with_reducible first | exact HB.out | apply below_alloc | apply pw_below_drewN | apply below_drew1 | refine below_set ?_ GE397.out | refine below_set ?_ GE398.out) | exact HB.out)) hb)
    clear BK397
    clear BK398
    clear HB
    have HO403 := n0_
    have BK397 := n1_
    have BK398 := n2_
    have HB := n3_
    clear n0_ n1_ n2_ n3_
    (try clear hb)
    (try clear hb2)
    (try clear hk)
    (try clear hi)
    (try clear ho0)
    refine hK.out _ _ ⟨(blk_cell BK397.out 0).trans rfl, (blk_cell BK397.out 1).trans rfl, (blk_cell BK398.out 0).trans rfl, (blk_cell BK398.out 1).trans rfl⟩ (fun hHeld => ?_)
    clear hK K
    refine norm_ (a' := ?_) ?_ ?_
    rotate_left
    · show Act.put _ (some 11) _ = _
      simp only [Act.put, List.setIfInBounds_toArray, List.set_cons_zero, List.set_cons_succ, i64_w, i32_w]
      rfl
    refine one_ (i := 6) (N := some 13) #[true, true, true, true, true, true, true, false, false, false, false, false, false, false, false, false, false, false, false, false, false] rfl rfl (one_of HT_.out (by kernel_rfl)) (by decide) (fun K hK => ?_)
    refine goes_ Try.func25 (by kernel_rfl) rfl #[.agg #[.int .u64 a1_0, .int .u64 a1_1]] (by rfl) rfl rfl (by (try simp only [List.map_toArray, List.map_cons, List.map_nil]); first | done | rfl | (simp only [List.length_drop, List.length_take]; rfl)) ?_
    with_reducible refine (laws_wideWhole.calls a1_0 a1_1 t404 _ A6.out).mono ?_
    rintro e w39 ⟨v405, rfl, ho0, hb⟩
    refine ⟨_, rfl, ?_⟩
    have n0_ := Aside0.mk (Kd.V_below (by (with_reducible repeat (first | apply Kd.V_alloc | apply Kd.V_drewN | apply Kd.V_drew)); exact HO403.out) hb)
    have n1_ := Aside0.mk (Kd.V_lower (Kd.V_mono (ok' := fun k_ => k_ ≠ gb397 ∧ k_ ≠ gb398) ho0 (fun k_ hk_ => ⟨(Kd.freshB (g := gb397) (o := .cells #[.int .u64 a0_0, .int .u64 a0_1] 24 (0, 0)) (by (with_reducible repeat (first | refine blk_drewN ?_ _ | refine blk_drew ?_ | refine blk_alloc ?_ _)); exact BK397.out) k_ hk_), (Kd.freshB (g := gb398) (o := .cells #[.int .u64 a1_0, .int .u64 a1_1] 24 (0, 0)) (by (with_reducible repeat (first | refine blk_drewN ?_ _ | refine blk_drew ?_ | refine blk_alloc ?_ _)); exact BK398.out) k_ hk_)⟩)) (below_size (by repeat (first | (with_reducible first | exact HB.out | apply below_alloc | apply pw_below_drewN | apply below_drew1 | refine below_set ?_ GE397.out | refine below_set ?_ GE398.out) | exact HB.out))))
    have n2_ := Aside0.mk (blk_below (g := gb397) (o := .cells #[.int .u64 a0_0, .int .u64 a0_1] 24 (0, 0)) (by (with_reducible repeat (first | refine blk_drewN ?_ _ | refine blk_drew ?_ | refine blk_alloc ?_ _)); exact BK397.out) hb)
    have n3_ := Aside0.mk (blk_below (g := gb398) (o := .cells #[.int .u64 a1_0, .int .u64 a1_1] 24 (0, 0)) (by (with_reducible repeat (first | refine blk_drewN ?_ _ | refine blk_drew ?_ | refine blk_alloc ?_ _)); exact BK398.out) hb)
    have n4_ := Aside0.mk (below_step (by repeat (first | (with_reducible first | exact HB.out | apply below_alloc | apply pw_below_drewN | apply below_drew1 | refine below_set ?_ GE397.out | refine below_set ?_ GE398.out) | exact HB.out)) hb)
    clear HO403
    clear BK397
    clear BK398
    clear HB
    have HO403 := n0_
    have HO406 := n1_
    have BK397 := n2_
    have BK398 := n3_
    have HB := n4_
    clear n0_ n1_ n2_ n3_ n4_
    (try clear hb)
    (try clear hb2)
    (try clear hk)
    (try clear hi)
    (try clear ho0)
    obtain ⟨Ao40, co40, eo40⟩ := Kd.V_slice HO403.out
    (first | subst eo40 | (injection eo40 with f1_ f2_ f3_; have f4_ := f1_.symm; have f5_ := f3_.symm; clear f1_ f2_ f3_; subst f4_; subst f5_))
    obtain ⟨Ao41, co41, eo41⟩ := Kd.V_slice HO406.out
    (first | subst eo41 | (injection eo41 with f1_ f2_ f3_; have f4_ := f1_.symm; have f5_ := f3_.symm; clear f1_ f2_ f3_; subst f4_; subst f5_))
    refine hK.out _ _ ⟨(blk_cell BK397.out 0).trans rfl, (blk_cell BK397.out 1).trans rfl, (blk_cell BK398.out 0).trans rfl, (blk_cell BK398.out 1).trans rfl⟩ (fun hHeld => ?_)
    clear hK K
    refine norm_ (a' := ?_) ?_ ?_
    rotate_left
    · show Act.put _ (some 13) _ = _
      simp only [Act.put, List.setIfInBounds_toArray, List.set_cons_zero, List.set_cons_succ, i64_w, i32_w]
      rfl
    refine one_ (i := 7) (N := some 14) #[true, true, true, true, true, true, true, true, false, false, false, false, false, false, false, false, false, false, false, false, false] rfl rfl (one_of HT_.out (by kernel_rfl)) (by decide) (fun K hK => ?_)
    refine goes_ Try.func53 (by kernel_rfl) rfl #[.slice Ao40 t401.length co40, .slice Ao41 t404.length co41] (by rfl) rfl rfl (by (try simp only [List.map_toArray, List.map_cons, List.map_nil]); first | done | rfl | (simp only [List.length_drop, List.length_take]; rfl)) ?_
    with_reducible refine (spec_Plus.calls k _ _ t401 _ _ t404 t407 _ ?side1 ?side2 ?side3 ?side4 A7.out).mono ?_
    (case side1 => repeat (first | exact (Kd.V_reads' HO403.out).2.2 | (with_reducible refine Kd.C_alloc ?_ _) | (with_reducible refine Kd.C_drewN ?_ _) | (with_reducible refine Kd.C_drew ?_)))
    (case side2 => exact (Kd.V_reads' HO403.out).2.1)
    (case side3 => repeat (first | exact (Kd.V_reads' HO406.out).2.2 | (with_reducible refine Kd.C_alloc ?_ _) | (with_reducible refine Kd.C_drewN ?_ _) | (with_reducible refine Kd.C_drew ?_)))
    (case side4 => exact (Kd.V_reads' HO406.out).2.1)
    rintro e w42 ⟨v408, rfl, ho0, hb⟩
    refine ⟨_, rfl, ?_⟩
    have n0_ := Aside0.mk (Kd.V_below (by (with_reducible repeat (first | apply Kd.V_alloc | apply Kd.V_drewN | apply Kd.V_drew)); exact HO403.out) hb)
    have n1_ := Aside0.mk (Kd.V_below (by (with_reducible repeat (first | apply Kd.V_alloc | apply Kd.V_drewN | apply Kd.V_drew)); exact HO406.out) hb)
    have n2_ := Aside0.mk (Kd.V_lower (Kd.V_mono (ok' := fun k_ => k_ ≠ gb397 ∧ k_ ≠ gb398) ho0 (fun k_ hk_ => ⟨(Kd.freshB (g := gb397) (o := .cells #[.int .u64 a0_0, .int .u64 a0_1] 24 (0, 0)) (by (with_reducible repeat (first | refine blk_drewN ?_ _ | refine blk_drew ?_ | refine blk_alloc ?_ _)); exact BK397.out) k_ hk_), (Kd.freshB (g := gb398) (o := .cells #[.int .u64 a1_0, .int .u64 a1_1] 24 (0, 0)) (by (with_reducible repeat (first | refine blk_drewN ?_ _ | refine blk_drew ?_ | refine blk_alloc ?_ _)); exact BK398.out) k_ hk_)⟩)) (below_size (by repeat (first | (with_reducible first | exact HB.out | apply below_alloc | apply pw_below_drewN | apply below_drew1 | refine below_set ?_ GE397.out | refine below_set ?_ GE398.out) | exact HB.out))))
    have n3_ := Aside0.mk (blk_below (g := gb397) (o := .cells #[.int .u64 a0_0, .int .u64 a0_1] 24 (0, 0)) (by (with_reducible repeat (first | refine blk_drewN ?_ _ | refine blk_drew ?_ | refine blk_alloc ?_ _)); exact BK397.out) hb)
    have n4_ := Aside0.mk (blk_below (g := gb398) (o := .cells #[.int .u64 a1_0, .int .u64 a1_1] 24 (0, 0)) (by (with_reducible repeat (first | refine blk_drewN ?_ _ | refine blk_drew ?_ | refine blk_alloc ?_ _)); exact BK398.out) hb)
    have n5_ := Aside0.mk (below_step (by repeat (first | (with_reducible first | exact HB.out | apply below_alloc | apply pw_below_drewN | apply below_drew1 | refine below_set ?_ GE397.out | refine below_set ?_ GE398.out) | exact HB.out)) hb)
    clear HO403
    clear HO406
    clear BK397
    clear BK398
    clear HB
    have HO403 := n0_
    have HO406 := n1_
    have HO409 := n2_
    have BK397 := n3_
    have BK398 := n4_
    have HB := n5_
    clear n0_ n1_ n2_ n3_ n4_ n5_
    (try clear hb)
    (try clear hb2)
    (try clear hk)
    (try clear hi)
    (try clear ho0)
    obtain ⟨Ao43, co43, eo43⟩ := Kd.V_slice HO409.out
    (first | subst eo43 | (injection eo43 with f1_ f2_ f3_; have f4_ := f1_.symm; have f5_ := f3_.symm; clear f1_ f2_ f3_; subst f4_; subst f5_))
    refine hK.out _ _ ⟨(blk_cell BK397.out 0).trans rfl, (blk_cell BK397.out 1).trans rfl, (blk_cell BK398.out 0).trans rfl, (blk_cell BK398.out 1).trans rfl⟩ (fun hHeld => ?_)
    clear hK K
    refine norm_ (a' := ?_) ?_ ?_
    rotate_left
    · show Act.put _ (some 14) _ = _
      simp only [Act.put, List.setIfInBounds_toArray, List.set_cons_zero, List.set_cons_succ, i64_w, i32_w]
      rfl
    refine one_ (i := 8) (N := some 15) #[true, true, true, true, true, true, true, true, true, false, false, false, false, false, false, false, false, false, false, false, false] rfl rfl (one_of HT_.out (by kernel_rfl)) (by decide) (fun K hK => ?_)
    refine goes_ Try.func27 (by kernel_rfl) rfl #[.agg #[.int .u64 t399, .int .u64 t400], .slice Ao43 t407.length co43] (by rfl) rfl rfl (by (try simp only [List.map_toArray, List.map_cons, List.map_nil]); first | done | rfl | (simp only [List.length_drop, List.length_take]; rfl)) ?_
    with_reducible refine (laws_wideIs.calls k t399 t400 _ _ t407 false _ ?side1 ?side2 A8.out).mono ?_
    (case side1 => repeat (first | exact (Kd.V_reads' HO409.out).2.2 | (with_reducible refine Kd.C_alloc ?_ _) | (with_reducible refine Kd.C_drewN ?_ _) | (with_reducible refine Kd.C_drew ?_)))
    (case side2 => exact (Kd.V_reads' HO409.out).2.1)
    rintro e w44 ⟨rfl, hb⟩
    refine ⟨_, rfl, ?_⟩
    have n0_ := Aside0.mk (Kd.V_below (by (with_reducible repeat (first | apply Kd.V_alloc | apply Kd.V_drewN | apply Kd.V_drew)); exact HO403.out) hb)
    have n1_ := Aside0.mk (Kd.V_below (by (with_reducible repeat (first | apply Kd.V_alloc | apply Kd.V_drewN | apply Kd.V_drew)); exact HO406.out) hb)
    have n2_ := Aside0.mk (Kd.V_below (by (with_reducible repeat (first | apply Kd.V_alloc | apply Kd.V_drewN | apply Kd.V_drew)); exact HO409.out) hb)
    have n3_ := Aside0.mk (blk_below (g := gb397) (o := .cells #[.int .u64 a0_0, .int .u64 a0_1] 24 (0, 0)) (by (with_reducible repeat (first | refine blk_drewN ?_ _ | refine blk_drew ?_ | refine blk_alloc ?_ _)); exact BK397.out) hb)
    have n4_ := Aside0.mk (blk_below (g := gb398) (o := .cells #[.int .u64 a1_0, .int .u64 a1_1] 24 (0, 0)) (by (with_reducible repeat (first | refine blk_drewN ?_ _ | refine blk_drew ?_ | refine blk_alloc ?_ _)); exact BK398.out) hb)
    have n5_ := Aside0.mk (below_step (by repeat (first | (with_reducible first | exact HB.out | apply below_alloc | apply pw_below_drewN | apply below_drew1 | refine below_set ?_ GE397.out | refine below_set ?_ GE398.out) | exact HB.out)) hb)
    clear HO403
    clear HO406
    clear HO409
    clear BK397
    clear BK398
    clear HB
    have HO403 := n0_
    have HO406 := n1_
    have HO409 := n2_
    have BK397 := n3_
    have BK398 := n4_
    have HB := n5_
    clear n0_ n1_ n2_ n3_ n4_ n5_
    (try clear hb)
    (try clear hb2)
    (try clear hk)
    (try clear hi)
    refine hK.out _ _ ⟨(blk_cell BK397.out 0).trans rfl, (blk_cell BK397.out 1).trans rfl, (blk_cell BK398.out 0).trans rfl, (blk_cell BK398.out 1).trans rfl⟩ (fun hHeld => ?_)
    clear hK K
    refine norm_ (a' := ?_) ?_ ?_
    rotate_left
    · show Act.put _ (some 15) _ = _
      simp only [Act.put, List.setIfInBounds_toArray, List.set_cons_zero, List.set_cons_succ, i64_w, i32_w]
      rfl
    refine pure_ (i := 9) (N := some 16) (v := ?_) (a' := ?_) #[true, true, true, true, true, true, true, true, true, true, false, false, false, false, false, false, false, false, false, false, false] rfl rfl (any_of HT_.out (by kernel_rfl)) (fun _ _ _ h => h) (Or.inl ⟨by rfl, ?_⟩) ?_ ?_
    rotate_left
    · intro w'
      go_simp
      with_reducible rfl
    rotate_left
    · simp only [Act.put, List.setIfInBounds_toArray, List.set_cons_zero, List.set_cons_succ, i64_w, i32_w]
      rfl
    refine pure_ (i := 10) (N := some 17) (v := undef) (a' := ?_) #[true, true, true, true, true, true, true, true, true, true, true, false, false, false, false, false, false, false, false, false, false] rfl rfl (any_of HT_.out (by kernel_rfl)) (fun _ _ _ h => h) (Or.inr ⟨by rfl, rfl⟩) ?_ ?_
    rotate_left
    · simp only [Act.put, List.setIfInBounds_toArray, List.set_cons_zero, List.set_cons_succ, i64_w, i32_w]
      rfl
    refine pure_ (i := 11) (N := some 18) (v := undef) (a' := ?_) #[true, true, true, true, true, true, true, true, true, true, true, true, false, false, false, false, false, false, false, false, false] rfl rfl (any_of HT_.out (by kernel_rfl)) (fun _ _ _ h => h) (Or.inr ⟨by rfl, rfl⟩) ?_ ?_
    rotate_left
    · simp only [Act.put, List.setIfInBounds_toArray, List.set_cons_zero, List.set_cons_succ, i64_w, i32_w]
      rfl
    refine pure_ (i := 12) (N := some 19) (v := undef) (a' := ?_) #[true, true, true, true, true, true, true, true, true, true, true, true, true, false, false, false, false, false, false, false, false] rfl rfl (any_of HT_.out (by kernel_rfl)) (fun _ _ _ h => h) (Or.inr ⟨by rfl, rfl⟩) ?_ ?_
    rotate_left
    · simp only [Act.put, List.setIfInBounds_toArray, List.set_cons_zero, List.set_cons_succ, i64_w, i32_w]
      rfl
    refine pure_ (i := 13) (N := some 20) (v := undef) (a' := ?_) #[true, true, true, true, true, true, true, true, true, true, true, true, true, true, false, false, false, false, false, false, false] rfl rfl (any_of HT_.out (by kernel_rfl)) (fun _ _ _ h => h) (Or.inr ⟨by rfl, rfl⟩) ?_ ?_
    rotate_left
    · simp only [Act.put, List.setIfInBounds_toArray, List.set_cons_zero, List.set_cons_succ, i64_w, i32_w]
      rfl
    refine pure_ (i := 14) (N := some 21) (v := undef) (a' := ?_) #[true, true, true, true, true, true, true, true, true, true, true, true, true, true, true, false, false, false, false, false, false] rfl rfl (any_of HT_.out (by kernel_rfl)) (fun _ _ _ h => h) (Or.inr ⟨by rfl, rfl⟩) ?_ ?_
    rotate_left
    · simp only [Act.put, List.setIfInBounds_toArray, List.set_cons_zero, List.set_cons_succ, i64_w, i32_w]
      rfl
    refine pure_ (i := 15) (N := some 22) (v := undef) (a' := ?_) #[true, true, true, true, true, true, true, true, true, true, true, true, true, true, true, true, false, false, false, false, false] rfl rfl (any_of HT_.out (by kernel_rfl)) (fun _ _ _ h => h) (Or.inr ⟨by rfl, rfl⟩) ?_ ?_
    rotate_left
    · simp only [Act.put, List.setIfInBounds_toArray, List.set_cons_zero, List.set_cons_succ, i64_w, i32_w]
      rfl
    refine pure_ (i := 16) (N := some 23) (v := undef) (a' := ?_) #[true, true, true, true, true, true, true, true, true, true, true, true, true, true, true, true, true, false, false, false, false] rfl rfl (any_of HT_.out (by kernel_rfl)) (fun _ _ _ h => h) (Or.inr ⟨by rfl, rfl⟩) ?_ ?_
    rotate_left
    · simp only [Act.put, List.setIfInBounds_toArray, List.set_cons_zero, List.set_cons_succ, i64_w, i32_w]
      rfl
    refine pure_ (i := 17) (N := some 24) (v := undef) (a' := ?_) #[true, true, true, true, true, true, true, true, true, true, true, true, true, true, true, true, true, true, false, false, false] rfl rfl (any_of HT_.out (by kernel_rfl)) (fun _ _ _ h => h) (Or.inr ⟨by rfl, rfl⟩) ?_ ?_
    rotate_left
    · simp only [Act.put, List.setIfInBounds_toArray, List.set_cons_zero, List.set_cons_succ, i64_w, i32_w]
      rfl
    refine pure_ (i := 18) (N := some 25) (v := undef) (a' := ?_) #[true, true, true, true, true, true, true, true, true, true, true, true, true, true, true, true, true, true, true, false, false] rfl rfl (any_of HT_.out (by kernel_rfl)) (fun _ _ _ h => h) (Or.inr ⟨by rfl, rfl⟩) ?_ ?_
    rotate_left
    · simp only [Act.put, List.setIfInBounds_toArray, List.set_cons_zero, List.set_cons_succ, i64_w, i32_w]
      rfl
    refine pure_ (i := 19) (N := some 26) (v := ?_) (a' := ?_) #[true, true, true, true, true, true, true, true, true, true, true, true, true, true, true, true, true, true, true, true, false] rfl rfl (any_of HT_.out (by kernel_rfl)) (fun _ _ _ h => h) (Or.inl ⟨by rfl, ?_⟩) ?_ ?_
    rotate_left
    · intro w'
      go_simp
      with_reducible rfl
    rotate_left
    · simp only [Act.put, List.setIfInBounds_toArray, List.set_cons_zero, List.set_cons_succ, i64_w, i32_w]
      rfl
    refine pure_ (i := 20) (N := some 6) (v := ?_) (a' := ?_) #[true, true, true, true, true, true, true, true, true, true, true, true, true, true, true, true, true, true, true, true, true] rfl rfl (any_of HT_.out (by kernel_rfl)) (fun _ _ _ h => h) (Or.inl ⟨by rfl, ?_⟩) ?_ ?_
    rotate_left
    · intro w'
      go_simp
      with_reducible rfl
    rotate_left
    · simp only [Act.put, List.setIfInBounds_toArray, List.set_cons_zero, List.set_cons_succ, i64_w, i32_w]
      rfl
    refine done_ (done_of HT_.out (by kernel_rfl)) ?_
    try go_wp2
    go_ret
    exact ⟨by first | rfl | (simp [errW_none, errW_some] <;> rfl) | (simp [*, errW_none, errW_some] <;> rfl), by repeat (first | (with_reducible first | exact HB.out | apply below_alloc | apply pw_below_drewN | apply below_drew1 | refine below_set ?_ GE397.out | refine below_set ?_ GE398.out) | exact HB.out)⟩


/-! ### bits_ReverseBytes64: function 130 -/
def bits_ReverseBytes64.f (a0 : Int) : Option (Int) := some (Go.bits .or .u64 ((Go.bits .or .u64 (Go.bits .and .u64 ((Go.bits .or .u64 (Go.bits .and .u64 (a0 / 256) 71777214294589695) (IntKind.u64.wrap ((Go.bits .and .u64 a0 71777214294589695) * 256))) / 65536) 281470681808895) (IntKind.u64.wrap ((Go.bits .and .u64 (Go.bits .or .u64 (Go.bits .and .u64 (a0 / 256) 71777214294589695) (IntKind.u64.wrap ((Go.bits .and .u64 a0 71777214294589695) * 256))) 281470681808895) * 65536))) / 4294967296) (IntKind.u64.wrap ((Go.bits .or .u64 (Go.bits .and .u64 ((Go.bits .or .u64 (Go.bits .and .u64 (a0 / 256) 71777214294589695) (IntKind.u64.wrap ((Go.bits .and .u64 a0 71777214294589695) * 256))) / 65536) 281470681808895) (IntKind.u64.wrap ((Go.bits .and .u64 (Go.bits .or .u64 (Go.bits .and .u64 (a0 / 256) 71777214294589695) (IntKind.u64.wrap ((Go.bits .and .u64 a0 71777214294589695) * 256))) 281470681808895) * 65536))) * 4294967296)))
set_option maxHeartbeats 8000000 in
set_option maxRecDepth 100000 in
theorem bits_ReverseBytes64.calls (a0 : Int) (r : Int) (w : World) (h : bits_ReverseBytes64.f a0 = some r) :
    Calls Try.prog 130 #[.int .u64 a0] w fun e w' => e = .returned (.int .u64 r) ∧ Drawn0 w w' := by
  have H : (some (Go.bits .or .u64 ((Go.bits .or .u64 (Go.bits .and .u64 ((Go.bits .or .u64 (Go.bits .and .u64 (a0 / 256) 71777214294589695) (IntKind.u64.wrap ((Go.bits .and .u64 a0 71777214294589695) * 256))) / 65536) 281470681808895) (IntKind.u64.wrap ((Go.bits .and .u64 (Go.bits .or .u64 (Go.bits .and .u64 (a0 / 256) 71777214294589695) (IntKind.u64.wrap ((Go.bits .and .u64 a0 71777214294589695) * 256))) 281470681808895) * 65536))) / 4294967296) (IntKind.u64.wrap ((Go.bits .or .u64 (Go.bits .and .u64 ((Go.bits .or .u64 (Go.bits .and .u64 (a0 / 256) 71777214294589695) (IntKind.u64.wrap ((Go.bits .and .u64 a0 71777214294589695) * 256))) / 65536) 281470681808895) (IntKind.u64.wrap ((Go.bits .and .u64 (Go.bits .or .u64 (Go.bits .and .u64 (a0 / 256) 71777214294589695) (IntKind.u64.wrap ((Go.bits .and .u64 a0 71777214294589695) * 256))) 281470681808895) * 65536))) * 4294967296)))) = some r := h
  clear h
  obtain rfl := Option.some.inj H
  go_enter Try.func130, Try.ntmps130
  go_wp2
  go_ret
  exact ⟨by first | rfl | (simp; done) | (simp [*]; done), by repeat (first | exact Drawn0.refl _ | apply Drawn0.step)⟩


/-! ### bits_Reverse64: function 129 -/
def bits_Reverse64.f (a0 : Int) : Option (Int) := (bits_ReverseBytes64.f (Go.bits .or .u64 (Go.bits .and .u64 ((Go.bits .or .u64 (Go.bits .and .u64 ((Go.bits .or .u64 (Go.bits .and .u64 (a0 / 2) 6148914691236517205) (IntKind.u64.wrap ((Go.bits .and .u64 a0 6148914691236517205) * 2))) / 4) 3689348814741910323) (IntKind.u64.wrap ((Go.bits .and .u64 (Go.bits .or .u64 (Go.bits .and .u64 (a0 / 2) 6148914691236517205) (IntKind.u64.wrap ((Go.bits .and .u64 a0 6148914691236517205) * 2))) 3689348814741910323) * 4))) / 16) 1085102592571150095) (IntKind.u64.wrap ((Go.bits .and .u64 (Go.bits .or .u64 (Go.bits .and .u64 ((Go.bits .or .u64 (Go.bits .and .u64 (a0 / 2) 6148914691236517205) (IntKind.u64.wrap ((Go.bits .and .u64 a0 6148914691236517205) * 2))) / 4) 3689348814741910323) (IntKind.u64.wrap ((Go.bits .and .u64 (Go.bits .or .u64 (Go.bits .and .u64 (a0 / 2) 6148914691236517205) (IntKind.u64.wrap ((Go.bits .and .u64 a0 6148914691236517205) * 2))) 3689348814741910323) * 4))) 1085102592571150095) * 16)))).bind fun t423 => (some t423)
set_option maxHeartbeats 8000000 in
set_option maxRecDepth 100000 in
theorem bits_Reverse64.calls (a0 : Int) (r : Int) (w : World) (h : bits_Reverse64.f a0 = some r) :
    Calls Try.prog 129 #[.int .u64 a0] w fun e w' => e = .returned (.int .u64 r) ∧ Drawn0 w w' := by
  have H : ((bits_ReverseBytes64.f (Go.bits .or .u64 (Go.bits .and .u64 ((Go.bits .or .u64 (Go.bits .and .u64 ((Go.bits .or .u64 (Go.bits .and .u64 (a0 / 2) 6148914691236517205) (IntKind.u64.wrap ((Go.bits .and .u64 a0 6148914691236517205) * 2))) / 4) 3689348814741910323) (IntKind.u64.wrap ((Go.bits .and .u64 (Go.bits .or .u64 (Go.bits .and .u64 (a0 / 2) 6148914691236517205) (IntKind.u64.wrap ((Go.bits .and .u64 a0 6148914691236517205) * 2))) 3689348814741910323) * 4))) / 16) 1085102592571150095) (IntKind.u64.wrap ((Go.bits .and .u64 (Go.bits .or .u64 (Go.bits .and .u64 ((Go.bits .or .u64 (Go.bits .and .u64 (a0 / 2) 6148914691236517205) (IntKind.u64.wrap ((Go.bits .and .u64 a0 6148914691236517205) * 2))) / 4) 3689348814741910323) (IntKind.u64.wrap ((Go.bits .and .u64 (Go.bits .or .u64 (Go.bits .and .u64 (a0 / 2) 6148914691236517205) (IntKind.u64.wrap ((Go.bits .and .u64 a0 6148914691236517205) * 2))) 3689348814741910323) * 4))) 1085102592571150095) * 16)))).bind fun t423 => (some t423)) = some r := h
  clear h
  replace H := Option.bind_eq_some_iff.mp H
  obtain ⟨t423, A20, H⟩ := H
  replace H : (some t423) = some r := H
  have A2 := Aside0.mk A20
  clear A20
  obtain rfl := Option.some.inj H
  go_enter Try.func129, Try.ntmps129
  go_wp2_with (first | ((with_reducible refine gate_callee (f := 130) rfl ?_); refine goesL_ (some 25) rfl rfl Try.func130 (by kernel_rfl) rfl #[.int .u64 (Go.bits .or .u64 (Go.bits .and .u64 ((Go.bits .or .u64 (Go.bits .and .u64 ((Go.bits .or .u64 (Go.bits .and .u64 (a0 / 2) 6148914691236517205) (IntKind.u64.wrap ((Go.bits .and .u64 a0 6148914691236517205) * 2))) / 4) 3689348814741910323) (IntKind.u64.wrap ((Go.bits .and .u64 (Go.bits .or .u64 (Go.bits .and .u64 (a0 / 2) 6148914691236517205) (IntKind.u64.wrap ((Go.bits .and .u64 a0 6148914691236517205) * 2))) 3689348814741910323) * 4))) / 16) 1085102592571150095) (IntKind.u64.wrap ((Go.bits .and .u64 (Go.bits .or .u64 (Go.bits .and .u64 ((Go.bits .or .u64 (Go.bits .and .u64 (a0 / 2) 6148914691236517205) (IntKind.u64.wrap ((Go.bits .and .u64 a0 6148914691236517205) * 2))) / 4) 3689348814741910323) (IntKind.u64.wrap ((Go.bits .and .u64 (Go.bits .or .u64 (Go.bits .and .u64 (a0 / 2) 6148914691236517205) (IntKind.u64.wrap ((Go.bits .and .u64 a0 6148914691236517205) * 2))) 3689348814741910323) * 4))) 1085102592571150095) * 16)))] rfl (by (try simp only [List.map_toArray, List.map_cons, List.map_nil]); first | done | rfl | (simp only [List.length_drop, List.length_take]; rfl)) ?_; (with_reducible refine (bits_ReverseBytes64.calls (Go.bits .or .u64 (Go.bits .and .u64 ((Go.bits .or .u64 (Go.bits .and .u64 ((Go.bits .or .u64 (Go.bits .and .u64 (a0 / 2) 6148914691236517205) (IntKind.u64.wrap ((Go.bits .and .u64 a0 6148914691236517205) * 2))) / 4) 3689348814741910323) (IntKind.u64.wrap ((Go.bits .and .u64 (Go.bits .or .u64 (Go.bits .and .u64 (a0 / 2) 6148914691236517205) (IntKind.u64.wrap ((Go.bits .and .u64 a0 6148914691236517205) * 2))) 3689348814741910323) * 4))) / 16) 1085102592571150095) (IntKind.u64.wrap ((Go.bits .and .u64 (Go.bits .or .u64 (Go.bits .and .u64 ((Go.bits .or .u64 (Go.bits .and .u64 (a0 / 2) 6148914691236517205) (IntKind.u64.wrap ((Go.bits .and .u64 a0 6148914691236517205) * 2))) / 4) 3689348814741910323) (IntKind.u64.wrap ((Go.bits .and .u64 (Go.bits .or .u64 (Go.bits .and .u64 (a0 / 2) 6148914691236517205) (IntKind.u64.wrap ((Go.bits .and .u64 a0 6148914691236517205) * 2))) 3689348814741910323) * 4))) 1085102592571150095) * 16))) t423 _ A2.out).mono ?_); rintro e w' ⟨rfl, ⟨nd, rfl⟩⟩; refine ⟨_, rfl, ?_⟩))
  go_ret
  exact ⟨by first | rfl | (simp; done) | (simp [*]; done), by repeat (first | exact Drawn0.refl _ | apply Drawn0.step)⟩


end Go.Proofs.Ytiifnofghicnaaa.PAll
