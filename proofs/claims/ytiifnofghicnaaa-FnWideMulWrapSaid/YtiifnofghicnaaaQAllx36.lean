/- Printed by the kit's print.py, called for several laws at once: functions as plain Lean, and the walks' contracts. -/
import Derived.Test.YtiifnofghicnaaaQAllx0
import Derived.Test.YtiifnofghicnaaaQAllx1
import Derived.Test.YtiifnofghicnaaaQAllx2
import Derived.Test.YtiifnofghicnaaaQAllx3
import Derived.Test.YtiifnofghicnaaaQAllx14
import Derived.Test.YtiifnofghicnaaaQAllx35
namespace Go.Proofs.Ytiifnofghicnaaa.PAll
open Go.RowKit Go.Proofs.YtiifnofghicnaaaW.PrintWords Go.Proofs.YtiifnofghicnaaaW.PrintLast Go.Proofs.YtiifnofghicnaaaW.PrintMore
attribute [local go_sem] max2_int min2_int max_two min_two max_three min_three max_four min_four   -- for this text's walks alone
set_option linter.unusedVariables false
set_option linter.unusedSimpArgs false

/-! ### laws_FnWideMulWrap: function 18 -/
def laws_FnWideMulWrap.f (k : Nat) (a0_0 : Int) (a0_1 : Int) (a1_0 : Int) (a1_1 : Int) (a2 : Int) : Option (Bool) := (impl_WideMulWrap.f a0_0 a0_1 a1_0 a1_1).bind fun bt553 => ((laws_wideWhole.f a0_0 a0_1).bind fun t555 => ((laws_wideWhole.f a1_0 a1_1).bind fun t558 => ((spec_Product.f k t555 t558).bind fun t561 => ((laws_wideIs.f k bt553.1 bt553.2 t561).bind fun t564 => (if t564 = true then ((impl_WideMulWrap64.f a0_0 a0_1 a2).bind fun bt565 => ((laws_wideWhole.f a0_0 a0_1).bind fun t567 => ((laws_wideSmall.f a2).bind fun t570 => ((spec_Product.f k t567 t570).bind fun t573 => ((laws_wideIs.f k bt565.1 bt565.2 t573).bind fun t576 => (some t576)))))) else (some false))))))
theorem laws_FnWideMulWrap.mono : ∀ a0 a1 a2 a3 a4 k, LeO (laws_FnWideMulWrap.f k a0 a1 a2 a3 a4) (laws_FnWideMulWrap.f (k + 1) a0 a1 a2 a3 a4) := by
  intro a0 a1 a2 a3 a4 k
  unfold laws_FnWideMulWrap.f
  repeat' first
      | (with_reducible exact laws_wideIs.mono _ _ _ _)
      | (with_reducible exact spec_Product.mono _ _ _)
      | (with_reducible exact LeO.refl _)
      | (with_reducible exact LeO.none _)
      | (with_reducible refine LeO.ite ?_ ?_)
      | (with_reducible refine LeO.bind ?_ (fun _ => ?_))
      | exact laws_wideIs.mono _ _ _ _
      | exact spec_Product.mono _ _ _
      | exact LeO.none _
      | refine LeO.ite ?_ ?_
      | refine LeO.bind ?_ (fun _ => ?_)
def laws_FnWideMulWrap.T1 : Bool × List (List Nat × List Nat) := (true, [([], []), ([], []), ([0, 1], [0, 1]), ([], []), ([3, 2], [3]), ([], []), ([5, 4], [5]), ([4, 6, 6], [4, 6]), ([2, 7, 7], [2, 7]), ([8, 8], [8]), ([9], [9]), ([9], [9]), ([10, 11, 9, 9], [9, 10, 11]), ([9], [9]), ([13, 12, 9], [9, 13]), ([9], [9]), ([15, 14, 9], [9, 15]), ([14, 16, 16, 9], [9, 14, 16]), ([12, 17, 17, 9], [9, 12, 17]), ([9, 18], [9, 18]), ([19, 18, 0, 1, 2, 3, 4, 5, 6, 7, 8, 9, 10, 11, 12, 13, 14, 15, 16, 17, 18, 19], [19])])
def laws_FnWideMulWrap.B1 : List Nat := [0, 0, 3, 0, 15, 0, 63, 127, 255, 511, 1023, 1023, 4095, 1023, 16383, 1023, 65535, 131071, 262143, 524287, 1048575]
theorem laws_FnWideMulWrap.tab1 : rtab .any (opsOf Try.f18 1) = laws_FnWideMulWrap.T1 := by kernel_rfl
theorem laws_FnWideMulWrap.bits1 : waitsOk laws_FnWideMulWrap.T1.2 laws_FnWideMulWrap.B1 = true := by kernel_rfl
set_option maxHeartbeats 8000000 in
set_option maxRecDepth 100000 in
theorem laws_FnWideMulWrap.calls (k : Nat) (a0_0 : Int) (a0_1 : Int) (a1_0 : Int) (a1_1 : Int) (a2 : Int) (r : Bool) (w : World) (h : laws_FnWideMulWrap.f k a0_0 a0_1 a1_0 a1_1 a2 = some r) :
    Calls Try.prog 18 #[.agg #[.int .u64 a0_0, .int .u64 a0_1], .agg #[.int .u64 a1_0, .int .u64 a1_1], .int .u64 a2] w fun e w' => e = .returned (.bool r) ∧ Below w.heap.size w w' := by
  have hu24 := Try.underlying24
  have HB := Aside0.mk (Below.refl w.heap.size w)
  have H : ((impl_WideMulWrap.f a0_0 a0_1 a1_0 a1_1).bind fun bt553 => ((laws_wideWhole.f a0_0 a0_1).bind fun t555 => ((laws_wideWhole.f a1_0 a1_1).bind fun t558 => ((spec_Product.f k t555 t558).bind fun t561 => ((laws_wideIs.f k bt553.1 bt553.2 t561).bind fun t564 => (if t564 = true then ((impl_WideMulWrap64.f a0_0 a0_1 a2).bind fun bt565 => ((laws_wideWhole.f a0_0 a0_1).bind fun t567 => ((laws_wideSmall.f a2).bind fun t570 => ((spec_Product.f k t567 t570).bind fun t573 => ((laws_wideIs.f k bt565.1 bt565.2 t573).bind fun t576 => (some t576)))))) else (some false))))))) = some r := h
  clear h
  replace H := Option.bind_eq_some_iff.mp H
  obtain ⟨⟨t553, t554⟩, A40, H⟩ := H
  replace H : ((laws_wideWhole.f a0_0 a0_1).bind fun t555 => ((laws_wideWhole.f a1_0 a1_1).bind fun t558 => ((spec_Product.f k t555 t558).bind fun t561 => ((laws_wideIs.f k t553 t554 t561).bind fun t564 => (if t564 = true then ((impl_WideMulWrap64.f a0_0 a0_1 a2).bind fun bt565 => ((laws_wideWhole.f a0_0 a0_1).bind fun t567 => ((laws_wideSmall.f a2).bind fun t570 => ((spec_Product.f k t567 t570).bind fun t573 => ((laws_wideIs.f k bt565.1 bt565.2 t573).bind fun t576 => (some t576)))))) else (some false)))))) = some r := H
  have A4 := Aside0.mk A40
  clear A40
  replace H := Option.bind_eq_some_iff.mp H
  obtain ⟨t555, A50, H⟩ := H
  replace H : ((laws_wideWhole.f a1_0 a1_1).bind fun t558 => ((spec_Product.f k t555 t558).bind fun t561 => ((laws_wideIs.f k t553 t554 t561).bind fun t564 => (if t564 = true then ((impl_WideMulWrap64.f a0_0 a0_1 a2).bind fun bt565 => ((laws_wideWhole.f a0_0 a0_1).bind fun t567 => ((laws_wideSmall.f a2).bind fun t570 => ((spec_Product.f k t567 t570).bind fun t573 => ((laws_wideIs.f k bt565.1 bt565.2 t573).bind fun t576 => (some t576)))))) else (some false))))) = some r := H
  have A5 := Aside0.mk A50
  clear A50
  replace H := Option.bind_eq_some_iff.mp H
  obtain ⟨t558, A60, H⟩ := H
  replace H : ((spec_Product.f k t555 t558).bind fun t561 => ((laws_wideIs.f k t553 t554 t561).bind fun t564 => (if t564 = true then ((impl_WideMulWrap64.f a0_0 a0_1 a2).bind fun bt565 => ((laws_wideWhole.f a0_0 a0_1).bind fun t567 => ((laws_wideSmall.f a2).bind fun t570 => ((spec_Product.f k t567 t570).bind fun t573 => ((laws_wideIs.f k bt565.1 bt565.2 t573).bind fun t576 => (some t576)))))) else (some false)))) = some r := H
  have A6 := Aside0.mk A60
  clear A60
  replace H := Option.bind_eq_some_iff.mp H
  obtain ⟨t561, A70, H⟩ := H
  replace H : ((laws_wideIs.f k t553 t554 t561).bind fun t564 => (if t564 = true then ((impl_WideMulWrap64.f a0_0 a0_1 a2).bind fun bt565 => ((laws_wideWhole.f a0_0 a0_1).bind fun t567 => ((laws_wideSmall.f a2).bind fun t570 => ((spec_Product.f k t567 t570).bind fun t573 => ((laws_wideIs.f k bt565.1 bt565.2 t573).bind fun t576 => (some t576)))))) else (some false))) = some r := H
  have A7 := Aside0.mk A70
  clear A70
  replace H := Option.bind_eq_some_iff.mp H
  obtain ⟨t564, A80, H⟩ := H
  replace H : (if t564 = true then ((impl_WideMulWrap64.f a0_0 a0_1 a2).bind fun bt565 => ((laws_wideWhole.f a0_0 a0_1).bind fun t567 => ((laws_wideSmall.f a2).bind fun t570 => ((spec_Product.f k t567 t570).bind fun t573 => ((laws_wideIs.f k bt565.1 bt565.2 t573).bind fun t576 => (some t576)))))) else (some false)) = some r := H
  have A8 := Aside0.mk A80
  clear A80
  by_cases c9 : t564 = true
  · subst c9
    have H1 : ((impl_WideMulWrap64.f a0_0 a0_1 a2).bind fun bt565 => ((laws_wideWhole.f a0_0 a0_1).bind fun t567 => ((laws_wideSmall.f a2).bind fun t570 => ((spec_Product.f k t567 t570).bind fun t573 => ((laws_wideIs.f k bt565.1 bt565.2 t573).bind fun t576 => (some t576)))))) = some r := by rw [if_pos rfl] at H; exact H
    clear H
    have H := H1
    clear H1
    replace H := Option.bind_eq_some_iff.mp H
    obtain ⟨⟨t565, t566⟩, A100, H⟩ := H
    replace H : ((laws_wideWhole.f a0_0 a0_1).bind fun t567 => ((laws_wideSmall.f a2).bind fun t570 => ((spec_Product.f k t567 t570).bind fun t573 => ((laws_wideIs.f k t565 t566 t573).bind fun t576 => (some t576))))) = some r := H
    have A10 := Aside0.mk A100
    clear A100
    replace H := Option.bind_eq_some_iff.mp H
    obtain ⟨t567, A110, H⟩ := H
    replace H : ((laws_wideSmall.f a2).bind fun t570 => ((spec_Product.f k t567 t570).bind fun t573 => ((laws_wideIs.f k t565 t566 t573).bind fun t576 => (some t576)))) = some r := H
    have A11 := Aside0.mk A110
    clear A110
    replace H := Option.bind_eq_some_iff.mp H
    obtain ⟨t570, A120, H⟩ := H
    replace H : ((spec_Product.f k t567 t570).bind fun t573 => ((laws_wideIs.f k t565 t566 t573).bind fun t576 => (some t576))) = some r := H
    have A12 := Aside0.mk A120
    clear A120
    replace H := Option.bind_eq_some_iff.mp H
    obtain ⟨t573, A130, H⟩ := H
    replace H : ((laws_wideIs.f k t565 t566 t573).bind fun t576 => (some t576)) = some r := H
    have A13 := Aside0.mk A130
    clear A130
    replace H := Option.bind_eq_some_iff.mp H
    obtain ⟨t576, A140, H⟩ := H
    replace H : (some t576) = some r := H
    have A14 := Aside0.mk A140
    clear A140
    obtain rfl := Option.some.inj H
    go_enter Try.func18, Try.ntmps18
    try go_wp2_with (first | ((with_reducible refine gate_dst (N := 3) rfl ?_); refine box_event ?hg (N := 3) ?hd (cs := #[.int .u64 a0_0, .int .u64 a0_1]) (t := 24) ?hr ?_; (case hd => rfl); (case hg => rfl); (case hr => first | (go_simp; done) | (go_simp; rfl)); intro gb551 hg w15 hbox hb; have n0_ := Aside0.mk (below_step (by repeat (first | (with_reducible first | exact HB.out | apply below_alloc | apply pw_below_drewN | apply below_drew1) | exact HB.out)) hb); have n1_ := Aside0.mk (hbox); have n2_ := Aside0.mk ((by rw [hg]; exact (below_size (by repeat (first | (with_reducible first | exact HB.out | apply below_alloc | apply pw_below_drewN | apply below_drew1) | exact HB.out))) : w.heap.size ≤ gb551)); have n3_ := Aside0.mk ((by rw [hg]; exact (below_size (by repeat (first | (with_reducible first | exact HB.out | apply below_alloc | apply pw_below_drewN | apply below_drew1) | exact HB.out))) : w.heap.size ≤ gb551)); clear HB; have HB := n0_; have BK551 := n1_; have GW551 := n2_; have GE551 := n3_; clear n0_ n1_ n2_ n3_; clear hb hbox hg) | ((with_reducible refine gate_dst (N := 4) rfl ?_); refine box_event ?hg (N := 4) ?hd (cs := #[.int .u64 a1_0, .int .u64 a1_1]) (t := 24) ?hr ?_; (case hd => rfl); (case hg => rfl); (case hr => first | (go_simp; done) | (go_simp; rfl)); intro gb552 hg w16 hbox hb; have n0_ := Aside0.mk (blk_below (g := gb551) (o := .cells #[.int .u64 a0_0, .int .u64 a0_1] 24 (0, 0)) (by (with_reducible repeat (first | refine blk_drewN ?_ _ | refine blk_drew ?_ | refine blk_alloc ?_ _)); exact BK551.out) hb); have n1_ := Aside0.mk (below_step (by repeat (first | (with_reducible first | exact HB.out | apply below_alloc | apply pw_below_drewN | apply below_drew1 | refine below_set ?_ GE551.out) | exact HB.out)) hb); have n2_ := Aside0.mk (hbox); have n3_ := Aside0.mk ((by rw [hg]; exact (below_size (by repeat (first | (with_reducible first | exact HB.out | apply below_alloc | apply pw_below_drewN | apply below_drew1 | refine below_set ?_ GE551.out) | exact HB.out))) : w.heap.size ≤ gb552)); have n4_ := Aside0.mk ((by rw [hg]; exact (below_size (by repeat (first | (with_reducible first | exact HB.out | apply below_alloc | apply pw_below_drewN | apply below_drew1 | refine below_set ?_ GE551.out) | exact HB.out))) : w.heap.size ≤ gb552)); have n5_ := Aside0.mk ((by rw [hg]; exact Nat.ne_of_lt (blk_lt (g := gb551) (o := .cells #[.int .u64 a0_0, .int .u64 a0_1] 24 (0, 0)) (by (with_reducible repeat (first | refine blk_drewN ?_ _ | refine blk_drew ?_ | refine blk_alloc ?_ _)); exact BK551.out)) : gb551 ≠ gb552)); have n6_ := Aside0.mk ((by rw [hg]; exact Nat.ne_of_gt (blk_lt (g := gb551) (o := .cells #[.int .u64 a0_0, .int .u64 a0_1] 24 (0, 0)) (by (with_reducible repeat (first | refine blk_drewN ?_ _ | refine blk_drew ?_ | refine blk_alloc ?_ _)); exact BK551.out)) : gb552 ≠ gb551)); clear BK551; clear HB; have BK551 := n0_; have HB := n1_; have BK552 := n2_; have GW552 := n3_; have GE552 := n4_; have NB551_552 := n5_; have NB552_551 := n6_; clear n0_ n1_ n2_ n3_ n4_ n5_ n6_; clear hb hbox hg))
    have n0_ := Aside0.mk (blk_drew BK551.out)
    have n1_ := Aside0.mk (blk_drew BK552.out)
    have n2_ := Aside0.mk (below_drew1 HB.out)
    clear BK551
    clear BK552
    clear HB
    have BK551 := n0_
    have BK552 := n1_
    have HB := n2_
    clear n0_ n1_ n2_
    refine start_ (n := 21) (S := fun w' => w'.cell? ⟨gb551, 0, none⟩ = some (.int .u64 a0_0) ∧ w'.cell? ⟨gb551, 1, none⟩ = some (.int .u64 a0_1) ∧ w'.cell? ⟨gb552, 0, none⟩ = some (.int .u64 a1_0) ∧ w'.cell? ⟨gb552, 1, none⟩ = some (.int .u64 a1_1)) (ds := []) #[false, false, false, false, false, false, false, false, false, false, false, false, false, false, false, false, false, false, false, false, false] (by kernel_rfl) rfl rfl ⟨(blk_cell BK551.out 0).trans rfl, (blk_cell BK551.out 1).trans rfl, (blk_cell BK552.out 0).trans rfl, (blk_cell BK552.out 1).trans rfl⟩ (fun hHeld => ?_); refine with_tabW laws_FnWideMulWrap.tab1 laws_FnWideMulWrap.bits1 (fun HT_ HW_ => ?_)
    generalize w16.drew = w17 at BK551 BK552 HB hHeld ⊢
    refine take_ (i := 0) (N := some 7) (v := ?_) (a' := ?_) #[true, false, false, false, false, false, false, false, false, false, false, false, false, false, false, false, false, false, false, false, false] rfl rfl (take_ofW HT_.out HW_.out (by kernel_rfl)) (fun _ _ _ h => h) (Or.inl ⟨by rfl, ?_⟩) hHeld ?_ ?_
    rotate_left
    · rintro w' ⟨s0, s1, s2, s3⟩
      go_simp
      with_reducible rfl
    rotate_left
    · simp only [Act.put, List.setIfInBounds_toArray, List.set_cons_zero, List.set_cons_succ, i64_w, i32_w]
      rfl
    refine take_ (i := 1) (N := some 8) (v := ?_) (a' := ?_) #[true, true, false, false, false, false, false, false, false, false, false, false, false, false, false, false, false, false, false, false, false] rfl rfl (take_ofW HT_.out HW_.out (by kernel_rfl)) (fun _ _ _ h => h) (Or.inl ⟨by rfl, ?_⟩) hHeld ?_ ?_
    rotate_left
    · rintro w' ⟨s0, s1, s2, s3⟩
      go_simp
      with_reducible rfl
    rotate_left
    · simp only [Act.put, List.setIfInBounds_toArray, List.set_cons_zero, List.set_cons_succ, i64_w, i32_w]
      rfl
    refine take_ (i := 3) (N := some 10) (v := ?_) (a' := ?_) #[true, true, false, true, false, false, false, false, false, false, false, false, false, false, false, false, false, false, false, false, false] rfl rfl (take_ofW HT_.out HW_.out (by kernel_rfl)) (fun _ _ _ h => h) (Or.inl ⟨by rfl, ?_⟩) hHeld ?_ ?_
    rotate_left
    · rintro w' ⟨s0, s1, s2, s3⟩
      go_simp
      with_reducible rfl
    rotate_left
    · simp only [Act.put, List.setIfInBounds_toArray, List.set_cons_zero, List.set_cons_succ, i64_w, i32_w]
      rfl
    refine take_ (i := 5) (N := some 12) (v := ?_) (a' := ?_) #[true, true, false, true, false, true, false, false, false, false, false, false, false, false, false, false, false, false, false, false, false] rfl rfl (take_ofW HT_.out HW_.out (by kernel_rfl)) (fun _ _ _ h => h) (Or.inl ⟨by rfl, ?_⟩) hHeld ?_ ?_
    rotate_left
    · rintro w' ⟨s0, s1, s2, s3⟩
      go_simp
      with_reducible rfl
    rotate_left
    · simp only [Act.put, List.setIfInBounds_toArray, List.set_cons_zero, List.set_cons_succ, i64_w, i32_w]
      rfl
    refine one_ (i := 2) (N := some 9) #[true, true, true, true, false, true, false, false, false, false, false, false, false, false, false, false, false, false, false, false, false] rfl rfl (one_of HT_.out (by kernel_rfl)) (by decide) (fun K hK => ?_)
    refine goes_ Try.func65 (by kernel_rfl) rfl #[.agg #[.int .u64 a0_0, .int .u64 a0_1], .agg #[.int .u64 a1_0, .int .u64 a1_1]] (by rfl) rfl rfl (by (try simp only [List.map_toArray, List.map_cons, List.map_nil]); first | done | rfl | (simp only [List.length_drop, List.length_take]; rfl)) ?_
    with_reducible refine (impl_WideMulWrap.calls a0_0 a0_1 a1_0 a1_1 t553 t554 _ A4.out).mono ?_
    rintro e w18 ⟨rfl, hb⟩
    refine ⟨_, rfl, ?_⟩
    have n0_ := Aside0.mk (blk_below (g := gb551) (o := .cells #[.int .u64 a0_0, .int .u64 a0_1] 24 (0, 0)) (by (with_reducible repeat (first | refine blk_drewN ?_ _ | refine blk_drew ?_ | refine blk_alloc ?_ _)); exact BK551.out) hb)
    have n1_ := Aside0.mk (blk_below (g := gb552) (o := .cells #[.int .u64 a1_0, .int .u64 a1_1] 24 (0, 0)) (by (with_reducible repeat (first | refine blk_drewN ?_ _ | refine blk_drew ?_ | refine blk_alloc ?_ _)); exact BK552.out) hb)
    have n2_ := Aside0.mk (below_step (by repeat (first | (with_reducible first | exact HB.out | apply below_alloc | apply pw_below_drewN | apply below_drew1 | refine below_set ?_ GE551.out | refine below_set ?_ GE552.out) | exact HB.out)) hb)
    clear BK551
    clear BK552
    clear HB
    have BK551 := n0_
    have BK552 := n1_
    have HB := n2_
    clear n0_ n1_ n2_
    (try clear hb)
    (try clear hb2)
    (try clear hk)
    (try clear hi)
    refine hK.out _ _ ⟨(blk_cell BK551.out 0).trans rfl, (blk_cell BK551.out 1).trans rfl, (blk_cell BK552.out 0).trans rfl, (blk_cell BK552.out 1).trans rfl⟩ (fun hHeld => ?_)
    clear hK K
    refine norm_ (a' := ?_) ?_ ?_
    rotate_left
    · show Act.put _ (some 9) _ = _
      simp only [Act.put, List.setIfInBounds_toArray, List.set_cons_zero, List.set_cons_succ, i64_w, i32_w]
      rfl
    refine one_ (i := 4) (N := some 11) #[true, true, true, true, true, true, false, false, false, false, false, false, false, false, false, false, false, false, false, false, false] rfl rfl (one_of HT_.out (by kernel_rfl)) (by decide) (fun K hK => ?_)
    refine goes_ Try.func25 (by kernel_rfl) rfl #[.agg #[.int .u64 a0_0, .int .u64 a0_1]] (by rfl) rfl rfl (by (try simp only [List.map_toArray, List.map_cons, List.map_nil]); first | done | rfl | (simp only [List.length_drop, List.length_take]; rfl)) ?_
    with_reducible refine (laws_wideWhole.calls a0_0 a0_1 t555 _ A5.out).mono ?_
    rintro e w19 ⟨v556, rfl, ho0, hb⟩
    refine ⟨_, rfl, ?_⟩
    have n0_ := Aside0.mk (Kd.V_lower (Kd.V_mono (ok' := fun k_ => k_ ≠ gb551 ∧ k_ ≠ gb552) ho0 (fun k_ hk_ => ⟨(Kd.freshB (g := gb551) (o := .cells #[.int .u64 a0_0, .int .u64 a0_1] 24 (0, 0)) (by (with_reducible repeat (first | refine blk_drewN ?_ _ | refine blk_drew ?_ | refine blk_alloc ?_ _)); exact BK551.out) k_ hk_), (Kd.freshB (g := gb552) (o := .cells #[.int .u64 a1_0, .int .u64 a1_1] 24 (0, 0)) (by (with_reducible repeat (first | refine blk_drewN ?_ _ | refine blk_drew ?_ | refine blk_alloc ?_ _)); exact BK552.out) k_ hk_)⟩)) (below_size (by repeat (first | (with_reducible first | exact HB.out | apply below_alloc | apply pw_below_drewN | apply below_drew1 | refine below_set ?_ GE551.out | refine below_set ?_ GE552.out) | exact HB.out))))
    have n1_ := Aside0.mk (blk_below (g := gb551) (o := .cells #[.int .u64 a0_0, .int .u64 a0_1] 24 (0, 0)) (by (with_reducible repeat (first | refine blk_drewN ?_ _ | refine blk_drew ?_ | refine blk_alloc ?_ _)); exact BK551.out) hb)
    have n2_ := Aside0.mk (blk_below (g := gb552) (o := .cells #[.int .u64 a1_0, .int .u64 a1_1] 24 (0, 0)) (by (with_reducible repeat (first | refine blk_drewN ?_ _ | refine blk_drew ?_ | refine blk_alloc ?_ _)); exact BK552.out) hb)
    have n3_ := Aside0.mk (below_step (by repeat (first | (with_reducible first | exact HB.out | apply below_alloc | apply pw_below_drewN | apply below_drew1 | refine below_set ?_ GE551.out | refine below_set ?_ GE552.out) | exact HB.out)) hb)
    clear BK551
    clear BK552
    clear HB
    have HO557 := n0_
    have BK551 := n1_
    have BK552 := n2_
    have HB := n3_
    clear n0_ n1_ n2_ n3_
    (try clear hb)
    (try clear hb2)
    (try clear hk)
    (try clear hi)
    (try clear ho0)
    refine hK.out _ _ ⟨(blk_cell BK551.out 0).trans rfl, (blk_cell BK551.out 1).trans rfl, (blk_cell BK552.out 0).trans rfl, (blk_cell BK552.out 1).trans rfl⟩ (fun hHeld => ?_)
    clear hK K
    refine norm_ (a' := ?_) ?_ ?_
    rotate_left
    · show Act.put _ (some 11) _ = _
      simp only [Act.put, List.setIfInBounds_toArray, List.set_cons_zero, List.set_cons_succ, i64_w, i32_w]
      rfl
    refine one_ (i := 6) (N := some 13) #[true, true, true, true, true, true, true, false, false, false, false, false, false, false, false, false, false, false, false, false, false] rfl rfl (one_of HT_.out (by kernel_rfl)) (by decide) (fun K hK => ?_)
    refine goes_ Try.func25 (by kernel_rfl) rfl #[.agg #[.int .u64 a1_0, .int .u64 a1_1]] (by rfl) rfl rfl (by (try simp only [List.map_toArray, List.map_cons, List.map_nil]); first | done | rfl | (simp only [List.length_drop, List.length_take]; rfl)) ?_
    with_reducible refine (laws_wideWhole.calls a1_0 a1_1 t558 _ A6.out).mono ?_
    rintro e w20 ⟨v559, rfl, ho0, hb⟩
    refine ⟨_, rfl, ?_⟩
    have n0_ := Aside0.mk (Kd.V_below (by (with_reducible repeat (first | apply Kd.V_alloc | apply Kd.V_drewN | apply Kd.V_drew)); exact HO557.out) hb)
    have n1_ := Aside0.mk (Kd.V_lower (Kd.V_mono (ok' := fun k_ => k_ ≠ gb551 ∧ k_ ≠ gb552) ho0 (fun k_ hk_ => ⟨(Kd.freshB (g := gb551) (o := .cells #[.int .u64 a0_0, .int .u64 a0_1] 24 (0, 0)) (by (with_reducible repeat (first | refine blk_drewN ?_ _ | refine blk_drew ?_ | refine blk_alloc ?_ _)); exact BK551.out) k_ hk_), (Kd.freshB (g := gb552) (o := .cells #[.int .u64 a1_0, .int .u64 a1_1] 24 (0, 0)) (by (with_reducible repeat (first | refine blk_drewN ?_ _ | refine blk_drew ?_ | refine blk_alloc ?_ _)); exact BK552.out) k_ hk_)⟩)) (below_size (by repeat (first | (with_reducible first | exact HB.out | apply below_alloc | apply pw_below_drewN | apply below_drew1 | refine below_set ?_ GE551.out | refine below_set ?_ GE552.out) | exact HB.out))))
    have n2_ := Aside0.mk (blk_below (g := gb551) (o := .cells #[.int .u64 a0_0, .int .u64 a0_1] 24 (0, 0)) (by (with_reducible repeat (first | refine blk_drewN ?_ _ | refine blk_drew ?_ | refine blk_alloc ?_ _)); exact BK551.out) hb)
    have n3_ := Aside0.mk (blk_below (g := gb552) (o := .cells #[.int .u64 a1_0, .int .u64 a1_1] 24 (0, 0)) (by (with_reducible repeat (first | refine blk_drewN ?_ _ | refine blk_drew ?_ | refine blk_alloc ?_ _)); exact BK552.out) hb)
    have n4_ := Aside0.mk (below_step (by repeat (first | (with_reducible first | exact HB.out | apply below_alloc | apply pw_below_drewN | apply below_drew1 | refine below_set ?_ GE551.out | refine below_set ?_ GE552.out) | exact HB.out)) hb)
    clear HO557
    clear BK551
    clear BK552
    clear HB
    have HO557 := n0_
    have HO560 := n1_
    have BK551 := n2_
    have BK552 := n3_
    have HB := n4_
    clear n0_ n1_ n2_ n3_ n4_
    (try clear hb)
    (try clear hb2)
    (try clear hk)
    (try clear hi)
    (try clear ho0)
    obtain ⟨Ao21, co21, eo21⟩ := Kd.V_slice HO557.out
    (first | subst eo21 | (injection eo21 with f1_ f2_ f3_; have f4_ := f1_.symm; have f5_ := f3_.symm; clear f1_ f2_ f3_; subst f4_; subst f5_))
    obtain ⟨Ao22, co22, eo22⟩ := Kd.V_slice HO560.out
    (first | subst eo22 | (injection eo22 with f1_ f2_ f3_; have f4_ := f1_.symm; have f5_ := f3_.symm; clear f1_ f2_ f3_; subst f4_; subst f5_))
    refine hK.out _ _ ⟨(blk_cell BK551.out 0).trans rfl, (blk_cell BK551.out 1).trans rfl, (blk_cell BK552.out 0).trans rfl, (blk_cell BK552.out 1).trans rfl⟩ (fun hHeld => ?_)
    clear hK K
    refine norm_ (a' := ?_) ?_ ?_
    rotate_left
    · show Act.put _ (some 13) _ = _
      simp only [Act.put, List.setIfInBounds_toArray, List.set_cons_zero, List.set_cons_succ, i64_w, i32_w]
      rfl
    refine one_ (i := 7) (N := some 14) #[true, true, true, true, true, true, true, true, false, false, false, false, false, false, false, false, false, false, false, false, false] rfl rfl (one_of HT_.out (by kernel_rfl)) (by decide) (fun K hK => ?_)
    refine goes_ Try.func66 (by kernel_rfl) rfl #[.slice Ao21 t555.length co21, .slice Ao22 t558.length co22] (by rfl) rfl rfl (by (try simp only [List.map_toArray, List.map_cons, List.map_nil]); first | done | rfl | (simp only [List.length_drop, List.length_take]; rfl)) ?_
    with_reducible refine (spec_Product.calls k _ _ t555 _ _ t558 t561 _ ?side1 ?side2 ?side3 ?side4 A7.out).mono ?_
    (case side1 => repeat (first | exact (Kd.V_reads' HO557.out).2.2 | (with_reducible refine Kd.C_alloc ?_ _) | (with_reducible refine Kd.C_drewN ?_ _) | (with_reducible refine Kd.C_drew ?_)))
    (case side2 => exact (Kd.V_reads' HO557.out).2.1)
    (case side3 => repeat (first | exact (Kd.V_reads' HO560.out).2.2 | (with_reducible refine Kd.C_alloc ?_ _) | (with_reducible refine Kd.C_drewN ?_ _) | (with_reducible refine Kd.C_drew ?_)))
    (case side4 => exact (Kd.V_reads' HO560.out).2.1)
    rintro e w23 ⟨v562, rfl, ho0, hb⟩
    refine ⟨_, rfl, ?_⟩
    have n0_ := Aside0.mk (Kd.V_below (by (with_reducible repeat (first | apply Kd.V_alloc | apply Kd.V_drewN | apply Kd.V_drew)); exact HO557.out) hb)
    have n1_ := Aside0.mk (Kd.V_below (by (with_reducible repeat (first | apply Kd.V_alloc | apply Kd.V_drewN | apply Kd.V_drew)); exact HO560.out) hb)
    have n2_ := Aside0.mk (Kd.V_lower (Kd.V_mono (ok' := fun k_ => k_ ≠ gb551 ∧ k_ ≠ gb552) ho0 (fun k_ hk_ => ⟨(Kd.freshB (g := gb551) (o := .cells #[.int .u64 a0_0, .int .u64 a0_1] 24 (0, 0)) (by (with_reducible repeat (first | refine blk_drewN ?_ _ | refine blk_drew ?_ | refine blk_alloc ?_ _)); exact BK551.out) k_ hk_), (Kd.freshB (g := gb552) (o := .cells #[.int .u64 a1_0, .int .u64 a1_1] 24 (0, 0)) (by (with_reducible repeat (first | refine blk_drewN ?_ _ | refine blk_drew ?_ | refine blk_alloc ?_ _)); exact BK552.out) k_ hk_)⟩)) (below_size (by repeat (first | (with_reducible first | exact HB.out | apply below_alloc | apply pw_below_drewN | apply below_drew1 | refine below_set ?_ GE551.out | refine below_set ?_ GE552.out) | exact HB.out))))
    have n3_ := Aside0.mk (blk_below (g := gb551) (o := .cells #[.int .u64 a0_0, .int .u64 a0_1] 24 (0, 0)) (by (with_reducible repeat (first | refine blk_drewN ?_ _ | refine blk_drew ?_ | refine blk_alloc ?_ _)); exact BK551.out) hb)
    have n4_ := Aside0.mk (blk_below (g := gb552) (o := .cells #[.int .u64 a1_0, .int .u64 a1_1] 24 (0, 0)) (by (with_reducible repeat (first | refine blk_drewN ?_ _ | refine blk_drew ?_ | refine blk_alloc ?_ _)); exact BK552.out) hb)
    have n5_ := Aside0.mk (below_step (by repeat (first | (with_reducible first | exact HB.out | apply below_alloc | apply pw_below_drewN | apply below_drew1 | refine below_set ?_ GE551.out | refine below_set ?_ GE552.out) | exact HB.out)) hb)
    clear HO557
    clear HO560
    clear BK551
    clear BK552
    clear HB
    have HO557 := n0_
    have HO560 := n1_
    have HO563 := n2_
    have BK551 := n3_
    have BK552 := n4_
    have HB := n5_
    clear n0_ n1_ n2_ n3_ n4_ n5_
    (try clear hb)
    (try clear hb2)
    (try clear hk)
    (try clear hi)
    (try clear ho0)
    obtain ⟨Ao24, co24, eo24⟩ := Kd.V_slice HO563.out
    (first | subst eo24 | (injection eo24 with f1_ f2_ f3_; have f4_ := f1_.symm; have f5_ := f3_.symm; clear f1_ f2_ f3_; subst f4_; subst f5_))
    refine hK.out _ _ ⟨(blk_cell BK551.out 0).trans rfl, (blk_cell BK551.out 1).trans rfl, (blk_cell BK552.out 0).trans rfl, (blk_cell BK552.out 1).trans rfl⟩ (fun hHeld => ?_)
    clear hK K
    refine norm_ (a' := ?_) ?_ ?_
    rotate_left
    · show Act.put _ (some 14) _ = _
      simp only [Act.put, List.setIfInBounds_toArray, List.set_cons_zero, List.set_cons_succ, i64_w, i32_w]
      rfl
    refine one_ (i := 8) (N := some 15) #[true, true, true, true, true, true, true, true, true, false, false, false, false, false, false, false, false, false, false, false, false] rfl rfl (one_of HT_.out (by kernel_rfl)) (by decide) (fun K hK => ?_)
    refine goes_ Try.func27 (by kernel_rfl) rfl #[.agg #[.int .u64 t553, .int .u64 t554], .slice Ao24 t561.length co24] (by rfl) rfl rfl (by (try simp only [List.map_toArray, List.map_cons, List.map_nil]); first | done | rfl | (simp only [List.length_drop, List.length_take]; rfl)) ?_
    with_reducible refine (laws_wideIs.calls k t553 t554 _ _ t561 true _ ?side1 ?side2 A8.out).mono ?_
    (case side1 => repeat (first | exact (Kd.V_reads' HO563.out).2.2 | (with_reducible refine Kd.C_alloc ?_ _) | (with_reducible refine Kd.C_drewN ?_ _) | (with_reducible refine Kd.C_drew ?_)))
    (case side2 => exact (Kd.V_reads' HO563.out).2.1)
    rintro e w25 ⟨rfl, hb⟩
    refine ⟨_, rfl, ?_⟩
    have n0_ := Aside0.mk (Kd.V_below (by (with_reducible repeat (first | apply Kd.V_alloc | apply Kd.V_drewN | apply Kd.V_drew)); exact HO557.out) hb)
    have n1_ := Aside0.mk (Kd.V_below (by (with_reducible repeat (first | apply Kd.V_alloc | apply Kd.V_drewN | apply Kd.V_drew)); exact HO560.out) hb)
    have n2_ := Aside0.mk (Kd.V_below (by (with_reducible repeat (first | apply Kd.V_alloc | apply Kd.V_drewN | apply Kd.V_drew)); exact HO563.out) hb)
    have n3_ := Aside0.mk (blk_below (g := gb551) (o := .cells #[.int .u64 a0_0, .int .u64 a0_1] 24 (0, 0)) (by (with_reducible repeat (first | refine blk_drewN ?_ _ | refine blk_drew ?_ | refine blk_alloc ?_ _)); exact BK551.out) hb)
    have n4_ := Aside0.mk (blk_below (g := gb552) (o := .cells #[.int .u64 a1_0, .int .u64 a1_1] 24 (0, 0)) (by (with_reducible repeat (first | refine blk_drewN ?_ _ | refine blk_drew ?_ | refine blk_alloc ?_ _)); exact BK552.out) hb)
    have n5_ := Aside0.mk (below_step (by repeat (first | (with_reducible first | exact HB.out | apply below_alloc | apply pw_below_drewN | apply below_drew1 | refine below_set ?_ GE551.out | refine below_set ?_ GE552.out) | exact HB.out)) hb)
    clear HO557
    clear HO560
    clear HO563
    clear BK551
    clear BK552
    clear HB
    have HO557 := n0_
    have HO560 := n1_
    have HO563 := n2_
    have BK551 := n3_
    have BK552 := n4_
    have HB := n5_
    clear n0_ n1_ n2_ n3_ n4_ n5_
    (try clear hb)
    (try clear hb2)
    (try clear hk)
    (try clear hi)
    refine hK.out _ _ ⟨(blk_cell BK551.out 0).trans rfl, (blk_cell BK551.out 1).trans rfl, (blk_cell BK552.out 0).trans rfl, (blk_cell BK552.out 1).trans rfl⟩ (fun hHeld => ?_)
    clear hK K
    refine norm_ (a' := ?_) ?_ ?_
    rotate_left
    · show Act.put _ (some 15) _ = _
      simp only [Act.put, List.setIfInBounds_toArray, List.set_cons_zero, List.set_cons_succ, i64_w, i32_w]
      rfl
    refine pure_ (i := 9) (N := some 16) (v := ?_) (a' := ?_) #[true, true, true, true, true, true, true, true, true, true, false, false, false, false, false, false, false, false, false, false, false] rfl rfl (any_of HT_.out (by kernel_rfl)) (fun _ _ _ h => h) (Or.inl ⟨by rfl, ?_⟩) ?_ ?_
    rotate_left
    · intro w'
      go_simp
      with_reducible rfl
    rotate_left
    · simp only [Act.put, List.setIfInBounds_toArray, List.set_cons_zero, List.set_cons_succ, i64_w, i32_w]
      rfl
    refine pure_ (i := 11) (N := some 18) (v := ?_) (a' := ?_) #[true, true, true, true, true, true, true, true, true, true, false, true, false, false, false, false, false, false, false, false, false] rfl rfl (any_of HT_.out (by kernel_rfl)) (fun _ _ _ h => h) (Or.inl ⟨by rfl, ?_⟩) ?_ ?_
    rotate_left
    · intro w'
      go_simp
      with_reducible rfl
    rotate_left
    · simp only [Act.put, List.setIfInBounds_toArray, List.set_cons_zero, List.set_cons_succ, i64_w, i32_w]
      rfl
    refine pure_ (i := 15) (N := some 22) (v := ?_) (a' := ?_) #[true, true, true, true, true, true, true, true, true, true, false, true, false, false, false, true, false, false, false, false, false] rfl rfl (any_of HT_.out (by kernel_rfl)) (fun _ _ _ h => h) (Or.inl ⟨by rfl, ?_⟩) ?_ ?_
    rotate_left
    · intro w'
      go_simp
      with_reducible rfl
    rotate_left
    · simp only [Act.put, List.setIfInBounds_toArray, List.set_cons_zero, List.set_cons_succ, i64_w, i32_w]
      rfl
    refine take_ (i := 10) (N := some 17) (v := ?_) (a' := ?_) #[true, true, true, true, true, true, true, true, true, true, true, true, false, false, false, true, false, false, false, false, false] rfl rfl (take_ofW HT_.out HW_.out (by kernel_rfl)) (fun _ _ _ h => h) (Or.inl ⟨by rfl, ?_⟩) hHeld ?_ ?_
    rotate_left
    · rintro w' ⟨s0, s1, s2, s3⟩
      go_simp
      with_reducible rfl
    rotate_left
    · simp only [Act.put, List.setIfInBounds_toArray, List.set_cons_zero, List.set_cons_succ, i64_w, i32_w]
      rfl
    refine take_ (i := 13) (N := some 20) (v := ?_) (a' := ?_) #[true, true, true, true, true, true, true, true, true, true, true, true, false, true, false, true, false, false, false, false, false] rfl rfl (take_ofW HT_.out HW_.out (by kernel_rfl)) (fun _ _ _ h => h) (Or.inl ⟨by rfl, ?_⟩) hHeld ?_ ?_
    rotate_left
    · rintro w' ⟨s0, s1, s2, s3⟩
      go_simp
      with_reducible rfl
    rotate_left
    · simp only [Act.put, List.setIfInBounds_toArray, List.set_cons_zero, List.set_cons_succ, i64_w, i32_w]
      rfl
    refine one_ (i := 12) (N := some 19) #[true, true, true, true, true, true, true, true, true, true, true, true, true, true, false, true, false, false, false, false, false] rfl rfl (one_of HT_.out (by kernel_rfl)) (by decide) (fun K hK => ?_)
    refine goes_ Try.func67 (by kernel_rfl) rfl #[.agg #[.int .u64 a0_0, .int .u64 a0_1], .int .u64 a2] (by rfl) rfl rfl (by (try simp only [List.map_toArray, List.map_cons, List.map_nil]); first | done | rfl | (simp only [List.length_drop, List.length_take]; rfl)) ?_
    with_reducible refine (impl_WideMulWrap64.calls a0_0 a0_1 a2 t565 t566 _ A10.out).mono ?_
    rintro e w26 ⟨rfl, hb⟩
    refine ⟨_, rfl, ?_⟩
    have n0_ := Aside0.mk (Kd.V_below (by (with_reducible repeat (first | apply Kd.V_alloc | apply Kd.V_drewN | apply Kd.V_drew)); exact HO557.out) hb)
    have n1_ := Aside0.mk (Kd.V_below (by (with_reducible repeat (first | apply Kd.V_alloc | apply Kd.V_drewN | apply Kd.V_drew)); exact HO560.out) hb)
    have n2_ := Aside0.mk (Kd.V_below (by (with_reducible repeat (first | apply Kd.V_alloc | apply Kd.V_drewN | apply Kd.V_drew)); exact HO563.out) hb)
    have n3_ := Aside0.mk (blk_below (g := gb551) (o := .cells #[.int .u64 a0_0, .int .u64 a0_1] 24 (0, 0)) (by (with_reducible repeat (first | refine blk_drewN ?_ _ | refine blk_drew ?_ | refine blk_alloc ?_ _)); exact BK551.out) hb)
    have n4_ := Aside0.mk (blk_below (g := gb552) (o := .cells #[.int .u64 a1_0, .int .u64 a1_1] 24 (0, 0)) (by (with_reducible repeat (first | refine blk_drewN ?_ _ | refine blk_drew ?_ | refine blk_alloc ?_ _)); exact BK552.out) hb)
    have n5_ := Aside0.mk (below_step (by repeat (first | (with_reducible first | exact HB.out | apply below_alloc | apply pw_below_drewN | apply below_drew1 | refine below_set ?_ GE551.out | refine below_set ?_ GE552.out) | exact HB.out)) hb)
    clear HO557
    clear HO560
    clear HO563
    clear BK551
    clear BK552
    clear HB
    have HO557 := n0_
    have HO560 := n1_
    have HO563 := n2_
    have BK551 := n3_
    have BK552 := n4_
    have HB := n5_
    clear n0_ n1_ n2_ n3_ n4_ n5_
    (try clear hb)
    (try clear hb2)
    (try clear hk)
    (try clear hi)
    refine hK.out _ _ ⟨(blk_cell BK551.out 0).trans rfl, (blk_cell BK551.out 1).trans rfl, (blk_cell BK552.out 0).trans rfl, (blk_cell BK552.out 1).trans rfl⟩ (fun hHeld => ?_)
    clear hK K
    refine norm_ (a' := ?_) ?_ ?_
    rotate_left
    · show Act.put _ (some 19) _ = _
      simp only [Act.put, List.setIfInBounds_toArray, List.set_cons_zero, List.set_cons_succ, i64_w, i32_w]
      rfl
    refine one_ (i := 14) (N := some 21) #[true, true, true, true, true, true, true, true, true, true, true, true, true, true, true, true, false, false, false, false, false] rfl rfl (one_of HT_.out (by kernel_rfl)) (by decide) (fun K hK => ?_)
    refine goes_ Try.func25 (by kernel_rfl) rfl #[.agg #[.int .u64 a0_0, .int .u64 a0_1]] (by rfl) rfl rfl (by (try simp only [List.map_toArray, List.map_cons, List.map_nil]); first | done | rfl | (simp only [List.length_drop, List.length_take]; rfl)) ?_
    with_reducible refine (laws_wideWhole.calls a0_0 a0_1 t567 _ A11.out).mono ?_
    rintro e w27 ⟨v568, rfl, ho0, hb⟩
    refine ⟨_, rfl, ?_⟩
    have n0_ := Aside0.mk (Kd.V_below (by (with_reducible repeat (first | apply Kd.V_alloc | apply Kd.V_drewN | apply Kd.V_drew)); exact HO557.out) hb)
    have n1_ := Aside0.mk (Kd.V_below (by (with_reducible repeat (first | apply Kd.V_alloc | apply Kd.V_drewN | apply Kd.V_drew)); exact HO560.out) hb)
    have n2_ := Aside0.mk (Kd.V_below (by (with_reducible repeat (first | apply Kd.V_alloc | apply Kd.V_drewN | apply Kd.V_drew)); exact HO563.out) hb)
    have n3_ := Aside0.mk (Kd.V_lower (Kd.V_mono (ok' := fun k_ => k_ ≠ gb551 ∧ k_ ≠ gb552) ho0 (fun k_ hk_ => ⟨(Kd.freshB (g := gb551) (o := .cells #[.int .u64 a0_0, .int .u64 a0_1] 24 (0, 0)) (by (with_reducible repeat (first | refine blk_drewN ?_ _ | refine blk_drew ?_ | refine blk_alloc ?_ _)); exact BK551.out) k_ hk_), (Kd.freshB (g := gb552) (o := .cells #[.int .u64 a1_0, .int .u64 a1_1] 24 (0, 0)) (by (with_reducible repeat (first | refine blk_drewN ?_ _ | refine blk_drew ?_ | refine blk_alloc ?_ _)); exact BK552.out) k_ hk_)⟩)) (below_size (by repeat (first | (with_reducible first | exact HB.out | apply below_alloc | apply pw_below_drewN | apply below_drew1 | refine below_set ?_ GE551.out | refine below_set ?_ GE552.out) | exact HB.out))))
    have n4_ := Aside0.mk (blk_below (g := gb551) (o := .cells #[.int .u64 a0_0, .int .u64 a0_1] 24 (0, 0)) (by (with_reducible repeat (first | refine blk_drewN ?_ _ | refine blk_drew ?_ | refine blk_alloc ?_ _)); exact BK551.out) hb)
    have n5_ := Aside0.mk (blk_below (g := gb552) (o := .cells #[.int .u64 a1_0, .int .u64 a1_1] 24 (0, 0)) (by (with_reducible repeat (first | refine blk_drewN ?_ _ | refine blk_drew ?_ | refine blk_alloc ?_ _)); exact BK552.out) hb)
    have n6_ := Aside0.mk (below_step (by repeat (first | (with_reducible first | exact HB.out | apply below_alloc | apply pw_below_drewN | apply below_drew1 | refine below_set ?_ GE551.out | refine below_set ?_ GE552.out) | exact HB.out)) hb)
    clear HO557
    clear HO560
    clear HO563
    clear BK551
    clear BK552
    clear HB
    have HO557 := n0_
    have HO560 := n1_
    have HO563 := n2_
    have HO569 := n3_
    have BK551 := n4_
    have BK552 := n5_
    have HB := n6_
    clear n0_ n1_ n2_ n3_ n4_ n5_ n6_
    (try clear hb)
    (try clear hb2)
    (try clear hk)
    (try clear hi)
    (try clear ho0)
    refine hK.out _ _ ⟨(blk_cell BK551.out 0).trans rfl, (blk_cell BK551.out 1).trans rfl, (blk_cell BK552.out 0).trans rfl, (blk_cell BK552.out 1).trans rfl⟩ (fun hHeld => ?_)
    clear hK K
    refine norm_ (a' := ?_) ?_ ?_
    rotate_left
    · show Act.put _ (some 21) _ = _
      simp only [Act.put, List.setIfInBounds_toArray, List.set_cons_zero, List.set_cons_succ, i64_w, i32_w]
      rfl
    refine one_ (i := 16) (N := some 23) #[true, true, true, true, true, true, true, true, true, true, true, true, true, true, true, true, true, false, false, false, false] rfl rfl (one_of HT_.out (by kernel_rfl)) (by decide) (fun K hK => ?_)
    refine goes_ Try.func31 (by kernel_rfl) rfl #[.int .u64 a2] (by rfl) rfl rfl (by (try simp only [List.map_toArray, List.map_cons, List.map_nil]); first | done | rfl | (simp only [List.length_drop, List.length_take]; rfl)) ?_
    with_reducible refine (laws_wideSmall.calls a2 t570 _ A12.out).mono ?_
    rintro e w28 ⟨v571, rfl, ho0, hb⟩
    refine ⟨_, rfl, ?_⟩
    have n0_ := Aside0.mk (Kd.V_below (by (with_reducible repeat (first | apply Kd.V_alloc | apply Kd.V_drewN | apply Kd.V_drew)); exact HO557.out) hb)
    have n1_ := Aside0.mk (Kd.V_below (by (with_reducible repeat (first | apply Kd.V_alloc | apply Kd.V_drewN | apply Kd.V_drew)); exact HO560.out) hb)
    have n2_ := Aside0.mk (Kd.V_below (by (with_reducible repeat (first | apply Kd.V_alloc | apply Kd.V_drewN | apply Kd.V_drew)); exact HO563.out) hb)
    have n3_ := Aside0.mk (Kd.V_below (by (with_reducible repeat (first | apply Kd.V_alloc | apply Kd.V_drewN | apply Kd.V_drew)); exact HO569.out) hb)
    have n4_ := Aside0.mk (Kd.V_lower (Kd.V_mono (ok' := fun k_ => k_ ≠ gb551 ∧ k_ ≠ gb552) ho0 (fun k_ hk_ => ⟨(Kd.freshB (g := gb551) (o := .cells #[.int .u64 a0_0, .int .u64 a0_1] 24 (0, 0)) (by (with_reducible repeat (first | refine blk_drewN ?_ _ | refine blk_drew ?_ | refine blk_alloc ?_ _)); exact BK551.out) k_ hk_), (Kd.freshB (g := gb552) (o := .cells #[.int .u64 a1_0, .int .u64 a1_1] 24 (0, 0)) (by (with_reducible repeat (first | refine blk_drewN ?_ _ | refine blk_drew ?_ | refine blk_alloc ?_ _)); exact BK552.out) k_ hk_)⟩)) (below_size (by repeat (first | (with_reducible first | exact HB.out | apply below_alloc | apply pw_below_drewN | apply below_drew1 | refine below_set ?_ GE551.out | refine below_set ?_ GE552.out) | exact HB.out))))
    have n5_ := Aside0.mk (blk_below (g := gb551) (o := .cells #[.int .u64 a0_0, .int .u64 a0_1] 24 (0, 0)) (by (with_reducible repeat (first | refine blk_drewN ?_ _ | refine blk_drew ?_ | refine blk_alloc ?_ _)); exact BK551.out) hb)
    have n6_ := Aside0.mk (blk_below (g := gb552) (o := .cells #[.int .u64 a1_0, .int .u64 a1_1] 24 (0, 0)) (by (with_reducible repeat (first | refine blk_drewN ?_ _ | refine blk_drew ?_ | refine blk_alloc ?_ _)); exact BK552.out) hb)
    have n7_ := Aside0.mk (below_step (by repeat (first | (with_reducible first | exact HB.out | apply below_alloc | apply pw_below_drewN | apply below_drew1 | refine below_set ?_ GE551.out | refine below_set ?_ GE552.out) | exact HB.out)) hb)
    clear HO557
    clear HO560
    clear HO563
    clear HO569
    clear BK551
    clear BK552
    clear HB
    have HO557 := n0_
    have HO560 := n1_
    have HO563 := n2_
    have HO569 := n3_
    have HO572 := n4_
    have BK551 := n5_
    have BK552 := n6_
    have HB := n7_
    clear n0_ n1_ n2_ n3_ n4_ n5_ n6_ n7_
    (try clear hb)
    (try clear hb2)
    (try clear hk)
    (try clear hi)
    (try clear ho0)
    obtain ⟨Ao29, co29, eo29⟩ := Kd.V_slice HO569.out
    (first | subst eo29 | (injection eo29 with f1_ f2_ f3_; have f4_ := f1_.symm; have f5_ := f3_.symm; clear f1_ f2_ f3_; subst f4_; subst f5_))
    obtain ⟨Ao30, co30, eo30⟩ := Kd.V_slice HO572.out
    (first | subst eo30 | (injection eo30 with f1_ f2_ f3_; have f4_ := f1_.symm; have f5_ := f3_.symm; clear f1_ f2_ f3_; subst f4_; subst f5_))
    refine hK.out _ _ ⟨(blk_cell BK551.out 0).trans rfl, (blk_cell BK551.out 1).trans rfl, (blk_cell BK552.out 0).trans rfl, (blk_cell BK552.out 1).trans rfl⟩ (fun hHeld => ?_)
    clear hK K
    refine norm_ (a' := ?_) ?_ ?_
    rotate_left
    · show Act.put _ (some 23) _ = _
      simp only [Act.put, List.setIfInBounds_toArray, List.set_cons_zero, List.set_cons_succ, i64_w, i32_w]
      rfl
    refine one_ (i := 17) (N := some 24) #[true, true, true, true, true, true, true, true, true, true, true, true, true, true, true, true, true, true, false, false, false] rfl rfl (one_of HT_.out (by kernel_rfl)) (by decide) (fun K hK => ?_)
    refine goes_ Try.func66 (by kernel_rfl) rfl #[.slice Ao29 t567.length co29, .slice Ao30 t570.length co30] (by rfl) rfl rfl (by (try simp only [List.map_toArray, List.map_cons, List.map_nil]); first | done | rfl | (simp only [List.length_drop, List.length_take]; rfl)) ?_
    with_reducible refine (spec_Product.calls k _ _ t567 _ _ t570 t573 _ ?side1 ?side2 ?side3 ?side4 A13.out).mono ?_
    (case side1 => repeat (first | exact (Kd.V_reads' HO569.out).2.2 | (with_reducible refine Kd.C_alloc ?_ _) | (with_reducible refine Kd.C_drewN ?_ _) | (with_reducible refine Kd.C_drew ?_)))
    (case side2 => exact (Kd.V_reads' HO569.out).2.1)
    (case side3 => repeat (first | exact (Kd.V_reads' HO572.out).2.2 | (with_reducible refine Kd.C_alloc ?_ _) | (with_reducible refine Kd.C_drewN ?_ _) | (with_reducible refine Kd.C_drew ?_)))
    (case side4 => exact (Kd.V_reads' HO572.out).2.1)
    rintro e w31 ⟨v574, rfl, ho0, hb⟩
    refine ⟨_, rfl, ?_⟩
    have n0_ := Aside0.mk (Kd.V_below (by (with_reducible repeat (first | apply Kd.V_alloc | apply Kd.V_drewN | apply Kd.V_drew)); exact HO557.out) hb)
    have n1_ := Aside0.mk (Kd.V_below (by (with_reducible repeat (first | apply Kd.V_alloc | apply Kd.V_drewN | apply Kd.V_drew)); exact HO560.out) hb)
    have n2_ := Aside0.mk (Kd.V_below (by (with_reducible repeat (first | apply Kd.V_alloc | apply Kd.V_drewN | apply Kd.V_drew)); exact HO563.out) hb)
    have n3_ := Aside0.mk (Kd.V_below (by (with_reducible repeat (first | apply Kd.V_alloc | apply Kd.V_drewN | apply Kd.V_drew)); exact HO569.out) hb)
    have n4_ := Aside0.mk (Kd.V_below (by (with_reducible repeat (first | apply Kd.V_alloc | apply Kd.V_drewN | apply Kd.V_drew)); exact HO572.out) hb)
    have n5_ := Aside0.mk (Kd.V_lower (Kd.V_mono (ok' := fun k_ => k_ ≠ gb551 ∧ k_ ≠ gb552) ho0 (fun k_ hk_ => ⟨(Kd.freshB (g := gb551) (o := .cells #[.int .u64 a0_0, .int .u64 a0_1] 24 (0, 0)) (by (with_reducible repeat (first | refine blk_drewN ?_ _ | refine blk_drew ?_ | refine blk_alloc ?_ _)); exact BK551.out) k_ hk_), (Kd.freshB (g := gb552) (o := .cells #[.int .u64 a1_0, .int .u64 a1_1] 24 (0, 0)) (by (with_reducible repeat (first | refine blk_drewN ?_ _ | refine blk_drew ?_ | refine blk_alloc ?_ _)); exact BK552.out) k_ hk_)⟩)) (below_size (by repeat (first | (with_reducible first | exact HB.out | apply below_alloc | apply pw_below_drewN | apply below_drew1 | refine below_set ?_ GE551.out | refine below_set ?_ GE552.out) | exact HB.out))))
    have n6_ := Aside0.mk (blk_below (g := gb551) (o := .cells #[.int .u64 a0_0, .int .u64 a0_1] 24 (0, 0)) (by (with_reducible repeat (first | refine blk_drewN ?_ _ | refine blk_drew ?_ | refine blk_alloc ?_ _)); exact BK551.out) hb)
    have n7_ := Aside0.mk (blk_below (g := gb552) (o := .cells #[.int .u64 a1_0, .int .u64 a1_1] 24 (0, 0)) (by (with_reducible repeat (first | refine blk_drewN ?_ _ | refine blk_drew ?_ | refine blk_alloc ?_ _)); exact BK552.out) hb)
    have n8_ := Aside0.mk (below_step (by repeat (first | (with_reducible first | exact HB.out | apply below_alloc | apply pw_below_drewN | apply below_drew1 | refine below_set ?_ GE551.out | refine below_set ?_ GE552.out) | exact HB.out)) hb)
    clear HO557
    clear HO560
    clear HO563
    clear HO569
    clear HO572
    clear BK551
    clear BK552
    clear HB
    have HO557 := n0_
    have HO560 := n1_
    have HO563 := n2_
    have HO569 := n3_
    have HO572 := n4_
    have HO575 := n5_
    have BK551 := n6_
    have BK552 := n7_
    have HB := n8_
    clear n0_ n1_ n2_ n3_ n4_ n5_ n6_ n7_ n8_
    (try clear hb)
    (try clear hb2)
    (try clear hk)
    (try clear hi)
    (try clear ho0)
    obtain ⟨Ao32, co32, eo32⟩ := Kd.V_slice HO575.out
    (first | subst eo32 | (injection eo32 with f1_ f2_ f3_; have f4_ := f1_.symm; have f5_ := f3_.symm; clear f1_ f2_ f3_; subst f4_; subst f5_))
    refine hK.out _ _ ⟨(blk_cell BK551.out 0).trans rfl, (blk_cell BK551.out 1).trans rfl, (blk_cell BK552.out 0).trans rfl, (blk_cell BK552.out 1).trans rfl⟩ (fun hHeld => ?_)
    clear hK K
    refine norm_ (a' := ?_) ?_ ?_
    rotate_left
    · show Act.put _ (some 24) _ = _
      simp only [Act.put, List.setIfInBounds_toArray, List.set_cons_zero, List.set_cons_succ, i64_w, i32_w]
      rfl
    refine one_ (i := 18) (N := some 25) #[true, true, true, true, true, true, true, true, true, true, true, true, true, true, true, true, true, true, true, false, false] rfl rfl (one_of HT_.out (by kernel_rfl)) (by decide) (fun K hK => ?_)
    refine goes_ Try.func27 (by kernel_rfl) rfl #[.agg #[.int .u64 t565, .int .u64 t566], .slice Ao32 t573.length co32] (by rfl) rfl rfl (by (try simp only [List.map_toArray, List.map_cons, List.map_nil]); first | done | rfl | (simp only [List.length_drop, List.length_take]; rfl)) ?_
    with_reducible refine (laws_wideIs.calls k t565 t566 _ _ t573 t576 _ ?side1 ?side2 A14.out).mono ?_
    (case side1 => repeat (first | exact (Kd.V_reads' HO575.out).2.2 | (with_reducible refine Kd.C_alloc ?_ _) | (with_reducible refine Kd.C_drewN ?_ _) | (with_reducible refine Kd.C_drew ?_)))
    (case side2 => exact (Kd.V_reads' HO575.out).2.1)
    rintro e w33 ⟨rfl, hb⟩
    refine ⟨_, rfl, ?_⟩
    have n0_ := Aside0.mk (Kd.V_below (by (with_reducible repeat (first | apply Kd.V_alloc | apply Kd.V_drewN | apply Kd.V_drew)); exact HO557.out) hb)
    have n1_ := Aside0.mk (Kd.V_below (by (with_reducible repeat (first | apply Kd.V_alloc | apply Kd.V_drewN | apply Kd.V_drew)); exact HO560.out) hb)
    have n2_ := Aside0.mk (Kd.V_below (by (with_reducible repeat (first | apply Kd.V_alloc | apply Kd.V_drewN | apply Kd.V_drew)); exact HO563.out) hb)
    have n3_ := Aside0.mk (Kd.V_below (by (with_reducible repeat (first | apply Kd.V_alloc | apply Kd.V_drewN | apply Kd.V_drew)); exact HO569.out) hb)
    have n4_ := Aside0.mk (Kd.V_below (by (with_reducible repeat (first | apply Kd.V_alloc | apply Kd.V_drewN | apply Kd.V_drew)); exact HO572.out) hb)
    have n5_ := Aside0.mk (Kd.V_below (by (with_reducible repeat (first | apply Kd.V_alloc | apply Kd.V_drewN | apply Kd.V_drew)); exact HO575.out) hb)
    have n6_ := Aside0.mk (blk_below (g := gb551) (o := .cells #[.int .u64 a0_0, .int .u64 a0_1] 24 (0, 0)) (by (with_reducible repeat (first | refine blk_drewN ?_ _ | refine blk_drew ?_ | refine blk_alloc ?_ _)); exact BK551.out) hb)
    have n7_ := Aside0.mk (blk_below (g := gb552) (o := .cells #[.int .u64 a1_0, .int .u64 a1_1] 24 (0, 0)) (by (with_reducible repeat (first | refine blk_drewN ?_ _ | refine blk_drew ?_ | refine blk_alloc ?_ _)); exact BK552.out) hb)
    have n8_ := Aside0.mk (below_step (by repeat (first | (with_reducible first | exact HB.out | apply below_alloc | apply pw_below_drewN | apply below_drew1 | refine below_set ?_ GE551.out | refine below_set ?_ GE552.out) | exact HB.out)) hb)
    clear HO557
    clear HO560
    clear HO563
    clear HO569
    clear HO572
    clear HO575
    clear BK551
    clear BK552
    clear HB
    have HO557 := n0_
    have HO560 := n1_
    have HO563 := n2_
    have HO569 := n3_
    have HO572 := n4_
    have HO575 := n5_
    have BK551 := n6_
    have BK552 := n7_
    have HB := n8_
    clear n0_ n1_ n2_ n3_ n4_ n5_ n6_ n7_ n8_
    (try clear hb)
    (try clear hb2)
    (try clear hk)
    (try clear hi)
    refine hK.out _ _ ⟨(blk_cell BK551.out 0).trans rfl, (blk_cell BK551.out 1).trans rfl, (blk_cell BK552.out 0).trans rfl, (blk_cell BK552.out 1).trans rfl⟩ (fun hHeld => ?_)
    clear hK K
    refine norm_ (a' := ?_) ?_ ?_
    rotate_left
    · show Act.put _ (some 25) _ = _
      simp only [Act.put, List.setIfInBounds_toArray, List.set_cons_zero, List.set_cons_succ, i64_w, i32_w]
      rfl
    refine pure_ (i := 19) (N := some 26) (v := ?_) (a' := ?_) #[true, true, true, true, true, true, true, true, true, true, true, true, true, true, true, true, true, true, true, true, false] rfl rfl (any_of HT_.out (by kernel_rfl)) (fun _ _ _ h => h) (Or.inl ⟨by rfl, ?_⟩) ?_ ?_
    rotate_left
    · intro w'
      go_simp
      with_reducible rfl
    rotate_left
    · simp only [Act.put, List.setIfInBounds_toArray, List.set_cons_zero, List.set_cons_succ, i64_w, i32_w]
      rfl
    refine pure_ (i := 20) (N := some 6) (v := ?_) (a' := ?_) #[true, true, true, true, true, true, true, true, true, true, true, true, true, true, true, true, true, true, true, true, true] rfl rfl (any_of HT_.out (by kernel_rfl)) (fun _ _ _ h => h) (Or.inl ⟨by rfl, ?_⟩) ?_ ?_
    rotate_left
    · intro w'
      go_simp
      with_reducible rfl
    rotate_left
    · simp only [Act.put, List.setIfInBounds_toArray, List.set_cons_zero, List.set_cons_succ, i64_w, i32_w]
      rfl
    refine done_ (done_of HT_.out (by kernel_rfl)) ?_
    try go_wp2
    go_ret
    exact ⟨by first | rfl | (simp [errW_none, errW_some] <;> rfl) | (simp [*, errW_none, errW_some] <;> rfl), by repeat (first | (with_reducible first | exact HB.out | apply below_alloc | apply pw_below_drewN | apply below_drew1 | refine below_set ?_ GE551.out | refine below_set ?_ GE552.out) | exact HB.out)⟩
  · replace c9 := Bool.eq_false_iff.mpr c9
    subst c9
    have H1 : (some false) = some r := by rw [if_neg (show ¬ (false = true) by decide)] at H; exact H
    clear H
    have H := H1
    clear H1
    obtain rfl := Option.some.inj H
    go_enter Try.func18, Try.ntmps18
    try go_wp2_with (first | ((with_reducible refine gate_dst (N := 3) rfl ?_); refine box_event ?hg (N := 3) ?hd (cs := #[.int .u64 a0_0, .int .u64 a0_1]) (t := 24) ?hr ?_; (case hd => rfl); (case hg => rfl); (case hr => first | (go_simp; done) | (go_simp; rfl)); intro gb551 hg w34 hbox hb; have n0_ := Aside0.mk (below_step (by repeat (first | (with_reducible first | exact HB.out | apply below_alloc | apply pw_below_drewN | apply below_drew1) | exact HB.out)) hb); have n1_ := Aside0.mk (hbox); have n2_ := Aside0.mk ((by rw [hg]; exact (below_size (by repeat (first | (with_reducible first | exact HB.out | apply below_alloc | apply pw_below_drewN | apply below_drew1) | exact HB.out))) : w.heap.size ≤ gb551)); have n3_ := Aside0.mk ((by rw [hg]; exact (below_size (by repeat (first | (with_reducible first | exact HB.out | apply below_alloc | apply pw_below_drewN | apply below_drew1) | exact HB.out))) : w.heap.size ≤ gb551)); clear HB; have HB := n0_; have BK551 := n1_; have GW551 := n2_; have GE551 := n3_; clear n0_ n1_ n2_ n3_; clear hb hbox hg) | ((with_reducible refine gate_dst (N := 4) rfl ?_); refine box_event ?hg (N := 4) ?hd (cs := #[.int .u64 a1_0, .int .u64 a1_1]) (t := 24) ?hr ?_; (case hd => rfl); (case hg => rfl); (case hr => first | (go_simp; done) | (go_simp; rfl)); intro gb552 hg w35 hbox hb; have n0_ := Aside0.mk (blk_below (g := gb551) (o := .cells #[.int .u64 a0_0, .int .u64 a0_1] 24 (0, 0)) (by (with_reducible repeat (first | refine blk_drewN ?_ _ | refine blk_drew ?_ | refine blk_alloc ?_ _)); exact BK551.out) hb); have n1_ := Aside0.mk (below_step (by repeat (first | (with_reducible first | exact HB.out | apply below_alloc | apply pw_below_drewN | apply below_drew1 | refine below_set ?_ GE551.out) | exact HB.out)) hb); have n2_ := Aside0.mk (hbox); have n3_ := Aside0.mk ((by rw [hg]; exact (below_size (by repeat (first | (with_reducible first | exact HB.out | apply below_alloc | apply pw_below_drewN | apply below_drew1 | refine below_set ?_ GE551.out) | exact HB.out))) : w.heap.size ≤ gb552)); have n4_ := Aside0.mk ((by rw [hg]; exact (below_size (by repeat (first | (with_reducible first | exact HB.out | apply below_alloc | apply pw_below_drewN | apply below_drew1 | refine below_set ?_ GE551.out) | exact HB.out))) : w.heap.size ≤ gb552)); have n5_ := Aside0.mk ((by rw [hg]; exact Nat.ne_of_lt (blk_lt (g := gb551) (o := .cells #[.int .u64 a0_0, .int .u64 a0_1] 24 (0, 0)) (by (with_reducible repeat (first | refine blk_drewN ?_ _ | refine blk_drew ?_ | refine blk_alloc ?_ _)); exact BK551.out)) : gb551 ≠ gb552)); have n6_ := Aside0.mk ((by rw [hg]; exact Nat.ne_of_gt (blk_lt (g := gb551) (o := .cells #[.int .u64 a0_0, .int .u64 a0_1] 24 (0, 0)) (by (with_reducible repeat (first | refine blk_drewN ?_ _ | refine blk_drew ?_ | refine blk_alloc ?_ _)); exact BK551.out)) : gb552 ≠ gb551)); clear BK551; clear HB; have BK551 := n0_; have HB := n1_; have BK552 := n2_; have GW552 := n3_; have GE552 := n4_; have NB551_552 := n5_; have NB552_551 := n6_; clear n0_ n1_ n2_ n3_ n4_ n5_ n6_; clear hb hbox hg))
    have n0_ := Aside0.mk (blk_drew BK551.out)
    have n1_ := Aside0.mk (blk_drew BK552.out)
    have n2_ := Aside0.mk (below_drew1 HB.out)
    clear BK551
    clear BK552
    clear HB
    have BK551 := n0_
    have BK552 := n1_
    have HB := n2_
    clear n0_ n1_ n2_
    refine start_ (n := 21) (S := fun w' => w'.cell? ⟨gb551, 0, none⟩ = some (.int .u64 a0_0) ∧ w'.cell? ⟨gb551, 1, none⟩ = some (.int .u64 a0_1) ∧ w'.cell? ⟨gb552, 0, none⟩ = some (.int .u64 a1_0) ∧ w'.cell? ⟨gb552, 1, none⟩ = some (.int .u64 a1_1)) (ds := []) #[false, false, false, false, false, false, false, false, false, false, false, false, false, false, false, false, false, false, false, false, false] (by kernel_rfl) rfl rfl ⟨(blk_cell BK551.out 0).trans rfl, (blk_cell BK551.out 1).trans rfl, (blk_cell BK552.out 0).trans rfl, (blk_cell BK552.out 1).trans rfl⟩ (fun hHeld => ?_); refine with_tabW laws_FnWideMulWrap.tab1 laws_FnWideMulWrap.bits1 (fun HT_ HW_ => ?_)
    generalize w35.drew = w36 at BK551 BK552 HB hHeld ⊢
    refine take_ (i := 0) (N := some 7) (v := ?_) (a' := ?_) #[true, false, false, false, false, false, false, false, false, false, false, false, false, false, false, false, false, false, false, false, false] rfl rfl (take_ofW HT_.out HW_.out (by kernel_rfl)) (fun _ _ _ h => h) (Or.inl ⟨by rfl, ?_⟩) hHeld ?_ ?_
    rotate_left
    · rintro w' ⟨s0, s1, s2, s3⟩
      go_simp
      with_reducible rfl
    rotate_left
    · simp only [Act.put, List.setIfInBounds_toArray, List.set_cons_zero, List.set_cons_succ, i64_w, i32_w]
      rfl
    refine take_ (i := 1) (N := some 8) (v := ?_) (a' := ?_) #[true, true, false, false, false, false, false, false, false, false, false, false, false, false, false, false, false, false, false, false, false] rfl rfl (take_ofW HT_.out HW_.out (by kernel_rfl)) (fun _ _ _ h => h) (Or.inl ⟨by rfl, ?_⟩) hHeld ?_ ?_
    rotate_left
    · rintro w' ⟨s0, s1, s2, s3⟩
      go_simp
      with_reducible rfl
    rotate_left
    · simp only [Act.put, List.setIfInBounds_toArray, List.set_cons_zero, List.set_cons_succ, i64_w, i32_w]
      rfl
    refine take_ (i := 3) (N := some 10) (v := ?_) (a' := ?_) #[true, true, false, true, false, false, false, false, false, false, false, false, false, false, false, false, false, false, false, false, false] rfl rfl (take_ofW HT_.out HW_.out (by kernel_rfl)) (fun _ _ _ h => h) (Or.inl ⟨by rfl, ?_⟩) hHeld ?_ ?_
    rotate_left
    · rintro w' ⟨s0, s1, s2, s3⟩
      go_simp
      with_reducible rfl
    rotate_left
    · simp only [Act.put, List.setIfInBounds_toArray, List.set_cons_zero, List.set_cons_succ, i64_w, i32_w]
      rfl
    refine take_ (i := 5) (N := some 12) (v := ?_) (a' := ?_) #[true, true, false, true, false, true, false, false, false, false, false, false, false, false, false, false, false, false, false, false, false] rfl rfl (take_ofW HT_.out HW_.out (by kernel_rfl)) (fun _ _ _ h => h) (Or.inl ⟨by rfl, ?_⟩) hHeld ?_ ?_
    rotate_left
    · rintro w' ⟨s0, s1, s2, s3⟩
      go_simp
      with_reducible rfl
    rotate_left
    · simp only [Act.put, List.setIfInBounds_toArray, List.set_cons_zero, List.set_cons_succ, i64_w, i32_w]
      rfl
    refine one_ (i := 2) (N := some 9) #[true, true, true, true, false, true, false, false, false, false, false, false, false, false, false, false, false, false, false, false, false] rfl rfl (one_of HT_.out (by kernel_rfl)) (by decide) (fun K hK => ?_)
    refine goes_ Try.func65 (by kernel_rfl) rfl #[.agg #[.int .u64 a0_0, .int .u64 a0_1], .agg #[.int .u64 a1_0, .int .u64 a1_1]] (by rfl) rfl rfl (by (try simp only [List.map_toArray, List.map_cons, List.map_nil]); first | done | rfl | (simp only [List.length_drop, List.length_take]; rfl)) ?_
    with_reducible refine (impl_WideMulWrap.calls a0_0 a0_1 a1_0 a1_1 t553 t554 _ A4.out).mono ?_
    rintro e w37 ⟨rfl, hb⟩
    refine ⟨_, rfl, ?_⟩
    have n0_ := Aside0.mk (blk_below (g := gb551) (o := .cells #[.int .u64 a0_0, .int .u64 a0_1] 24 (0, 0)) (by (with_reducible repeat (first | refine blk_drewN ?_ _ | refine blk_drew ?_ | refine blk_alloc ?_ _)); exact BK551.out) hb)
    have n1_ := Aside0.mk (blk_below (g := gb552) (o := .cells #[.int .u64 a1_0, .int .u64 a1_1] 24 (0, 0)) (by (with_reducible repeat (first | refine blk_drewN ?_ _ | refine blk_drew ?_ | refine blk_alloc ?_ _)); exact BK552.out) hb)
    have n2_ := Aside0.mk (below_step (by repeat (first | (with_reducible first | exact HB.out | apply below_alloc | apply pw_below_drewN | apply below_drew1 | refine below_set ?_ GE551.out | refine below_set ?_ GE552.out) | exact HB.out)) hb)
    clear BK551
    clear BK552
    clear HB
    have BK551 := n0_
    have BK552 := n1_
    have HB := n2_
    clear n0_ n1_ n2_
    (try clear hb)
    (try clear hb2)
    (try clear hk)
    (try clear hi)
    refine hK.out _ _ ⟨(blk_cell BK551.out 0).trans rfl, (blk_cell BK551.out 1).trans rfl, (blk_cell BK552.out 0).trans rfl, (blk_cell BK552.out 1).trans rfl⟩ (fun hHeld => ?_)
    clear hK K
    refine norm_ (a' := ?_) ?_ ?_
    rotate_left
    · show Act.put _ (some 9) _ = _
      simp only [Act.put, List.setIfInBounds_toArray, List.set_cons_zero, List.set_cons_succ, i64_w, i32_w]
      rfl
    refine one_ (i := 4) (N := some 11) #[true, true, true, true, true, true, false, false, false, false, false, false, false, false, false, false, false, false, false, false, false] rfl rfl (one_of HT_.out (by kernel_rfl)) (by decide) (fun K hK => ?_)
    refine goes_ Try.func25 (by kernel_rfl) rfl #[.agg #[.int .u64 a0_0, .int .u64 a0_1]] (by rfl) rfl rfl (by (try simp only [List.map_toArray, List.map_cons, List.map_nil]); first | done | rfl | (simp only [List.length_drop, List.length_take]; rfl)) ?_
    with_reducible refine (laws_wideWhole.calls a0_0 a0_1 t555 _ A5.out).mono ?_
    rintro e w38 ⟨v556, rfl, ho0, hb⟩
    refine ⟨_, rfl, ?_⟩
    have n0_ := Aside0.mk (Kd.V_lower (Kd.V_mono (ok' := fun k_ => k_ ≠ gb551 ∧ k_ ≠ gb552) ho0 (fun k_ hk_ => ⟨(Kd.freshB (g := gb551) (o := .cells #[.int .u64 a0_0, .int .u64 a0_1] 24 (0, 0)) (by (with_reducible repeat (first | refine blk_drewN ?_ _ | refine blk_drew ?_ | refine blk_alloc ?_ _)); exact BK551.out) k_ hk_), (Kd.freshB (g := gb552) (o := .cells #[.int .u64 a1_0, .int .u64 a1_1] 24 (0, 0)) (by (with_reducible repeat (first | refine blk_drewN ?_ _ | refine blk_drew ?_ | refine blk_alloc ?_ _)); exact BK552.out) k_ hk_)⟩)) (below_size (by repeat (first | (with_reducible first | exact HB.out | apply below_alloc | apply pw_below_drewN | apply below_drew1 | refine below_set ?_ GE551.out | refine below_set ?_ GE552.out) | exact HB.out))))
    have n1_ := Aside0.mk (blk_below (g := gb551) (o := .cells #[.int .u64 a0_0, .int .u64 a0_1] 24 (0, 0)) (by (with_reducible repeat (first | refine blk_drewN ?_ _ | refine blk_drew ?_ | refine blk_alloc ?_ _)); exact BK551.out) hb)
    have n2_ := Aside0.mk (blk_below (g := gb552) (o := .cells #[.int .u64 a1_0, .int .u64 a1_1] 24 (0, 0)) (by (with_reducible repeat (first | refine blk_drewN ?_ _ | refine blk_drew ?_ | refine blk_alloc ?_ _)); exact BK552.out) hb)
    have n3_ := Aside0.mk (below_step (by repeat (first | (with_reducible first | exact HB.out | apply below_alloc | apply pw_below_drewN | apply below_drew1 | refine below_set ?_ GE551.out | refine below_set ?_ GE552.out) | exact HB.out)) hb)
    clear BK551
    clear BK552
    clear HB
    have HO557 := n0_
    have BK551 := n1_
    have BK552 := n2_
    have HB := n3_
    clear n0_ n1_ n2_ n3_
    (try clear hb)
    (try clear hb2)
    (try clear hk)
    (try clear hi)
    (try clear ho0)
    refine hK.out _ _ ⟨(blk_cell BK551.out 0).trans rfl, (blk_cell BK551.out 1).trans rfl, (blk_cell BK552.out 0).trans rfl, (blk_cell BK552.out 1).trans rfl⟩ (fun hHeld => ?_)
    clear hK K
    refine norm_ (a' := ?_) ?_ ?_
    rotate_left
    · show Act.put _ (some 11) _ = _
      simp only [Act.put, List.setIfInBounds_toArray, List.set_cons_zero, List.set_cons_succ, i64_w, i32_w]
      rfl
    refine one_ (i := 6) (N := some 13) #[true, true, true, true, true, true, true, false, false, false, false, false, false, false, false, false, false, false, false, false, false] rfl rfl (one_of HT_.out (by kernel_rfl)) (by decide) (fun K hK => ?_)
    refine goes_ Try.func25 (by kernel_rfl) rfl #[.agg #[.int .u64 a1_0, .int .u64 a1_1]] (by rfl) rfl rfl (by (try simp only [List.map_toArray, List.map_cons, List.map_nil]); first | done | rfl | (simp only [List.length_drop, List.length_take]; rfl)) ?_
    with_reducible refine (laws_wideWhole.calls a1_0 a1_1 t558 _ A6.out).mono ?_
    rintro e w39 ⟨v559, rfl, ho0, hb⟩
    refine ⟨_, rfl, ?_⟩
    have n0_ := Aside0.mk (Kd.V_below (by (with_reducible repeat (first | apply Kd.V_alloc | apply Kd.V_drewN | apply Kd.V_drew)); exact HO557.out) hb)
    have n1_ := Aside0.mk (Kd.V_lower (Kd.V_mono (ok' := fun k_ => k_ ≠ gb551 ∧ k_ ≠ gb552) ho0 (fun k_ hk_ => ⟨(Kd.freshB (g := gb551) (o := .cells #[.int .u64 a0_0, .int .u64 a0_1] 24 (0, 0)) (by (with_reducible repeat (first | refine blk_drewN ?_ _ | refine blk_drew ?_ | refine blk_alloc ?_ _)); exact BK551.out) k_ hk_), (Kd.freshB (g := gb552) (o := .cells #[.int .u64 a1_0, .int .u64 a1_1] 24 (0, 0)) (by (with_reducible repeat (first | refine blk_drewN ?_ _ | refine blk_drew ?_ | refine blk_alloc ?_ _)); exact BK552.out) k_ hk_)⟩)) (below_size (by repeat (first | (with_reducible first | exact HB.out | apply below_alloc | apply pw_below_drewN | apply below_drew1 | refine below_set ?_ GE551.out | refine below_set ?_ GE552.out) | exact HB.out))))
    have n2_ := Aside0.mk (blk_below (g := gb551) (o := .cells #[.int .u64 a0_0, .int .u64 a0_1] 24 (0, 0)) (by (with_reducible repeat (first | refine blk_drewN ?_ _ | refine blk_drew ?_ | refine blk_alloc ?_ _)); exact BK551.out) hb)
    have n3_ := Aside0.mk (blk_below (g := gb552) (o := .cells #[.int .u64 a1_0, .int .u64 a1_1] 24 (0, 0)) (by (with_reducible repeat (first | refine blk_drewN ?_ _ | refine blk_drew ?_ | refine blk_alloc ?_ _)); exact BK552.out) hb)
    have n4_ := Aside0.mk (below_step (by repeat (first | (with_reducible first | exact HB.out | apply below_alloc | apply pw_below_drewN | apply below_drew1 | refine below_set ?_ GE551.out | refine below_set ?_ GE552.out) | exact HB.out)) hb)
    clear HO557
    clear BK551
    clear BK552
    clear HB
    have HO557 := n0_
    have HO560 := n1_
    have BK551 := n2_
    have BK552 := n3_
    have HB := n4_
    clear n0_ n1_ n2_ n3_ n4_
    (try clear hb)
    (try clear hb2)
    (try clear hk)
    (try clear hi)
    (try clear ho0)
    obtain ⟨Ao40, co40, eo40⟩ := Kd.V_slice HO557.out
    (first | subst eo40 | (injection eo40 with f1_ f2_ f3_; have f4_ := f1_.symm; have f5_ := f3_.symm; clear f1_ f2_ f3_; subst f4_; subst f5_))
    obtain ⟨Ao41, co41, eo41⟩ := Kd.V_slice HO560.out
    (first | subst eo41 | (injection eo41 with f1_ f2_ f3_; have f4_ := f1_.symm; have f5_ := f3_.symm; clear f1_ f2_ f3_; subst f4_; subst f5_))
    refine hK.out _ _ ⟨(blk_cell BK551.out 0).trans rfl, (blk_cell BK551.out 1).trans rfl, (blk_cell BK552.out 0).trans rfl, (blk_cell BK552.out 1).trans rfl⟩ (fun hHeld => ?_)
    clear hK K
    refine norm_ (a' := ?_) ?_ ?_
    rotate_left
    · show Act.put _ (some 13) _ = _
      simp only [Act.put, List.setIfInBounds_toArray, List.set_cons_zero, List.set_cons_succ, i64_w, i32_w]
      rfl
    refine one_ (i := 7) (N := some 14) #[true, true, true, true, true, true, true, true, false, false, false, false, false, false, false, false, false, false, false, false, false] rfl rfl (one_of HT_.out (by kernel_rfl)) (by decide) (fun K hK => ?_)
    refine goes_ Try.func66 (by kernel_rfl) rfl #[.slice Ao40 t555.length co40, .slice Ao41 t558.length co41] (by rfl) rfl rfl (by (try simp only [List.map_toArray, List.map_cons, List.map_nil]); first | done | rfl | (simp only [List.length_drop, List.length_take]; rfl)) ?_
    with_reducible refine (spec_Product.calls k _ _ t555 _ _ t558 t561 _ ?side1 ?side2 ?side3 ?side4 A7.out).mono ?_
    (case side1 => repeat (first | exact (Kd.V_reads' HO557.out).2.2 | (with_reducible refine Kd.C_alloc ?_ _) | (with_reducible refine Kd.C_drewN ?_ _) | (with_reducible refine Kd.C_drew ?_)))
    (case side2 => exact (Kd.V_reads' HO557.out).2.1)
    (case side3 => repeat (first | exact (Kd.V_reads' HO560.out).2.2 | (with_reducible refine Kd.C_alloc ?_ _) | (with_reducible refine Kd.C_drewN ?_ _) | (with_reducible refine Kd.C_drew ?_)))
    (case side4 => exact (Kd.V_reads' HO560.out).2.1)
    rintro e w42 ⟨v562, rfl, ho0, hb⟩
    refine ⟨_, rfl, ?_⟩
    have n0_ := Aside0.mk (Kd.V_below (by (with_reducible repeat (first | apply Kd.V_alloc | apply Kd.V_drewN | apply Kd.V_drew)); exact HO557.out) hb)
    have n1_ := Aside0.mk (Kd.V_below (by (with_reducible repeat (first | apply Kd.V_alloc | apply Kd.V_drewN | apply Kd.V_drew)); exact HO560.out) hb)
    have n2_ := Aside0.mk (Kd.V_lower (Kd.V_mono (ok' := fun k_ => k_ ≠ gb551 ∧ k_ ≠ gb552) ho0 (fun k_ hk_ => ⟨(Kd.freshB (g := gb551) (o := .cells #[.int .u64 a0_0, .int .u64 a0_1] 24 (0, 0)) (by (with_reducible repeat (first | refine blk_drewN ?_ _ | refine blk_drew ?_ | refine blk_alloc ?_ _)); exact BK551.out) k_ hk_), (Kd.freshB (g := gb552) (o := .cells #[.int .u64 a1_0, .int .u64 a1_1] 24 (0, 0)) (by (with_reducible repeat (first | refine blk_drewN ?_ _ | refine blk_drew ?_ | refine blk_alloc ?_ _)); exact BK552.out) k_ hk_)⟩)) (below_size (by repeat (first | (with_reducible first | exact HB.out | apply below_alloc | apply pw_below_drewN | apply below_drew1 | refine below_set ?_ GE551.out | refine below_set ?_ GE552.out) | exact HB.out))))
    have n3_ := Aside0.mk (blk_below (g := gb551) (o := .cells #[.int .u64 a0_0, .int .u64 a0_1] 24 (0, 0)) (by (with_reducible repeat (first | refine blk_drewN ?_ _ | refine blk_drew ?_ | refine blk_alloc ?_ _)); exact BK551.out) hb)
    have n4_ := Aside0.mk (blk_below (g := gb552) (o := .cells #[.int .u64 a1_0, .int .u64 a1_1] 24 (0, 0)) (by (with_reducible repeat (first | refine blk_drewN ?_ _ | refine blk_drew ?_ | refine blk_alloc ?_ _)); exact BK552.out) hb)
    have n5_ := Aside0.mk (below_step (by repeat (first | (with_reducible first | exact HB.out | apply below_alloc | apply pw_below_drewN | apply below_drew1 | refine below_set ?_ GE551.out | refine below_set ?_ GE552.out) | exact HB.out)) hb)
    clear HO557
    clear HO560
    clear BK551
    clear BK552
    clear HB
    have HO557 := n0_
    have HO560 := n1_
    have HO563 := n2_
    have BK551 := n3_
    have BK552 := n4_
    have HB := n5_
    clear n0_ n1_ n2_ n3_ n4_ n5_
    (try clear hb)
    (try clear hb2)
    (try clear hk)
    (try clear hi)
    (try clear ho0)
    obtain ⟨Ao43, co43, eo43⟩ := Kd.V_slice HO563.out
    (first | subst eo43 | (injection eo43 with f1_ f2_ f3_; have f4_ := f1_.symm; have f5_ := f3_.symm; clear f1_ f2_ f3_; subst f4_; subst f5_))
    refine hK.out _ _ ⟨(blk_cell BK551.out 0).trans rfl, (blk_cell BK551.out 1).trans rfl, (blk_cell BK552.out 0).trans rfl, (blk_cell BK552.out 1).trans rfl⟩ (fun hHeld => ?_)
    clear hK K
    refine norm_ (a' := ?_) ?_ ?_
    rotate_left
    · show Act.put _ (some 14) _ = _
      simp only [Act.put, List.setIfInBounds_toArray, List.set_cons_zero, List.set_cons_succ, i64_w, i32_w]
      rfl
    refine one_ (i := 8) (N := some 15) #[true, true, true, true, true, true, true, true, true, false, false, false, false, false, false, false, false, false, false, false, false] rfl rfl (one_of HT_.out (by kernel_rfl)) (by decide) (fun K hK => ?_)
    refine goes_ Try.func27 (by kernel_rfl) rfl #[.agg #[.int .u64 t553, .int .u64 t554], .slice Ao43 t561.length co43] (by rfl) rfl rfl (by (try simp only [List.map_toArray, List.map_cons, List.map_nil]); first | done | rfl | (simp only [List.length_drop, List.length_take]; rfl)) ?_
    with_reducible refine (laws_wideIs.calls k t553 t554 _ _ t561 false _ ?side1 ?side2 A8.out).mono ?_
    (case side1 => repeat (first | exact (Kd.V_reads' HO563.out).2.2 | (with_reducible refine Kd.C_alloc ?_ _) | (with_reducible refine Kd.C_drewN ?_ _) | (with_reducible refine Kd.C_drew ?_)))
    (case side2 => exact (Kd.V_reads' HO563.out).2.1)
    rintro e w44 ⟨rfl, hb⟩
    refine ⟨_, rfl, ?_⟩
    have n0_ := Aside0.mk (Kd.V_below (by (with_reducible repeat (first | apply Kd.V_alloc | apply Kd.V_drewN | apply Kd.V_drew)); exact HO557.out) hb)
    have n1_ := Aside0.mk (Kd.V_below (by (with_reducible repeat (first | apply Kd.V_alloc | apply Kd.V_drewN | apply Kd.V_drew)); exact HO560.out) hb)
    have n2_ := Aside0.mk (Kd.V_below (by (with_reducible repeat (first | apply Kd.V_alloc | apply Kd.V_drewN | apply Kd.V_drew)); exact HO563.out) hb)
    have n3_ := Aside0.mk (blk_below (g := gb551) (o := .cells #[.int .u64 a0_0, .int .u64 a0_1] 24 (0, 0)) (by (with_reducible repeat (first | refine blk_drewN ?_ _ | refine blk_drew ?_ | refine blk_alloc ?_ _)); exact BK551.out) hb)
    have n4_ := Aside0.mk (blk_below (g := gb552) (o := .cells #[.int .u64 a1_0, .int .u64 a1_1] 24 (0, 0)) (by (with_reducible repeat (first | refine blk_drewN ?_ _ | refine blk_drew ?_ | refine blk_alloc ?_ _)); exact BK552.out) hb)
    have n5_ := Aside0.mk (below_step (by repeat (first | (with_reducible first | exact HB.out | apply below_alloc | apply pw_below_drewN | apply below_drew1 | refine below_set ?_ GE551.out | refine below_set ?_ GE552.out) | exact HB.out)) hb)
    clear HO557
    clear HO560
    clear HO563
    clear BK551
    clear BK552
    clear HB
    have HO557 := n0_
    have HO560 := n1_
    have HO563 := n2_
    have BK551 := n3_
    have BK552 := n4_
    have HB := n5_
    clear n0_ n1_ n2_ n3_ n4_ n5_
    (try clear hb)
    (try clear hb2)
    (try clear hk)
    (try clear hi)
    refine hK.out _ _ ⟨(blk_cell BK551.out 0).trans rfl, (blk_cell BK551.out 1).trans rfl, (blk_cell BK552.out 0).trans rfl, (blk_cell BK552.out 1).trans rfl⟩ (fun hHeld => ?_)
    clear hK K
    refine norm_ (a' := ?_) ?_ ?_
    rotate_left
    · show Act.put _ (some 15) _ = _
      simp only [Act.put, List.setIfInBounds_toArray, List.set_cons_zero, List.set_cons_succ, i64_w, i32_w]
      rfl
    refine pure_ (i := 9) (N := some 16) (v := ?_) (a' := ?_) #[true, true, true, true, true, true, true, true, true, true, false, false, false, false, false, false, false, false, false, false, false] rfl rfl (any_of HT_.out (by kernel_rfl)) (fun _ _ _ h => h) (Or.inl ⟨by rfl, ?_⟩) ?_ ?_
    rotate_left
    · intro w'
      go_simp
      with_reducible rfl
    rotate_left
    · simp only [Act.put, List.setIfInBounds_toArray, List.set_cons_zero, List.set_cons_succ, i64_w, i32_w]
      rfl
    refine pure_ (i := 10) (N := some 17) (v := undef) (a' := ?_) #[true, true, true, true, true, true, true, true, true, true, true, false, false, false, false, false, false, false, false, false, false] rfl rfl (any_of HT_.out (by kernel_rfl)) (fun _ _ _ h => h) (Or.inr ⟨by rfl, rfl⟩) ?_ ?_
    rotate_left
    · simp only [Act.put, List.setIfInBounds_toArray, List.set_cons_zero, List.set_cons_succ, i64_w, i32_w]
      rfl
    refine pure_ (i := 11) (N := some 18) (v := undef) (a' := ?_) #[true, true, true, true, true, true, true, true, true, true, true, true, false, false, false, false, false, false, false, false, false] rfl rfl (any_of HT_.out (by kernel_rfl)) (fun _ _ _ h => h) (Or.inr ⟨by rfl, rfl⟩) ?_ ?_
    rotate_left
    · simp only [Act.put, List.setIfInBounds_toArray, List.set_cons_zero, List.set_cons_succ, i64_w, i32_w]
      rfl
    refine pure_ (i := 12) (N := some 19) (v := undef) (a' := ?_) #[true, true, true, true, true, true, true, true, true, true, true, true, true, false, false, false, false, false, false, false, false] rfl rfl (any_of HT_.out (by kernel_rfl)) (fun _ _ _ h => h) (Or.inr ⟨by rfl, rfl⟩) ?_ ?_
    rotate_left
    · simp only [Act.put, List.setIfInBounds_toArray, List.set_cons_zero, List.set_cons_succ, i64_w, i32_w]
      rfl
    refine pure_ (i := 13) (N := some 20) (v := undef) (a' := ?_) #[true, true, true, true, true, true, true, true, true, true, true, true, true, true, false, false, false, false, false, false, false] rfl rfl (any_of HT_.out (by kernel_rfl)) (fun _ _ _ h => h) (Or.inr ⟨by rfl, rfl⟩) ?_ ?_
    rotate_left
    · simp only [Act.put, List.setIfInBounds_toArray, List.set_cons_zero, List.set_cons_succ, i64_w, i32_w]
      rfl
    refine pure_ (i := 14) (N := some 21) (v := undef) (a' := ?_) #[true, true, true, true, true, true, true, true, true, true, true, true, true, true, true, false, false, false, false, false, false] rfl rfl (any_of HT_.out (by kernel_rfl)) (fun _ _ _ h => h) (Or.inr ⟨by rfl, rfl⟩) ?_ ?_
    rotate_left
    · simp only [Act.put, List.setIfInBounds_toArray, List.set_cons_zero, List.set_cons_succ, i64_w, i32_w]
      rfl
    refine pure_ (i := 15) (N := some 22) (v := undef) (a' := ?_) #[true, true, true, true, true, true, true, true, true, true, true, true, true, true, true, true, false, false, false, false, false] rfl rfl (any_of HT_.out (by kernel_rfl)) (fun _ _ _ h => h) (Or.inr ⟨by rfl, rfl⟩) ?_ ?_
    rotate_left
    · simp only [Act.put, List.setIfInBounds_toArray, List.set_cons_zero, List.set_cons_succ, i64_w, i32_w]
      rfl
    refine pure_ (i := 16) (N := some 23) (v := undef) (a' := ?_) #[true, true, true, true, true, true, true, true, true, true, true, true, true, true, true, true, true, false, false, false, false] rfl rfl (any_of HT_.out (by kernel_rfl)) (fun _ _ _ h => h) (Or.inr ⟨by rfl, rfl⟩) ?_ ?_
    rotate_left
    · simp only [Act.put, List.setIfInBounds_toArray, List.set_cons_zero, List.set_cons_succ, i64_w, i32_w]
      rfl
    refine pure_ (i := 17) (N := some 24) (v := undef) (a' := ?_) #[true, true, true, true, true, true, true, true, true, true, true, true, true, true, true, true, true, true, false, false, false] rfl rfl (any_of HT_.out (by kernel_rfl)) (fun _ _ _ h => h) (Or.inr ⟨by rfl, rfl⟩) ?_ ?_
    rotate_left
    · simp only [Act.put, List.setIfInBounds_toArray, List.set_cons_zero, List.set_cons_succ, i64_w, i32_w]
      rfl
    refine pure_ (i := 18) (N := some 25) (v := undef) (a' := ?_) #[true, true, true, true, true, true, true, true, true, true, true, true, true, true, true, true, true, true, true, false, false] rfl rfl (any_of HT_.out (by kernel_rfl)) (fun _ _ _ h => h) (Or.inr ⟨by rfl, rfl⟩) ?_ ?_
    rotate_left
    · simp only [Act.put, List.setIfInBounds_toArray, List.set_cons_zero, List.set_cons_succ, i64_w, i32_w]
      rfl
    refine pure_ (i := 19) (N := some 26) (v := ?_) (a' := ?_) #[true, true, true, true, true, true, true, true, true, true, true, true, true, true, true, true, true, true, true, true, false] rfl rfl (any_of HT_.out (by kernel_rfl)) (fun _ _ _ h => h) (Or.inl ⟨by rfl, ?_⟩) ?_ ?_
    rotate_left
    · intro w'
      go_simp
      with_reducible rfl
    rotate_left
    · simp only [Act.put, List.setIfInBounds_toArray, List.set_cons_zero, List.set_cons_succ, i64_w, i32_w]
      rfl
    refine pure_ (i := 20) (N := some 6) (v := ?_) (a' := ?_) #[true, true, true, true, true, true, true, true, true, true, true, true, true, true, true, true, true, true, true, true, true] rfl rfl (any_of HT_.out (by kernel_rfl)) (fun _ _ _ h => h) (Or.inl ⟨by rfl, ?_⟩) ?_ ?_
    rotate_left
    · intro w'
      go_simp
      with_reducible rfl
    rotate_left
    · simp only [Act.put, List.setIfInBounds_toArray, List.set_cons_zero, List.set_cons_succ, i64_w, i32_w]
      rfl
    refine done_ (done_of HT_.out (by kernel_rfl)) ?_
    try go_wp2
    go_ret
    exact ⟨by first | rfl | (simp [errW_none, errW_some] <;> rfl) | (simp [*, errW_none, errW_some] <;> rfl), by repeat (first | (with_reducible first | exact HB.out | apply below_alloc | apply pw_below_drewN | apply below_drew1 | refine below_set ?_ GE551.out | refine below_set ?_ GE552.out) | exact HB.out)⟩


end Go.Proofs.Ytiifnofghicnaaa.PAll
