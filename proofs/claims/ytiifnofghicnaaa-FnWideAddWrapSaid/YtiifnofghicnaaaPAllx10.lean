/- Printed by the kit's print.py, called for several laws at once: functions as plain Lean, and the walks' contracts. -/
import Derived.Test.YtiifnofghicnaaaPAllx0
import Derived.Test.YtiifnofghicnaaaPAllx3
import Derived.Test.YtiifnofghicnaaaPAllx4
import Derived.Test.YtiifnofghicnaaaPAllx9
namespace Go.Proofs.Ytiifnofghicnaaa.PAll
open Go.RowKit Go.Proofs.YtiifnofghicnaaaW.PrintWords Go.Proofs.YtiifnofghicnaaaW.PrintLast Go.Proofs.YtiifnofghicnaaaW.PrintMore
attribute [local go_sem] max2_int min2_int max_two min_two max_three min_three max_four min_four   -- for this text's walks alone
set_option linter.unusedVariables false
set_option linter.unusedSimpArgs false

/-! ### uint128_Uint128_AddWrap: function 98 -/
def uint128_Uint128_AddWrap.f (a0_0 a0_1 a1_0 a1_1 : Int) : Option (Int × Int) :=
  if U64 a0_0 ∧ U64 a0_1 ∧ U64 a1_0 ∧ U64 a1_1 then some (halves (N128 a0_0 a0_1 + N128 a1_0 a1_1)) else none
theorem addw_1 (a b c d : Nat) : aLo a c 0 = (a + b * 18446744073709551616 + (c + d * 18446744073709551616)) % 18446744073709551616 := by unfold aLo; omega
theorem addw_2 (a b c d : Nat) (ha : a < 18446744073709551616) (hc : c < 18446744073709551616) : aLo b d (aHi a c 0) = (a + b * 18446744073709551616 + (c + d * 18446744073709551616)) / 18446744073709551616 % 18446744073709551616 := by unfold aLo aHi; omega
set_option maxHeartbeats 2000000 in
set_option maxRecDepth 100000 in
theorem addwrap_nat (a b c d : Nat) (ha : a < 18446744073709551616) (hb : b < 18446744073709551616) (hc : c < 18446744073709551616) (hd : d < 18446744073709551616) (w : World) :
    Calls Try.prog 98 #[.agg #[.int .u64 a, .int .u64 b], .agg #[.int .u64 c, .int .u64 d]] w fun e w' => e = .returned (.agg #[.int .u64 (aLo a c 0 : Int), .int .u64 (aLo b d (aHi a c 0) : Int)]) ∧ Below w.heap.size w w' := by
  have r1 := run_add64_0 a c
  have r2 := run_add64 b d (aHi a c 0) (aHi_le ha hc (by decide))
  clear ha hb hc hd
  go_enter Try.func98, Try.ntmps98
  go_wp2
  refine bodyPost_ret (v := .agg #[.int .u64 (aLo a c 0 : Int), .int .u64 (aLo b d (aHi a c 0) : Int)]) (by simp [results, Try.results98, go_sem]) rfl ⟨rfl, ?_⟩
  exact (((Below.refl w.heap.size w).alloc (Nat.le_refl _) _).alloc (by simp) _).alloc (by simp; omega) _
theorem uint128_Uint128_AddWrap.calls (a0_0 : Int) (a0_1 : Int) (a1_0 : Int) (a1_1 : Int) (r1 : Int) (r2 : Int) (w : World) (h : uint128_Uint128_AddWrap.f a0_0 a0_1 a1_0 a1_1 = some (r1, r2)) :
    Calls Try.prog 98 #[.agg #[.int .u64 a0_0, .int .u64 a0_1], .agg #[.int .u64 a1_0, .int .u64 a1_1]] w fun e w' => e = .returned (.agg #[.int .u64 r1, .int .u64 r2]) ∧ Below w.heap.size w w' := by
  unfold uint128_Uint128_AddWrap.f at h
  split at h
  case isFalse => cases h
  rename_i hb
  obtain ⟨ka, kb, kc, kd⟩ := hb
  obtain ⟨a, rfl, ha⟩ := ka.nat
  obtain ⟨b, rfl, hb⟩ := kb.nat
  obtain ⟨c, rfl, hc⟩ := kc.nat
  obtain ⟨d, rfl, hd⟩ := kd.nat
  have e := Option.some.inj h
  simp only [halves, N128, Int.toNat_natCast, Prod.mk.injEq] at e
  rw [← addw_1, ← addw_2 a b c d ha hc] at e
  obtain ⟨rfl, rfl⟩ := e
  exact addwrap_nat a b c d ha hb hc hd w

/-! ### impl_WideAddWrap: function 52 -/
def impl_WideAddWrap.f (a0_0 : Int) (a0_1 : Int) (a1_0 : Int) (a1_1 : Int) : Option (Int × Int) := (impl_Wide_u.f a0_0 a0_1).bind fun bt381 => ((impl_Wide_u.f a1_0 a1_1).bind fun bt383 => ((uint128_Uint128_AddWrap.f bt381.1 bt381.2 bt383.1 bt383.2).bind fun bt385 => ((impl_wide.f bt385.1 bt385.2).bind fun bt387 => (some (bt387.1, bt387.2)))))
set_option maxHeartbeats 8000000 in
set_option maxRecDepth 100000 in
theorem impl_WideAddWrap.calls (a0_0 : Int) (a0_1 : Int) (a1_0 : Int) (a1_1 : Int) (r1 : Int) (r2 : Int) (w : World) (h : impl_WideAddWrap.f a0_0 a0_1 a1_0 a1_1 = some (r1, r2)) :
    Calls Try.prog 52 #[.agg #[.int .u64 a0_0, .int .u64 a0_1], .agg #[.int .u64 a1_0, .int .u64 a1_1]] w fun e w' => e = .returned (.agg #[.int .u64 r1, .int .u64 r2]) ∧ Below w.heap.size w w' := by
  have hu24 := Try.underlying24
  have HB := Aside0.mk (Below.refl w.heap.size w)
  have H : ((impl_Wide_u.f a0_0 a0_1).bind fun bt381 => ((impl_Wide_u.f a1_0 a1_1).bind fun bt383 => ((uint128_Uint128_AddWrap.f bt381.1 bt381.2 bt383.1 bt383.2).bind fun bt385 => ((impl_wide.f bt385.1 bt385.2).bind fun bt387 => (some (bt387.1, bt387.2)))))) = some (r1, r2) := h
  clear h
  replace H := Option.bind_eq_some_iff.mp H
  obtain ⟨⟨t381, t382⟩, A30, H⟩ := H
  replace H : ((impl_Wide_u.f a1_0 a1_1).bind fun bt383 => ((uint128_Uint128_AddWrap.f t381 t382 bt383.1 bt383.2).bind fun bt385 => ((impl_wide.f bt385.1 bt385.2).bind fun bt387 => (some (bt387.1, bt387.2))))) = some (r1, r2) := H
  have A3 := Aside0.mk A30
  clear A30
  replace H := Option.bind_eq_some_iff.mp H
  obtain ⟨⟨t383, t384⟩, A40, H⟩ := H
  replace H : ((uint128_Uint128_AddWrap.f t381 t382 t383 t384).bind fun bt385 => ((impl_wide.f bt385.1 bt385.2).bind fun bt387 => (some (bt387.1, bt387.2)))) = some (r1, r2) := H
  have A4 := Aside0.mk A40
  clear A40
  replace H := Option.bind_eq_some_iff.mp H
  obtain ⟨⟨t385, t386⟩, A50, H⟩ := H
  replace H : ((impl_wide.f t385 t386).bind fun bt387 => (some (bt387.1, bt387.2))) = some (r1, r2) := H
  have A5 := Aside0.mk A50
  clear A50
  replace H := Option.bind_eq_some_iff.mp H
  obtain ⟨⟨t387, t388⟩, A60, H⟩ := H
  replace H : (some (t387, t388)) = some (r1, r2) := H
  have A6 := Aside0.mk A60
  clear A60
  simp only [Option.some.injEq, Prod.mk.injEq] at H
  obtain ⟨rfl, rfl⟩ := H
  go_enter Try.func52, Try.ntmps52
  try go_wp2_with (first | ((with_reducible refine gate_dst (N := 2) rfl ?_); refine box_event ?hg (N := 2) ?hd (cs := #[.int .u64 a0_0, .int .u64 a0_1]) (t := 24) ?hr ?_; (case hd => rfl); (case hg => rfl); (case hr => first | (go_simp; done) | (go_simp; rfl)); intro gb378 hg w7 hbox hb; have n0_ := Aside0.mk (below_step (by repeat (first | (with_reducible first | exact HB.out | apply below_alloc | apply pw_below_drewN | apply below_drew1) | exact HB.out)) hb); have n1_ := Aside0.mk (hbox); have n2_ := Aside0.mk ((by rw [hg]; exact (below_size (by repeat (first | (with_reducible first | exact HB.out | apply below_alloc | apply pw_below_drewN | apply below_drew1) | exact HB.out))) : w.heap.size ≤ gb378)); have n3_ := Aside0.mk ((by rw [hg]; exact (below_size (by repeat (first | (with_reducible first | exact HB.out | apply below_alloc | apply pw_below_drewN | apply below_drew1) | exact HB.out))) : w.heap.size ≤ gb378)); clear HB; have HB := n0_; have BK378 := n1_; have GW378 := n2_; have GE378 := n3_; clear n0_ n1_ n2_ n3_; clear hb hbox hg) | ((with_reducible refine gate_dst (N := 3) rfl ?_); refine box_event ?hg (N := 3) ?hd (cs := #[.int .u64 a1_0, .int .u64 a1_1]) (t := 24) ?hr ?_; (case hd => rfl); (case hg => rfl); (case hr => first | (go_simp; done) | (go_simp; rfl)); intro gb379 hg w8 hbox hb; have n0_ := Aside0.mk (blk_below (g := gb378) (o := .cells #[.int .u64 a0_0, .int .u64 a0_1] 24 (0, 0)) (by (with_reducible repeat (first | refine blk_drewN ?_ _ | refine blk_drew ?_ | refine blk_alloc ?_ _)); exact BK378.out) hb); have n1_ := Aside0.mk (below_step (by repeat (first | (with_reducible first | exact HB.out | apply below_alloc | apply pw_below_drewN | apply below_drew1 | refine below_set ?_ GE378.out) | exact HB.out)) hb); have n2_ := Aside0.mk (hbox); have n3_ := Aside0.mk ((by rw [hg]; exact (below_size (by repeat (first | (with_reducible first | exact HB.out | apply below_alloc | apply pw_below_drewN | apply below_drew1 | refine below_set ?_ GE378.out) | exact HB.out))) : w.heap.size ≤ gb379)); have n4_ := Aside0.mk ((by rw [hg]; exact (below_size (by repeat (first | (with_reducible first | exact HB.out | apply below_alloc | apply pw_below_drewN | apply below_drew1 | refine below_set ?_ GE378.out) | exact HB.out))) : w.heap.size ≤ gb379)); have n5_ := Aside0.mk ((by rw [hg]; exact Nat.ne_of_lt (blk_lt (g := gb378) (o := .cells #[.int .u64 a0_0, .int .u64 a0_1] 24 (0, 0)) (by (with_reducible repeat (first | refine blk_drewN ?_ _ | refine blk_drew ?_ | refine blk_alloc ?_ _)); exact BK378.out)) : gb378 ≠ gb379)); have n6_ := Aside0.mk ((by rw [hg]; exact Nat.ne_of_gt (blk_lt (g := gb378) (o := .cells #[.int .u64 a0_0, .int .u64 a0_1] 24 (0, 0)) (by (with_reducible repeat (first | refine blk_drewN ?_ _ | refine blk_drew ?_ | refine blk_alloc ?_ _)); exact BK378.out)) : gb379 ≠ gb378)); clear BK378; clear HB; have BK378 := n0_; have HB := n1_; have BK379 := n2_; have GW379 := n3_; have GE379 := n4_; have NB378_379 := n5_; have NB379_378 := n6_; clear n0_ n1_ n2_ n3_ n4_ n5_ n6_; clear hb hbox hg) | ((with_reducible refine gate_dst (N := 4) rfl ?_); refine box_event ?hg (N := 4) ?hd (cs := #[.int .u64 0, .int .u64 0]) (t := 24) ?hr ?_; (case hd => rfl); (case hg => rfl); (case hr => first | (go_simp; done) | (go_simp; rfl)); intro gb380 hg w9 hbox hb; have n0_ := Aside0.mk (blk_below (g := gb378) (o := .cells #[.int .u64 a0_0, .int .u64 a0_1] 24 (0, 0)) (by (with_reducible repeat (first | refine blk_drewN ?_ _ | refine blk_drew ?_ | refine blk_alloc ?_ _)); exact BK378.out) hb); have n1_ := Aside0.mk (blk_below (g := gb379) (o := .cells #[.int .u64 a1_0, .int .u64 a1_1] 24 (0, 0)) (by (with_reducible repeat (first | refine blk_drewN ?_ _ | refine blk_drew ?_ | refine blk_alloc ?_ _)); exact BK379.out) hb); have n2_ := Aside0.mk (below_step (by repeat (first | (with_reducible first | exact HB.out | apply below_alloc | apply pw_below_drewN | apply below_drew1 | refine below_set ?_ GE378.out | refine below_set ?_ GE379.out) | exact HB.out)) hb); have n3_ := Aside0.mk (hbox); have n4_ := Aside0.mk ((by rw [hg]; exact (below_size (by repeat (first | (with_reducible first | exact HB.out | apply below_alloc | apply pw_below_drewN | apply below_drew1 | refine below_set ?_ GE378.out | refine below_set ?_ GE379.out) | exact HB.out))) : w.heap.size ≤ gb380)); have n5_ := Aside0.mk ((by rw [hg]; exact (below_size (by repeat (first | (with_reducible first | exact HB.out | apply below_alloc | apply pw_below_drewN | apply below_drew1 | refine below_set ?_ GE378.out | refine below_set ?_ GE379.out) | exact HB.out))) : w.heap.size ≤ gb380)); have n6_ := Aside0.mk ((by rw [hg]; exact Nat.ne_of_lt (blk_lt (g := gb378) (o := .cells #[.int .u64 a0_0, .int .u64 a0_1] 24 (0, 0)) (by (with_reducible repeat (first | refine blk_drewN ?_ _ | refine blk_drew ?_ | refine blk_alloc ?_ _)); exact BK378.out)) : gb378 ≠ gb380)); have n7_ := Aside0.mk ((by rw [hg]; exact Nat.ne_of_gt (blk_lt (g := gb378) (o := .cells #[.int .u64 a0_0, .int .u64 a0_1] 24 (0, 0)) (by (with_reducible repeat (first | refine blk_drewN ?_ _ | refine blk_drew ?_ | refine blk_alloc ?_ _)); exact BK378.out)) : gb380 ≠ gb378)); have n8_ := Aside0.mk ((by rw [hg]; exact Nat.ne_of_lt (blk_lt (g := gb379) (o := .cells #[.int .u64 a1_0, .int .u64 a1_1] 24 (0, 0)) (by (with_reducible repeat (first | refine blk_drewN ?_ _ | refine blk_drew ?_ | refine blk_alloc ?_ _)); exact BK379.out)) : gb379 ≠ gb380)); have n9_ := Aside0.mk ((by rw [hg]; exact Nat.ne_of_gt (blk_lt (g := gb379) (o := .cells #[.int .u64 a1_0, .int .u64 a1_1] 24 (0, 0)) (by (with_reducible repeat (first | refine blk_drewN ?_ _ | refine blk_drew ?_ | refine blk_alloc ?_ _)); exact BK379.out)) : gb380 ≠ gb379)); clear BK378; clear BK379; clear HB; have BK378 := n0_; have BK379 := n1_; have HB := n2_; have BK380 := n3_; have GW380 := n4_; have GE380 := n5_; have NB378_380 := n6_; have NB380_378 := n7_; have NB379_380 := n8_; have NB380_379 := n9_; clear n0_ n1_ n2_ n3_ n4_ n5_ n6_ n7_ n8_ n9_; clear hb hbox hg))
  have n0_ := Aside0.mk (blk_drew BK378.out)
  have n1_ := Aside0.mk (blk_drew BK379.out)
  have n2_ := Aside0.mk (blk_drew BK380.out)
  have n3_ := Aside0.mk (below_drew1 HB.out)
  clear BK378
  clear BK379
  clear BK380
  clear HB
  have BK378 := n0_
  have BK379 := n1_
  have BK380 := n2_
  have HB := n3_
  clear n0_ n1_ n2_ n3_
  refine start_ (n := 7) (S := fun w' => w'.cell? ⟨gb378, 0, none⟩ = some (.int .u64 a0_0) ∧ w'.cell? ⟨gb378, 1, none⟩ = some (.int .u64 a0_1) ∧ w'.cell? ⟨gb379, 0, none⟩ = some (.int .u64 a1_0) ∧ w'.cell? ⟨gb379, 1, none⟩ = some (.int .u64 a1_1)) (ds := []) #[false, false, false, false, false, false, false] (by kernel_rfl) rfl rfl ⟨(blk_cell BK378.out 0).trans rfl, (blk_cell BK378.out 1).trans rfl, (blk_cell BK379.out 0).trans rfl, (blk_cell BK379.out 1).trans rfl⟩ (fun hHeld => ?_)
  generalize w9.drew = w10 at BK378 BK379 BK380 HB hHeld ⊢
  refine take_ (i := 0) (N := some 5) (v := ?_) (a' := ?_) #[true, false, false, false, false, false, false] rfl rfl (by kernel_rfl) (fun _ _ _ h => h) (Or.inl ⟨by rfl, ?_⟩) hHeld ?_ ?_
  rotate_left
  · rintro w' ⟨s0, s1, s2, s3⟩
    go_simp
    with_reducible rfl
  rotate_left
  · simp only [Act.put, List.setIfInBounds_toArray, List.set_cons_zero, List.set_cons_succ, i64_w, i32_w]
    rfl
  refine take_ (i := 2) (N := some 7) (v := ?_) (a' := ?_) #[true, false, true, false, false, false, false] rfl rfl (by kernel_rfl) (fun _ _ _ h => h) (Or.inl ⟨by rfl, ?_⟩) hHeld ?_ ?_
  rotate_left
  · rintro w' ⟨s0, s1, s2, s3⟩
    go_simp
    with_reducible rfl
  rotate_left
  · simp only [Act.put, List.setIfInBounds_toArray, List.set_cons_zero, List.set_cons_succ, i64_w, i32_w]
    rfl
  refine one_ (i := 1) (N := some 6) #[true, true, true, false, false, false, false] rfl rfl (by kernel_rfl) (by decide) (fun K hK => ?_)
  refine goes_ Try.func76 (by kernel_rfl) rfl #[.agg #[.int .u64 a0_0, .int .u64 a0_1]] (by rfl) rfl rfl (by (try simp only [List.map_toArray, List.map_cons, List.map_nil]); first | done | rfl | (simp only [List.length_drop, List.length_take]; rfl)) ?_
  with_reducible refine (impl_Wide_u.calls a0_0 a0_1 t381 t382 _ A3.out).mono ?_
  rintro e w11 ⟨rfl, hb⟩
  refine ⟨_, rfl, ?_⟩
  have n0_ := Aside0.mk (blk_below (g := gb378) (o := .cells #[.int .u64 a0_0, .int .u64 a0_1] 24 (0, 0)) (by (with_reducible repeat (first | refine blk_drewN ?_ _ | refine blk_drew ?_ | refine blk_alloc ?_ _)); exact BK378.out) hb)
  have n1_ := Aside0.mk (blk_below (g := gb379) (o := .cells #[.int .u64 a1_0, .int .u64 a1_1] 24 (0, 0)) (by (with_reducible repeat (first | refine blk_drewN ?_ _ | refine blk_drew ?_ | refine blk_alloc ?_ _)); exact BK379.out) hb)
  have n2_ := Aside0.mk (blk_below (g := gb380) (o := .cells #[.int .u64 0, .int .u64 0] 24 (0, 0)) (by (with_reducible repeat (first | refine blk_drewN ?_ _ | refine blk_drew ?_ | refine blk_alloc ?_ _)); exact BK380.out) hb)
  have n3_ := Aside0.mk (below_step (by repeat (first | (with_reducible first | exact HB.out | apply below_alloc | apply pw_below_drewN | apply below_drew1 | refine below_set ?_ GE378.out | refine below_set ?_ GE379.out | refine below_set ?_ GE380.out) | exact HB.out)) hb)
  clear BK378
  clear BK379
  clear BK380
  clear HB
  have BK378 := n0_
  have BK379 := n1_
  have BK380 := n2_
  have HB := n3_
  clear n0_ n1_ n2_ n3_
  (try clear hb)
  (try clear hb2)
  (try clear hk)
  (try clear hi)
  refine hK.out _ _ ⟨(blk_cell BK378.out 0).trans rfl, (blk_cell BK378.out 1).trans rfl, (blk_cell BK379.out 0).trans rfl, (blk_cell BK379.out 1).trans rfl⟩ (fun hHeld => ?_)
  clear hK K
  refine norm_ (a' := ?_) ?_ ?_
  rotate_left
  · show Act.put _ (some 6) _ = _
    simp only [Act.put, List.setIfInBounds_toArray, List.set_cons_zero, List.set_cons_succ, i64_w, i32_w]
    rfl
  refine one_ (i := 3) (N := some 8) #[true, true, true, true, false, false, false] rfl rfl (by kernel_rfl) (by decide) (fun K hK => ?_)
  refine goes_ Try.func76 (by kernel_rfl) rfl #[.agg #[.int .u64 a1_0, .int .u64 a1_1]] (by rfl) rfl rfl (by (try simp only [List.map_toArray, List.map_cons, List.map_nil]); first | done | rfl | (simp only [List.length_drop, List.length_take]; rfl)) ?_
  with_reducible refine (impl_Wide_u.calls a1_0 a1_1 t383 t384 _ A4.out).mono ?_
  rintro e w12 ⟨rfl, hb⟩
  refine ⟨_, rfl, ?_⟩
  have n0_ := Aside0.mk (blk_below (g := gb378) (o := .cells #[.int .u64 a0_0, .int .u64 a0_1] 24 (0, 0)) (by (with_reducible repeat (first | refine blk_drewN ?_ _ | refine blk_drew ?_ | refine blk_alloc ?_ _)); exact BK378.out) hb)
  have n1_ := Aside0.mk (blk_below (g := gb379) (o := .cells #[.int .u64 a1_0, .int .u64 a1_1] 24 (0, 0)) (by (with_reducible repeat (first | refine blk_drewN ?_ _ | refine blk_drew ?_ | refine blk_alloc ?_ _)); exact BK379.out) hb)
  have n2_ := Aside0.mk (blk_below (g := gb380) (o := .cells #[.int .u64 0, .int .u64 0] 24 (0, 0)) (by (with_reducible repeat (first | refine blk_drewN ?_ _ | refine blk_drew ?_ | refine blk_alloc ?_ _)); exact BK380.out) hb)
  have n3_ := Aside0.mk (below_step (by repeat (first | (with_reducible first | exact HB.out | apply below_alloc | apply pw_below_drewN | apply below_drew1 | refine below_set ?_ GE378.out | refine below_set ?_ GE379.out | refine below_set ?_ GE380.out) | exact HB.out)) hb)
  clear BK378
  clear BK379
  clear BK380
  clear HB
  have BK378 := n0_
  have BK379 := n1_
  have BK380 := n2_
  have HB := n3_
  clear n0_ n1_ n2_ n3_
  (try clear hb)
  (try clear hb2)
  (try clear hk)
  (try clear hi)
  refine hK.out _ _ ⟨(blk_cell BK378.out 0).trans rfl, (blk_cell BK378.out 1).trans rfl, (blk_cell BK379.out 0).trans rfl, (blk_cell BK379.out 1).trans rfl⟩ (fun hHeld => ?_)
  clear hK K
  refine norm_ (a' := ?_) ?_ ?_
  rotate_left
  · show Act.put _ (some 8) _ = _
    simp only [Act.put, List.setIfInBounds_toArray, List.set_cons_zero, List.set_cons_succ, i64_w, i32_w]
    rfl
  refine one_ (i := 4) (N := some 9) #[true, true, true, true, true, false, false] rfl rfl (by kernel_rfl) (by decide) (fun K hK => ?_)
  refine goes_ Try.func98 (by kernel_rfl) rfl #[.agg #[.int .u64 t381, .int .u64 t382], .agg #[.int .u64 t383, .int .u64 t384]] (by rfl) rfl rfl (by (try simp only [List.map_toArray, List.map_cons, List.map_nil]); first | done | rfl | (simp only [List.length_drop, List.length_take]; rfl)) ?_
  with_reducible refine (uint128_Uint128_AddWrap.calls t381 t382 t383 t384 t385 t386 _ A5.out).mono ?_
  rintro e w13 ⟨rfl, hb⟩
  refine ⟨_, rfl, ?_⟩
  have n0_ := Aside0.mk (blk_below (g := gb378) (o := .cells #[.int .u64 a0_0, .int .u64 a0_1] 24 (0, 0)) (by (with_reducible repeat (first | refine blk_drewN ?_ _ | refine blk_drew ?_ | refine blk_alloc ?_ _)); exact BK378.out) hb)
  have n1_ := Aside0.mk (blk_below (g := gb379) (o := .cells #[.int .u64 a1_0, .int .u64 a1_1] 24 (0, 0)) (by (with_reducible repeat (first | refine blk_drewN ?_ _ | refine blk_drew ?_ | refine blk_alloc ?_ _)); exact BK379.out) hb)
  have n2_ := Aside0.mk (blk_below (g := gb380) (o := .cells #[.int .u64 0, .int .u64 0] 24 (0, 0)) (by (with_reducible repeat (first | refine blk_drewN ?_ _ | refine blk_drew ?_ | refine blk_alloc ?_ _)); exact BK380.out) hb)
  have n3_ := Aside0.mk (below_step (by repeat (first | (with_reducible first | exact HB.out | apply below_alloc | apply pw_below_drewN | apply below_drew1 | refine below_set ?_ GE378.out | refine below_set ?_ GE379.out | refine below_set ?_ GE380.out) | exact HB.out)) hb)
  clear BK378
  clear BK379
  clear BK380
  clear HB
  have BK378 := n0_
  have BK379 := n1_
  have BK380 := n2_
  have HB := n3_
  clear n0_ n1_ n2_ n3_
  (try clear hb)
  (try clear hb2)
  (try clear hk)
  (try clear hi)
  refine hK.out _ _ ⟨(blk_cell BK378.out 0).trans rfl, (blk_cell BK378.out 1).trans rfl, (blk_cell BK379.out 0).trans rfl, (blk_cell BK379.out 1).trans rfl⟩ (fun hHeld => ?_)
  clear hK K
  refine norm_ (a' := ?_) ?_ ?_
  rotate_left
  · show Act.put _ (some 9) _ = _
    simp only [Act.put, List.setIfInBounds_toArray, List.set_cons_zero, List.set_cons_succ, i64_w, i32_w]
    rfl
  refine one_ (i := 5) (N := some 10) #[true, true, true, true, true, true, false] rfl rfl (by kernel_rfl) (by decide) (fun K hK => ?_)
  refine goes_ Try.func80 (by kernel_rfl) rfl #[.agg #[.int .u64 t385, .int .u64 t386]] (by rfl) rfl rfl (by (try simp only [List.map_toArray, List.map_cons, List.map_nil]); first | done | rfl | (simp only [List.length_drop, List.length_take]; rfl)) ?_
  with_reducible refine (impl_wide.calls t385 t386 t387 t388 _ A6.out).mono ?_
  rintro e w14 ⟨rfl, hb⟩
  refine ⟨_, rfl, ?_⟩
  have n0_ := Aside0.mk (blk_below (g := gb378) (o := .cells #[.int .u64 a0_0, .int .u64 a0_1] 24 (0, 0)) (by (with_reducible repeat (first | refine blk_drewN ?_ _ | refine blk_drew ?_ | refine blk_alloc ?_ _)); exact BK378.out) hb)
  have n1_ := Aside0.mk (blk_below (g := gb379) (o := .cells #[.int .u64 a1_0, .int .u64 a1_1] 24 (0, 0)) (by (with_reducible repeat (first | refine blk_drewN ?_ _ | refine blk_drew ?_ | refine blk_alloc ?_ _)); exact BK379.out) hb)
  have n2_ := Aside0.mk (blk_below (g := gb380) (o := .cells #[.int .u64 0, .int .u64 0] 24 (0, 0)) (by (with_reducible repeat (first | refine blk_drewN ?_ _ | refine blk_drew ?_ | refine blk_alloc ?_ _)); exact BK380.out) hb)
  have n3_ := Aside0.mk (below_step (by repeat (first | (with_reducible first | exact HB.out | apply below_alloc | apply pw_below_drewN | apply below_drew1 | refine below_set ?_ GE378.out | refine below_set ?_ GE379.out | refine below_set ?_ GE380.out) | exact HB.out)) hb)
  clear BK378
  clear BK379
  clear BK380
  clear HB
  have BK378 := n0_
  have BK379 := n1_
  have BK380 := n2_
  have HB := n3_
  clear n0_ n1_ n2_ n3_
  (try clear hb)
  (try clear hb2)
  (try clear hk)
  (try clear hi)
  refine hK.out _ _ ⟨(blk_cell BK378.out 0).trans rfl, (blk_cell BK378.out 1).trans rfl, (blk_cell BK379.out 0).trans rfl, (blk_cell BK379.out 1).trans rfl⟩ (fun hHeld => ?_)
  clear hK K
  refine norm_ (a' := ?_) ?_ ?_
  rotate_left
  · show Act.put _ (some 10) _ = _
    simp only [Act.put, List.setIfInBounds_toArray, List.set_cons_zero, List.set_cons_succ, i64_w, i32_w]
    rfl
  refine one_ (i := 6) (N := none) #[true, true, true, true, true, true, true] rfl rfl (by kernel_rfl) (by decide) (fun K hK => ?_)
  have hs15 : w14.cell? ⟨gb380, 0, none⟩ = some (.int .u64 0) := (blk_cell BK380.out 0).trans rfl
  have hfs15 := blk_frozen BK380.out 0
  have hns15_0 := NB378_380.out
  have hns15_1 := NB379_380.out
  have hms15_0 := NB380_378.out
  have hms15_1 := NB380_379.out
  have hs16 : w14.cell? ⟨gb380, 1, none⟩ = some (.int .u64 0) := (blk_cell BK380.out 1).trans rfl
  have hfs16 := blk_frozen BK380.out 1
  have hns16_0 := NB378_380.out
  have hns16_1 := NB379_380.out
  have hms16_0 := NB380_378.out
  have hms16_1 := NB380_379.out
  refine skip_ (w1 := ?_) (by rfl) rfl ?_ ?_
  rotate_left
  · go_simp
    rfl
  refine hK.out _ _ ⟨((cell_far (p := ⟨gb380, _, none⟩) NB378_380.out _).trans (((cell_far (p := ⟨gb380, _, none⟩) NB378_380.out _).trans (hHeld.1)))), ((cell_far (p := ⟨gb380, _, none⟩) NB378_380.out _).trans (((cell_far (p := ⟨gb380, _, none⟩) NB378_380.out _).trans (hHeld.2.1)))), ((cell_far (p := ⟨gb380, _, none⟩) NB379_380.out _).trans (((cell_far (p := ⟨gb380, _, none⟩) NB379_380.out _).trans (hHeld.2.2.1)))), ((cell_far (p := ⟨gb380, _, none⟩) NB379_380.out _).trans (((cell_far (p := ⟨gb380, _, none⟩) NB379_380.out _).trans (hHeld.2.2.2))))⟩ (fun hHeld => ?_)
  clear hK K
  refine done_ (by kernel_rfl) ?_
  try go_wp2
  refine bodyPost_ret (results_cell_row rfl _ _ gb380 24 #[.int .u64 t387, .int .u64 t388] (0, 0) _ rfl (by (with_reducible repeat (first | refine blk_drewN ?_ _ | refine blk_drew ?_ | refine blk_alloc ?_ _)); refine blk_put (cs := #[.int .u64 t387, .int .u64 0]) ?_ 1 _ rfl; (with_reducible repeat (first | refine blk_drewN ?_ _ | refine blk_drew ?_ | refine blk_alloc ?_ _)); refine blk_put (cs := #[.int .u64 0, .int .u64 0]) ?_ 0 _ rfl; (with_reducible repeat (first | refine blk_drewN ?_ _ | refine blk_drew ?_ | refine blk_alloc ?_ _)); exact BK380.out) Try.underlying24 rfl (by kernel_rfl)) rfl ?_
  exact ⟨by first | rfl | (simp [errW_none, errW_some] <;> rfl) | (simp [*, errW_none, errW_some] <;> rfl), by repeat (first | (with_reducible first | exact HB.out | apply below_alloc | apply pw_below_drewN | apply below_drew1 | refine below_set ?_ GE378.out | refine below_set ?_ GE379.out | refine below_set ?_ GE380.out) | exact HB.out)⟩


/-! ### uint128_Uint128_AddWrap64: function 99 -/
def uint128_Uint128_AddWrap64.f (a0_0 a0_1 a1 : Int) : Option (Int × Int) :=
  if U64 a0_0 ∧ U64 a0_1 ∧ U64 a1 then some (halves (N128 a0_0 a0_1 + a1.toNat)) else none
theorem addw64_1 (a b c : Nat) : aLo a c 0 = (a + b * 18446744073709551616 + c) % 18446744073709551616 := by unfold aLo; omega
theorem addw64_2 (a b c : Nat) (ha : a < 18446744073709551616) (hc : c < 18446744073709551616) : aLo b 0 (aHi a c 0) = (a + b * 18446744073709551616 + c) / 18446744073709551616 % 18446744073709551616 := by unfold aLo aHi; omega
set_option maxHeartbeats 2000000 in
set_option maxRecDepth 100000 in
theorem addwrap64_nat (a b c : Nat) (ha : a < 18446744073709551616) (hb : b < 18446744073709551616) (hc : c < 18446744073709551616) (w : World) :
    Calls Try.prog 99 #[.agg #[.int .u64 a, .int .u64 b], .int .u64 c] w fun e w' => e = .returned (.agg #[.int .u64 (aLo a c 0 : Int), .int .u64 (aLo b 0 (aHi a c 0) : Int)]) ∧ Below w.heap.size w w' := by
  have r1 := run_add64_0 a c
  have r2 : IntKind.u64.wrap ((b : Int) + (aHi a c 0 : Int)) = (aLo b 0 (aHi a c 0) : Int) := by rw [IntKind.wrap_u64]; unfold aLo; omega
  clear ha hb hc
  go_enter Try.func99, Try.ntmps99
  go_wp2
  refine bodyPost_ret (v := .agg #[.int .u64 (aLo a c 0 : Int), .int .u64 (aLo b 0 (aHi a c 0) : Int)]) (by simp [results, Try.results99, go_sem]) rfl ⟨rfl, ?_⟩
  exact ((Below.refl w.heap.size w).alloc (Nat.le_refl _) _).alloc (by simp) _
theorem uint128_Uint128_AddWrap64.calls (a0_0 : Int) (a0_1 : Int) (a1 : Int) (r1 : Int) (r2 : Int) (w : World) (h : uint128_Uint128_AddWrap64.f a0_0 a0_1 a1 = some (r1, r2)) :
    Calls Try.prog 99 #[.agg #[.int .u64 a0_0, .int .u64 a0_1], .int .u64 a1] w fun e w' => e = .returned (.agg #[.int .u64 r1, .int .u64 r2]) ∧ Below w.heap.size w w' := by
  unfold uint128_Uint128_AddWrap64.f at h
  split at h
  case isFalse => cases h
  rename_i hb
  obtain ⟨ka, kb, kc⟩ := hb
  obtain ⟨a, rfl, ha⟩ := ka.nat
  obtain ⟨b, rfl, hb⟩ := kb.nat
  obtain ⟨c, rfl, hc⟩ := kc.nat
  have e := Option.some.inj h
  simp only [halves, N128, Int.toNat_natCast, Prod.mk.injEq] at e
  rw [← addw64_1 a b c, ← addw64_2 a b c ha hc] at e
  obtain ⟨rfl, rfl⟩ := e
  exact addwrap64_nat a b c ha hb hc w

/-! ### impl_WideAddWrap64: function 54 -/
def impl_WideAddWrap64.f (a0_0 : Int) (a0_1 : Int) (a1 : Int) : Option (Int × Int) := (impl_Wide_u.f a0_0 a0_1).bind fun bt391 => ((uint128_Uint128_AddWrap64.f bt391.1 bt391.2 a1).bind fun bt393 => ((impl_wide.f bt393.1 bt393.2).bind fun bt395 => (some (bt395.1, bt395.2))))
set_option maxHeartbeats 8000000 in
set_option maxRecDepth 100000 in
theorem impl_WideAddWrap64.calls (a0_0 : Int) (a0_1 : Int) (a1 : Int) (r1 : Int) (r2 : Int) (w : World) (h : impl_WideAddWrap64.f a0_0 a0_1 a1 = some (r1, r2)) :
    Calls Try.prog 54 #[.agg #[.int .u64 a0_0, .int .u64 a0_1], .int .u64 a1] w fun e w' => e = .returned (.agg #[.int .u64 r1, .int .u64 r2]) ∧ Below w.heap.size w w' := by
  have hu24 := Try.underlying24
  have HB := Aside0.mk (Below.refl w.heap.size w)
  have H : ((impl_Wide_u.f a0_0 a0_1).bind fun bt391 => ((uint128_Uint128_AddWrap64.f bt391.1 bt391.2 a1).bind fun bt393 => ((impl_wide.f bt393.1 bt393.2).bind fun bt395 => (some (bt395.1, bt395.2))))) = some (r1, r2) := h
  clear h
  replace H := Option.bind_eq_some_iff.mp H
  obtain ⟨⟨t391, t392⟩, A30, H⟩ := H
  replace H : ((uint128_Uint128_AddWrap64.f t391 t392 a1).bind fun bt393 => ((impl_wide.f bt393.1 bt393.2).bind fun bt395 => (some (bt395.1, bt395.2)))) = some (r1, r2) := H
  have A3 := Aside0.mk A30
  clear A30
  replace H := Option.bind_eq_some_iff.mp H
  obtain ⟨⟨t393, t394⟩, A40, H⟩ := H
  replace H : ((impl_wide.f t393 t394).bind fun bt395 => (some (bt395.1, bt395.2))) = some (r1, r2) := H
  have A4 := Aside0.mk A40
  clear A40
  replace H := Option.bind_eq_some_iff.mp H
  obtain ⟨⟨t395, t396⟩, A50, H⟩ := H
  replace H : (some (t395, t396)) = some (r1, r2) := H
  have A5 := Aside0.mk A50
  clear A50
  simp only [Option.some.injEq, Prod.mk.injEq] at H
  obtain ⟨rfl, rfl⟩ := H
  go_enter Try.func54, Try.ntmps54
  go_wp2_with (first | ((with_reducible refine gate_dst (N := 2) rfl ?_); refine box_event ?hg (N := 2) ?hd (cs := #[.int .u64 a0_0, .int .u64 a0_1]) (t := 24) ?hr ?_; (case hd => rfl); (case hg => rfl); (case hr => first | (go_simp; done) | (go_simp; rfl)); intro gb389 hg w6 hbox hb; have n0_ := Aside0.mk (below_step (by repeat (first | (with_reducible first | exact HB.out | apply below_alloc | apply pw_below_drewN | apply below_drew1) | exact HB.out)) hb); have n1_ := Aside0.mk (hbox); have n2_ := Aside0.mk ((by rw [hg]; exact (below_size (by repeat (first | (with_reducible first | exact HB.out | apply below_alloc | apply pw_below_drewN | apply below_drew1) | exact HB.out))) : w.heap.size ≤ gb389)); have n3_ := Aside0.mk ((by rw [hg]; exact (below_size (by repeat (first | (with_reducible first | exact HB.out | apply below_alloc | apply pw_below_drewN | apply below_drew1) | exact HB.out))) : w.heap.size ≤ gb389)); clear HB; have HB := n0_; have BK389 := n1_; have GW389 := n2_; have GE389 := n3_; clear n0_ n1_ n2_ n3_; clear hb hbox hg) | ((with_reducible refine gate_dst (N := 4) rfl ?_); refine box_event ?hg (N := 4) ?hd (cs := #[.int .u64 0, .int .u64 0]) (t := 24) ?hr ?_; (case hd => rfl); (case hg => rfl); (case hr => first | (go_simp; done) | (go_simp; rfl)); intro gb390 hg w7 hbox hb; have n0_ := Aside0.mk (blk_below (g := gb389) (o := .cells #[.int .u64 a0_0, .int .u64 a0_1] 24 (0, 0)) (by (with_reducible repeat (first | refine blk_drewN ?_ _ | refine blk_drew ?_ | refine blk_alloc ?_ _)); exact BK389.out) hb); have n1_ := Aside0.mk (below_step (by repeat (first | (with_reducible first | exact HB.out | apply below_alloc | apply pw_below_drewN | apply below_drew1 | refine below_set ?_ GE389.out) | exact HB.out)) hb); have n2_ := Aside0.mk (hbox); have n3_ := Aside0.mk ((by rw [hg]; exact (below_size (by repeat (first | (with_reducible first | exact HB.out | apply below_alloc | apply pw_below_drewN | apply below_drew1 | refine below_set ?_ GE389.out) | exact HB.out))) : w.heap.size ≤ gb390)); have n4_ := Aside0.mk ((by rw [hg]; exact (below_size (by repeat (first | (with_reducible first | exact HB.out | apply below_alloc | apply pw_below_drewN | apply below_drew1 | refine below_set ?_ GE389.out) | exact HB.out))) : w.heap.size ≤ gb390)); have n5_ := Aside0.mk ((by rw [hg]; exact Nat.ne_of_lt (blk_lt (g := gb389) (o := .cells #[.int .u64 a0_0, .int .u64 a0_1] 24 (0, 0)) (by (with_reducible repeat (first | refine blk_drewN ?_ _ | refine blk_drew ?_ | refine blk_alloc ?_ _)); exact BK389.out)) : gb389 ≠ gb390)); have n6_ := Aside0.mk ((by rw [hg]; exact Nat.ne_of_gt (blk_lt (g := gb389) (o := .cells #[.int .u64 a0_0, .int .u64 a0_1] 24 (0, 0)) (by (with_reducible repeat (first | refine blk_drewN ?_ _ | refine blk_drew ?_ | refine blk_alloc ?_ _)); exact BK389.out)) : gb390 ≠ gb389)); clear BK389; clear HB; have BK389 := n0_; have HB := n1_; have BK390 := n2_; have GW390 := n3_; have GE390 := n4_; have NB389_390 := n5_; have NB390_389 := n6_; clear n0_ n1_ n2_ n3_ n4_ n5_ n6_; clear hb hbox hg; have hnb8 := NB389_390.out; have hnc8 := NB390_389.out; have hcz9_0 : w7.cell? ⟨gb389, 0, none⟩ = some (.int .u64 a0_0) := (blk_cell BK389.out 0).trans rfl; have hcz9_1 : w7.cell? ⟨gb389, 1, none⟩ = some (.int .u64 a0_1) := (blk_cell BK389.out 1).trans rfl; have hfz9_0 := blk_frozen BK389.out 0; have hfz9_1 := blk_frozen BK389.out 1) | ((with_reducible refine gate_callee (f := 76) rfl ?_); refine goesL_ (some 6) rfl rfl Try.func76 (by kernel_rfl) rfl #[.agg #[.int .u64 a0_0, .int .u64 a0_1]] rfl (by (try simp only [List.map_toArray, List.map_cons, List.map_nil]); first | done | rfl | (simp only [List.length_drop, List.length_take]; rfl)) ?_; (with_reducible refine (impl_Wide_u.calls a0_0 a0_1 t391 t392 _ A3.out).mono ?_); rintro e w10 ⟨rfl, hb⟩; refine ⟨_, rfl, ?_⟩; have n0_ := Aside0.mk (blk_below (g := gb389) (o := .cells #[.int .u64 a0_0, .int .u64 a0_1] 24 (0, 0)) (by (with_reducible repeat (first | refine blk_drewN ?_ _ | refine blk_drew ?_ | refine blk_alloc ?_ _)); exact BK389.out) hb); have n1_ := Aside0.mk (blk_below (g := gb390) (o := .cells #[.int .u64 0, .int .u64 0] 24 (0, 0)) (by (with_reducible repeat (first | refine blk_drewN ?_ _ | refine blk_drew ?_ | refine blk_alloc ?_ _)); exact BK390.out) hb); have n2_ := Aside0.mk (below_step (by repeat (first | (with_reducible first | exact HB.out | apply below_alloc | apply pw_below_drewN | apply below_drew1 | refine below_set ?_ GE389.out | refine below_set ?_ GE390.out) | exact HB.out)) hb); clear BK389; clear BK390; clear HB; have BK389 := n0_; have BK390 := n1_; have HB := n2_; clear n0_ n1_ n2_; (try clear hb); (try clear hb2); (try clear hk); (try clear hi)) | ((with_reducible refine gate_callee (f := 99) rfl ?_); refine goesL_ (some 8) rfl rfl Try.func99 (by kernel_rfl) rfl #[.agg #[.int .u64 t391, .int .u64 t392], .int .u64 a1] rfl (by (try simp only [List.map_toArray, List.map_cons, List.map_nil]); first | done | rfl | (simp only [List.length_drop, List.length_take]; rfl)) ?_; (with_reducible refine (uint128_Uint128_AddWrap64.calls t391 t392 a1 t393 t394 _ A4.out).mono ?_); rintro e w11 ⟨rfl, hb⟩; refine ⟨_, rfl, ?_⟩; have n0_ := Aside0.mk (blk_below (g := gb389) (o := .cells #[.int .u64 a0_0, .int .u64 a0_1] 24 (0, 0)) (by (with_reducible repeat (first | refine blk_drewN ?_ _ | refine blk_drew ?_ | refine blk_alloc ?_ _)); exact BK389.out) hb); have n1_ := Aside0.mk (blk_below (g := gb390) (o := .cells #[.int .u64 0, .int .u64 0] 24 (0, 0)) (by (with_reducible repeat (first | refine blk_drewN ?_ _ | refine blk_drew ?_ | refine blk_alloc ?_ _)); exact BK390.out) hb); have n2_ := Aside0.mk (below_step (by repeat (first | (with_reducible first | exact HB.out | apply below_alloc | apply pw_below_drewN | apply below_drew1 | refine below_set ?_ GE389.out | refine below_set ?_ GE390.out) | exact HB.out)) hb); clear BK389; clear BK390; clear HB; have BK389 := n0_; have BK390 := n1_; have HB := n2_; clear n0_ n1_ n2_; (try clear hb); (try clear hb2); (try clear hk); (try clear hi)) | ((with_reducible refine gate_callee (f := 80) rfl ?_); refine goesL_ (some 9) rfl rfl Try.func80 (by kernel_rfl) rfl #[.agg #[.int .u64 t393, .int .u64 t394]] rfl (by (try simp only [List.map_toArray, List.map_cons, List.map_nil]); first | done | rfl | (simp only [List.length_drop, List.length_take]; rfl)) ?_; (with_reducible refine (impl_wide.calls t393 t394 t395 t396 _ A5.out).mono ?_); rintro e w12 ⟨rfl, hb⟩; refine ⟨_, rfl, ?_⟩; have n0_ := Aside0.mk (blk_below (g := gb389) (o := .cells #[.int .u64 a0_0, .int .u64 a0_1] 24 (0, 0)) (by (with_reducible repeat (first | refine blk_drewN ?_ _ | refine blk_drew ?_ | refine blk_alloc ?_ _)); exact BK389.out) hb); have n1_ := Aside0.mk (blk_below (g := gb390) (o := .cells #[.int .u64 0, .int .u64 0] 24 (0, 0)) (by (with_reducible repeat (first | refine blk_drewN ?_ _ | refine blk_drew ?_ | refine blk_alloc ?_ _)); exact BK390.out) hb); have n2_ := Aside0.mk (below_step (by repeat (first | (with_reducible first | exact HB.out | apply below_alloc | apply pw_below_drewN | apply below_drew1 | refine below_set ?_ GE389.out | refine below_set ?_ GE390.out) | exact HB.out)) hb); clear BK389; clear BK390; clear HB; have BK389 := n0_; have BK390 := n1_; have HB := n2_; clear n0_ n1_ n2_; (try clear hb); (try clear hb2); (try clear hk); (try clear hi); have hcz13_0 : w12.cell? ⟨gb390, 0, none⟩ = some (.int .u64 0) := (blk_cell BK390.out 0).trans rfl; have hcz13_1 : w12.cell? ⟨gb390, 1, none⟩ = some (.int .u64 0) := (blk_cell BK390.out 1).trans rfl; have hfz13_0 := blk_frozen BK390.out 0; have hfz13_1 := blk_frozen BK390.out 1))
  refine bodyPost_ret (results_cell_row rfl _ _ gb390 24 #[.int .u64 t395, .int .u64 t396] (0, 0) _ rfl (by (with_reducible repeat (first | refine blk_drewN ?_ _ | refine blk_drew ?_ | refine blk_alloc ?_ _)); refine blk_put (cs := #[.int .u64 t395, .int .u64 0]) ?_ 1 _ rfl; (with_reducible repeat (first | refine blk_drewN ?_ _ | refine blk_drew ?_ | refine blk_alloc ?_ _)); refine blk_put (cs := #[.int .u64 0, .int .u64 0]) ?_ 0 _ rfl; (with_reducible repeat (first | refine blk_drewN ?_ _ | refine blk_drew ?_ | refine blk_alloc ?_ _)); exact BK390.out) Try.underlying24 rfl (by kernel_rfl)) rfl ?_
  exact ⟨by first | rfl | (simp [errW_none, errW_some] <;> rfl) | (simp [*, errW_none, errW_some] <;> rfl), by repeat (first | (with_reducible first | exact HB.out | apply below_alloc | apply pw_below_drewN | apply below_drew1 | refine below_set ?_ GE389.out | refine below_set ?_ GE390.out) | exact HB.out)⟩


end Go.Proofs.Ytiifnofghicnaaa.PAll
