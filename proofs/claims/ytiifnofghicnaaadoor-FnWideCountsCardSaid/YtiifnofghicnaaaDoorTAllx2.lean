/- Printed by the kit's print.py, called for several laws at once: functions as plain Lean, and the walks' contracts. -/
import Derived.Test.YtiifnofghicnaaaDoorTAllx0
import Derived.Test.YtiifnofghicnaaaDoorTAllx1
namespace Go.Proofs.YtiifnofghicnaaaDoor.TAll
open Go.RowKit Go.Proofs.YtiifnofghicnaaaDoorW.PrintWords Go.Proofs.YtiifnofghicnaaaDoorW.PrintLast Go.Proofs.YtiifnofghicnaaaDoorW.PrintMore
attribute [local go_sem] max2_int min2_int max_two min_two max_three min_three max_four min_four   -- for this text's walks alone
set_option linter.unusedVariables false
set_option linter.unusedSimpArgs false

/-! ### bits_TrailingZeros64: function 101 -/
/-- How many noughts stand at the end of n (64 of 0). -/
def tzN (n : Nat) : Nat := if n = 0 then 64 else Nat.log2 (n &&& (18446744073709551616 - n))
theorem odd_part : ∀ (b m : Nat), m ≤ b → m ≠ 0 → ∃ i a, m = (2 * a + 1) * 2 ^ i := by
  intro b
  induction b with
  | zero => intro m h1 h2; omega
  | succ b ih =>
    intro m h1 h2
    by_cases h : m % 2 = 1
    · exact ⟨0, m / 2, by simp; omega⟩
    · obtain ⟨i, a, e⟩ := ih (m / 2) (by omega) (by omega)
      refine ⟨i + 1, a, ?_⟩
      rw [Nat.pow_succ, ← Nat.mul_assoc, ← e]
      omega
theorem and_odd (a n : Nat) (h : a < 2 ^ n) : (2 * a + 1) &&& (2 * (2 ^ n - (a + 1)) + 1) = 1 := by
  apply Nat.eq_of_testBit_eq
  intro i
  cases i with
  | zero => simp
  | succ i =>
    have e (b : Nat) : (2 * b + 1).testBit (i + 1) = b.testBit i := by
      rw [Nat.testBit_succ]
      congr 1
      omega
    rw [Nat.testBit_and, e, e, Nat.testBit_two_pow_sub_succ h]
    have e1 : (1 : Nat).testBit (i + 1) = false := by
      rw [Nat.testBit_succ]
      simp
    rw [e1]
    cases a.testBit i <;> simp
theorem low_one (x : Nat) (hx : x < 18446744073709551616) (h0 : x ≠ 0) : ∃ t a, t < 64 ∧ x = (2 * a + 1) * 2 ^ t ∧ x &&& (18446744073709551616 - x) = 2 ^ t := by
  obtain ⟨t, a, e⟩ := odd_part x x (Nat.le_refl _) h0
  have ht : t < 64 := by
    refine Decidable.byContradiction fun hn => ?_
    have h1 : 2 ^ 64 ≤ 2 ^ t := Nat.pow_le_pow_right (by decide) (by omega)
    have h2 : 1 * 2 ^ t ≤ (2 * a + 1) * 2 ^ t := Nat.mul_le_mul_right _ (by omega)
    omega
  refine ⟨t, a, ht, e, ?_⟩
  have e64 : (18446744073709551616 : Nat) = (2 * 2 ^ (63 - t)) * 2 ^ t := by
    rw [← Nat.pow_succ', ← Nat.pow_add, show 63 - t + 1 + t = 64 by omega]
  have hp : 0 < 2 ^ t := Nat.pow_pos (by decide)
  have ha : a < 2 ^ (63 - t) := by
    rw [e64, e] at hx
    have := Nat.lt_of_mul_lt_mul_right hx
    omega
  have em : 18446744073709551616 - x = (2 * (2 ^ (63 - t) - (a + 1)) + 1) * 2 ^ t := by
    rw [e64, e, ← Nat.sub_mul]
    congr 1
    omega
  rw [em]
  conv => lhs; lhs; rw [e]
  have o := and_odd a (63 - t) ha
  rw [Nat.mul_comm, Nat.mul_comm _ (2 ^ t)]
  apply Nat.eq_of_testBit_eq
  intro i
  rw [Nat.testBit_and, Nat.testBit_two_pow_mul, Nat.testBit_two_pow_mul, Nat.testBit_two_pow]
  by_cases hi : t ≤ i
  · have q : ((2 * a + 1) &&& (2 * (2 ^ (63 - t) - (a + 1)) + 1)).testBit (i - t) = (1 : Nat).testBit (i - t) := by rw [o]
    rw [Nat.testBit_and] at q
    rw [decide_eq_true hi, Bool.true_and, Bool.true_and, q]
    by_cases h : t = i
    · subst h
      simp
    · rw [decide_eq_false h]
      have : i - t ≠ 0 := by omega
      cases hk : i - t with
      | zero => omega
      | succ k => rw [Nat.testBit_succ]; simp
  · have h : ¬ t = i := by omega
    simp [hi, h]
theorem tz_pow (x : Nat) (hx : x < 18446744073709551616) (h0 : x ≠ 0) : tzN x < 64 ∧ x &&& (18446744073709551616 - x) = 2 ^ tzN x ∧ (∀ i, i < tzN x → x.testBit i = false) ∧ x.testBit (tzN x) = true := by
  obtain ⟨t, a, ht, e, h⟩ := low_one x hx h0
  have et : tzN x = t := by
    unfold tzN
    rw [if_neg h0, h, Nat.log2_two_pow]
  rw [et]
  refine ⟨ht, h, fun i hi => ?_, ?_⟩
  · rw [e, Nat.mul_comm, Nat.testBit_two_pow_mul]
    simp
    omega
  · rw [e, Nat.mul_comm, Nat.testBit_two_pow_mul]
    simp
/-- math/bits.deBruijn64tab, as the row lists it. -/
def tabZ : List Nat := [0, 1, 56, 2, 57, 49, 28, 3, 61, 58, 42, 50, 38, 29, 17, 4, 62, 47, 59, 36, 45, 43, 51, 22, 53, 39, 33, 30, 24, 18, 12, 5, 63, 55, 48, 27, 60, 41, 37, 16, 46, 35, 44, 21, 52, 32, 23, 11, 54, 26, 40, 15, 34, 20, 31, 10, 25, 14, 19, 9, 13, 8, 7, 6]
/-- What the walks need to know of the package's variables. -/
def GlobT (w : World) : Prop := ∀ i, i < 64 → w.cell? ⟨2, i, none⟩ = some (.int .u8 ((tabZ.getD i 0 : Nat) : Int))
theorem GlobT.below {w w' : World} (h : GlobT w) (hb : Below w.heap.size w w') : GlobT w' := fun i hi => (hb.cell (World.block_lt_of_cell? w _ (h i hi))).trans (h i hi)
theorem tab_all : (List.range 64).all (fun t => tabZ.getD (2 ^ t * 285870213051353865 % 18446744073709551616 / 288230376151711744) 0 == t) = true := by decide +kernel
set_option maxHeartbeats 2000000 in
set_option maxRecDepth 100000 in
theorem tz_leaf (x m P q i t : Nat) (w : World) (E0 : ((x : Int) == 0) = false) (E1 : IntKind.u64.wrap (-(x : Int)) = (m : Int)) (E2 : Go.bits .and .u64 (x : Int) (m : Int) = (P : Int)) (E3 : IntKind.u64.wrap ((P : Int) * 285870213051353865) = (q : Int)) (E4 : (q : Int) / 288230376151711744 = (i : Int)) (hi : i < 64) (hc : w.cell? ⟨2, i, none⟩ = some (.int .u8 (t : Int))) (E5 : wrap64 (t : Int) = (t : Int)) :
    Calls Tryd.prog 101 #[.int .u64 (x : Int)] w fun e w' => e = .returned (.int .i64 (t : Int)) ∧ Drawn0 w w' := by
  go_enter Tryd.func101, Tryd.ntmps101
  go_wp2
  go_ret
  refine ⟨?_, Drawn0.refl _⟩
  show Ending.returned (.int .i64 (wrap64 (t : Int))) = _
  rw [E5]
set_option maxHeartbeats 2000000 in
set_option maxRecDepth 100000 in
theorem tz_zero (w : World) :
    Calls Tryd.prog 101 #[.int .u64 0] w fun e w' => e = .returned (.int .i64 64) ∧ Drawn0 w w' := by
  go_enter Tryd.func101, Tryd.ntmps101
  go_wp2
  go_ret
  exact ⟨rfl, Drawn0.refl _⟩
def bits_TrailingZeros64.f (a0 : Int) : Option Int := if 0 ≤ a0 ∧ a0 < 18446744073709551616 then some ((tzN a0.toNat : Nat) : Int) else none
theorem bits_TrailingZeros64.calls (a0 : Int) (r : Int) (w : World) (h : bits_TrailingZeros64.f a0 = some r) (HZ : GlobT w) :
    Calls Tryd.prog 101 #[.int .u64 a0] w fun e w' => e = .returned (.int .i64 r) ∧ Drawn0 w w' := by
  unfold bits_TrailingZeros64.f at h
  split at h
  case isFalse => cases h
  rename_i h0
  obtain ⟨x, rfl⟩ := Int.eq_ofNat_of_zero_le h0.1
  rw [Int.toNat_natCast] at h
  obtain rfl := Option.some.inj h
  have hx : x < 18446744073709551616 := by omega
  by_cases hz : x = 0
  · subst hz
    exact tz_zero w
  obtain ⟨h1, h2, _, _⟩ := tz_pow x hx hz
  generalize tzN x = t at *
  have ta := List.all_eq_true.mp tab_all t (List.mem_range.mpr h1)
  rw [beq_iff_eq] at ta
  have hi : 2 ^ t * 285870213051353865 % 18446744073709551616 / 288230376151711744 < 64 := by omega
  have hp : 2 ^ t < 2 ^ 64 := Nat.pow_lt_pow_right (by decide) h1
  have hc := HZ _ hi
  rw [ta] at hc
  refine tz_leaf x (18446744073709551616 - x) (2 ^ t) (2 ^ t * 285870213051353865 % 18446744073709551616) _ t w (beq_eq_false_iff_ne.mpr (by omega)) ?_ ?_ ?_ ?_ hi hc ?_
  · rw [IntKind.wrap_u64]
    omega
  · rw [u64_and_nat x (18446744073709551616 - x) hx (by omega), h2]
  · generalize (2 : Nat) ^ t = P at *
    rw [IntKind.wrap_u64]
    omega
  · generalize (2 : Nat) ^ t * 285870213051353865 % 18446744073709551616 = Q at *
    omega
  · clear hc HZ ta
    unfold wrap64
    omega

/-! ### uint128_Uint128_TrailingZeros: function 48 -/
def uint128_Uint128_TrailingZeros.f (a0_0 : Int) (a0_1 : Int) : Option (Int) := if a0_0 > 0 then ((bits_TrailingZeros64.f a0_0).bind fun t124 => (some t124)) else ((bits_TrailingZeros64.f a0_1).bind fun t125 => (some (wrap64 (64 + t125))))
set_option maxHeartbeats 8000000 in
set_option maxRecDepth 100000 in
theorem uint128_Uint128_TrailingZeros.calls (a0_0 : Int) (a0_1 : Int) (r : Int) (w : World) (h : uint128_Uint128_TrailingZeros.f a0_0 a0_1 = some r) (HZ : GlobT w) :
    Calls Tryd.prog 48 #[.agg #[.int .u64 a0_0, .int .u64 a0_1]] w fun e w' => e = .returned (.int .i64 r) ∧ Below w.heap.size w w' := by
  have GZ := Aside0.mk HZ
  clear HZ
  have hu65 := Tryd.underlying65
  have HB := Aside0.mk (Below.refl w.heap.size w)
  have H : (if a0_0 > 0 then ((bits_TrailingZeros64.f a0_0).bind fun t124 => (some t124)) else ((bits_TrailingZeros64.f a0_1).bind fun t125 => (some (wrap64 (64 + t125))))) = some r := h
  clear h
  by_cases c2 : a0_0 > 0
  · rw [if_pos c2] at H
    have c2b0 : decide (0 < a0_0) = true := decide_eq_true c2
    clear c2
    replace H := Option.bind_eq_some_iff.mp H
    obtain ⟨t124, A30, H⟩ := H
    replace H : (some t124) = some r := H
    have A3 := Aside0.mk A30
    clear A30
    obtain rfl := Option.some.inj H
    go_enter Tryd.func48, Tryd.ntmps48
    go_wp2_with (first | ((with_reducible refine gate_dst (N := 1) rfl ?_); refine box_event ?hg (N := 1) ?hd (cs := #[.int .u64 a0_0, .int .u64 a0_1]) (t := 65) ?hr ?_; (case hd => rfl); (case hg => rfl); (case hr => first | (go_simp; done) | (go_simp; rfl)); intro gb123 hg w4 hbox hb; have n0_ := Aside0.mk (below_step (by repeat (first | (with_reducible first | exact HB.out | apply below_alloc | apply pw_below_drewN | apply below_drew1) | exact HB.out)) hb); have n1_ := Aside0.mk (hbox); have n2_ := Aside0.mk ((by rw [hg]; exact (below_size (by repeat (first | (with_reducible first | exact HB.out | apply below_alloc | apply pw_below_drewN | apply below_drew1) | exact HB.out))) : w.heap.size ≤ gb123)); have n3_ := Aside0.mk ((by rw [hg]; exact (below_size (by repeat (first | (with_reducible first | exact HB.out | apply below_alloc | apply pw_below_drewN | apply below_drew1) | exact HB.out))) : w.heap.size ≤ gb123)); clear HB; have HB := n0_; have BK123 := n1_; have GW123 := n2_; have GE123 := n3_; clear n0_ n1_ n2_ n3_; clear hb hbox hg; have hcz5_0 : w4.cell? ⟨gb123, 0, none⟩ = some (.int .u64 a0_0) := (blk_cell BK123.out 0).trans rfl; have hcz5_1 : w4.cell? ⟨gb123, 1, none⟩ = some (.int .u64 a0_1) := (blk_cell BK123.out 1).trans rfl; have hfz5_0 := blk_frozen BK123.out 0; have hfz5_1 := blk_frozen BK123.out 1) | ((with_reducible refine gate_callee (f := 101) rfl ?_); refine goesL_ (some 8) rfl rfl Tryd.func101 (by kernel_rfl) rfl #[.int .u64 a0_0] rfl (by (try simp only [List.map_toArray, List.map_cons, List.map_nil]); first | done | rfl | (simp only [List.length_drop, List.length_take]; rfl)) ?_; (with_reducible refine (bits_TrailingZeros64.calls a0_0 t124 _ A3.out (GlobT.below GZ.out (by repeat (first | (with_reducible first | exact HB.out | apply below_alloc | apply pw_below_drewN | apply below_drew1) | exact HB.out)))).mono ?_); rintro e w' ⟨rfl, ⟨nd, rfl⟩⟩; refine ⟨_, rfl, ?_⟩))
    go_ret
    exact ⟨by first | rfl | (simp [errW_none, errW_some] <;> rfl) | (simp [*, errW_none, errW_some] <;> rfl), by repeat (first | (with_reducible first | exact HB.out | apply below_alloc | apply pw_below_drewN | apply below_drew1 | refine below_set ?_ GE123.out) | exact HB.out)⟩
  · rw [if_neg c2] at H
    have c2b0 : decide (0 < a0_0) = false := decide_eq_false c2
    clear c2
    replace H := Option.bind_eq_some_iff.mp H
    obtain ⟨t125, A60, H⟩ := H
    replace H : (some (wrap64 (64 + t125))) = some r := H
    have A6 := Aside0.mk A60
    clear A60
    obtain rfl := Option.some.inj H
    go_enter Tryd.func48, Tryd.ntmps48
    go_wp2_with (first | ((with_reducible refine gate_dst (N := 1) rfl ?_); refine box_event ?hg (N := 1) ?hd (cs := #[.int .u64 a0_0, .int .u64 a0_1]) (t := 65) ?hr ?_; (case hd => rfl); (case hg => rfl); (case hr => first | (go_simp; done) | (go_simp; rfl)); intro gb123 hg w7 hbox hb; have n0_ := Aside0.mk (below_step (by repeat (first | (with_reducible first | exact HB.out | apply below_alloc | apply pw_below_drewN | apply below_drew1) | exact HB.out)) hb); have n1_ := Aside0.mk (hbox); have n2_ := Aside0.mk ((by rw [hg]; exact (below_size (by repeat (first | (with_reducible first | exact HB.out | apply below_alloc | apply pw_below_drewN | apply below_drew1) | exact HB.out))) : w.heap.size ≤ gb123)); have n3_ := Aside0.mk ((by rw [hg]; exact (below_size (by repeat (first | (with_reducible first | exact HB.out | apply below_alloc | apply pw_below_drewN | apply below_drew1) | exact HB.out))) : w.heap.size ≤ gb123)); clear HB; have HB := n0_; have BK123 := n1_; have GW123 := n2_; have GE123 := n3_; clear n0_ n1_ n2_ n3_; clear hb hbox hg; have hcz8_0 : w7.cell? ⟨gb123, 0, none⟩ = some (.int .u64 a0_0) := (blk_cell BK123.out 0).trans rfl; have hcz8_1 : w7.cell? ⟨gb123, 1, none⟩ = some (.int .u64 a0_1) := (blk_cell BK123.out 1).trans rfl; have hfz8_0 := blk_frozen BK123.out 0; have hfz8_1 := blk_frozen BK123.out 1) | ((with_reducible refine gate_callee (f := 101) rfl ?_); refine goesL_ (some 11) rfl rfl Tryd.func101 (by kernel_rfl) rfl #[.int .u64 a0_1] rfl (by (try simp only [List.map_toArray, List.map_cons, List.map_nil]); first | done | rfl | (simp only [List.length_drop, List.length_take]; rfl)) ?_; (with_reducible refine (bits_TrailingZeros64.calls a0_1 t125 _ A6.out (GlobT.below GZ.out (by repeat (first | (with_reducible first | exact HB.out | apply below_alloc | apply pw_below_drewN | apply below_drew1) | exact HB.out)))).mono ?_); rintro e w' ⟨rfl, ⟨nd, rfl⟩⟩; refine ⟨_, rfl, ?_⟩))
    go_ret
    exact ⟨by first | rfl | (simp [errW_none, errW_some] <;> rfl) | (simp [*, errW_none, errW_some] <;> rfl), by repeat (first | (with_reducible first | exact HB.out | apply below_alloc | apply pw_below_drewN | apply below_drew1 | refine below_set ?_ GE123.out) | exact HB.out)⟩


/-! ### impl_WideTrailing: function 22 -/
def impl_WideTrailing.f (a0_0 : Int) (a0_1 : Int) : Option (Int) := (impl_Wide_u.f a0_0 a0_1).bind fun bt127 => ((uint128_Uint128_TrailingZeros.f bt127.1 bt127.2).bind fun t129 => (some t129))
set_option maxHeartbeats 8000000 in
set_option maxRecDepth 100000 in
theorem impl_WideTrailing.calls (a0_0 : Int) (a0_1 : Int) (r : Int) (w : World) (h : impl_WideTrailing.f a0_0 a0_1 = some r) (HZ : GlobT w) :
    Calls Tryd.prog 22 #[.agg #[.int .u64 a0_0, .int .u64 a0_1]] w fun e w' => e = .returned (.int .i64 r) ∧ Below w.heap.size w w' := by
  have GZ := Aside0.mk HZ
  clear HZ
  have hu24 := Tryd.underlying24
  have HB := Aside0.mk (Below.refl w.heap.size w)
  have H : ((impl_Wide_u.f a0_0 a0_1).bind fun bt127 => ((uint128_Uint128_TrailingZeros.f bt127.1 bt127.2).bind fun t129 => (some t129))) = some r := h
  clear h
  replace H := Option.bind_eq_some_iff.mp H
  obtain ⟨⟨t127, t128⟩, A20, H⟩ := H
  replace H : ((uint128_Uint128_TrailingZeros.f t127 t128).bind fun t129 => (some t129)) = some r := H
  have A2 := Aside0.mk A20
  clear A20
  replace H := Option.bind_eq_some_iff.mp H
  obtain ⟨t129, A30, H⟩ := H
  replace H : (some t129) = some r := H
  have A3 := Aside0.mk A30
  clear A30
  obtain rfl := Option.some.inj H
  go_enter Tryd.func22, Tryd.ntmps22
  go_wp2_with (first | ((with_reducible refine gate_dst (N := 1) rfl ?_); refine box_event ?hg (N := 1) ?hd (cs := #[.int .u64 a0_0, .int .u64 a0_1]) (t := 24) ?hr ?_; (case hd => rfl); (case hg => rfl); (case hr => first | (go_simp; done) | (go_simp; rfl)); intro gb126 hg w4 hbox hb; have n0_ := Aside0.mk (below_step (by repeat (first | (with_reducible first | exact HB.out | apply below_alloc | apply pw_below_drewN | apply below_drew1) | exact HB.out)) hb); have n1_ := Aside0.mk (hbox); have n2_ := Aside0.mk ((by rw [hg]; exact (below_size (by repeat (first | (with_reducible first | exact HB.out | apply below_alloc | apply pw_below_drewN | apply below_drew1) | exact HB.out))) : w.heap.size ≤ gb126)); have n3_ := Aside0.mk ((by rw [hg]; exact (below_size (by repeat (first | (with_reducible first | exact HB.out | apply below_alloc | apply pw_below_drewN | apply below_drew1) | exact HB.out))) : w.heap.size ≤ gb126)); clear HB; have HB := n0_; have BK126 := n1_; have GW126 := n2_; have GE126 := n3_; clear n0_ n1_ n2_ n3_; clear hb hbox hg; have hcz5_0 : w4.cell? ⟨gb126, 0, none⟩ = some (.int .u64 a0_0) := (blk_cell BK126.out 0).trans rfl; have hcz5_1 : w4.cell? ⟨gb126, 1, none⟩ = some (.int .u64 a0_1) := (blk_cell BK126.out 1).trans rfl; have hfz5_0 := blk_frozen BK126.out 0; have hfz5_1 := blk_frozen BK126.out 1) | ((with_reducible refine gate_callee (f := 46) rfl ?_); refine goesL_ (some 4) rfl rfl Tryd.func46 (by kernel_rfl) rfl #[.agg #[.int .u64 a0_0, .int .u64 a0_1]] rfl (by (try simp only [List.map_toArray, List.map_cons, List.map_nil]); first | done | rfl | (simp only [List.length_drop, List.length_take]; rfl)) ?_; (with_reducible refine (impl_Wide_u.calls a0_0 a0_1 t127 t128 _ A2.out).mono ?_); rintro e w6 ⟨rfl, hb⟩; refine ⟨_, rfl, ?_⟩; have n0_ := Aside0.mk (blk_below (g := gb126) (o := .cells #[.int .u64 a0_0, .int .u64 a0_1] 24 (0, 0)) (by (with_reducible repeat (first | refine blk_drewN ?_ _ | refine blk_drew ?_ | refine blk_alloc ?_ _)); exact BK126.out) hb); have n1_ := Aside0.mk (below_step (by repeat (first | (with_reducible first | exact HB.out | apply below_alloc | apply pw_below_drewN | apply below_drew1 | refine below_set ?_ GE126.out) | exact HB.out)) hb); clear BK126; clear HB; have BK126 := n0_; have HB := n1_; clear n0_ n1_; (try clear hb); (try clear hb2); (try clear hk); (try clear hi)) | ((with_reducible refine gate_callee (f := 48) rfl ?_); refine goesL_ (some 5) rfl rfl Tryd.func48 (by kernel_rfl) rfl #[.agg #[.int .u64 t127, .int .u64 t128]] rfl (by (try simp only [List.map_toArray, List.map_cons, List.map_nil]); first | done | rfl | (simp only [List.length_drop, List.length_take]; rfl)) ?_; (with_reducible refine (uint128_Uint128_TrailingZeros.calls t127 t128 t129 _ A3.out (GlobT.below GZ.out (by repeat (first | (with_reducible first | exact HB.out | apply below_alloc | apply pw_below_drewN | apply below_drew1 | refine below_set ?_ GE126.out) | exact HB.out)))).mono ?_); rintro e w7 ⟨rfl, hb⟩; refine ⟨_, rfl, ?_⟩; have n0_ := Aside0.mk (blk_below (g := gb126) (o := .cells #[.int .u64 a0_0, .int .u64 a0_1] 24 (0, 0)) (by (with_reducible repeat (first | refine blk_drewN ?_ _ | refine blk_drew ?_ | refine blk_alloc ?_ _)); exact BK126.out) hb); have n1_ := Aside0.mk (below_step (by repeat (first | (with_reducible first | exact HB.out | apply below_alloc | apply pw_below_drewN | apply below_drew1 | refine below_set ?_ GE126.out) | exact HB.out)) hb); clear BK126; clear HB; have BK126 := n0_; have HB := n1_; clear n0_ n1_; (try clear hb); (try clear hb2); (try clear hk); (try clear hi)))
  go_ret
  exact ⟨by first | rfl | (simp [errW_none, errW_some] <;> rfl) | (simp [*, errW_none, errW_some] <;> rfl), by repeat (first | (with_reducible first | exact HB.out | apply below_alloc | apply pw_below_drewN | apply below_drew1 | refine below_set ?_ GE126.out) | exact HB.out)⟩


/-! ### bits_OnesCount64: function 102 -/
/-- How many of the first n of f are true. -/
def cnt (f : Nat → Bool) : Nat → Nat
  | 0 => 0
  | n + 1 => cnt f n + (f n).toNat
theorem cnt_add (f : Nat → Bool) (n : Nat) : ∀ m, cnt f (n + m) = cnt f n + cnt (fun i => f (n + i)) m
  | 0 => rfl
  | m + 1 => by
    rw [← Nat.add_assoc, cnt, cnt_add f n m, cnt, Nat.add_assoc]
theorem cnt_congr {f g : Nat → Bool} : ∀ n, (∀ i, i < n → f i = g i) → cnt f n = cnt g n
  | 0, _ => rfl
  | n + 1, h => by rw [cnt, cnt, cnt_congr n (fun i hi => h i (by omega)), h n (by omega)]
def rep (c : Nat) : Nat → Nat
  | 0 => 0
  | k + 1 => c + 256 * rep c k
theorem and_step (u c v M : Nat) (hu : u < 256) (hc : c < 256) : (u + 256 * v) &&& (c + 256 * M) = (u &&& c) + 256 * (v &&& M) := by
  have e (a b : Nat) : a + 256 * b = 2 ^ 8 * b + a := by omega
  have hl : u &&& c < 2 ^ 8 := Nat.and_lt_two_pow _ hc
  rw [e, e, e]
  apply Nat.eq_of_testBit_eq
  intro i
  rw [Nat.testBit_and, Nat.testBit_two_pow_mul_add _ hu, Nat.testBit_two_pow_mul_add _ hc, Nat.testBit_two_pow_mul_add _ hl]
  split <;> simp [Nat.testBit_and]
/-- The bytes of x, each put through f. -/
def bsum (f : Nat → Nat) : Nat → Nat → Nat
  | 0, _ => 0
  | k + 1, x => f (x % 256) + 256 * bsum f k (x / 256)
def all256 (p : Nat → Bool) : Bool := (List.range 256).all p
theorem all256_of {p : Nat → Bool} (h : all256 p = true) {b : Nat} (hb : b < 256) : p b = true := List.all_eq_true.mp h b (List.mem_range.mpr hb)
def s1 (b : Nat) : Nat := (b / 2 &&& 85) + (b &&& 85)
def s2 (b : Nat) : Nat := (b / 4 &&& 51) + (b &&& 51)
def s3 (b : Nat) : Nat := (b / 16 + b) &&& 15
def pcb (b : Nat) : Nat := cnt b.testBit 8
theorem t1_all : all256 (fun b => (b / 2 + 128 * 0 &&& 85) == (b / 2 &&& 85) && (b / 2 + 128 * 1 &&& 85) == (b / 2 &&& 85) && decide (s1 b < 256)) = true := by decide +kernel
theorem t2_all : all256 (fun b => (List.range 4).all (fun c => (b / 4 + 64 * c &&& 51) == (b / 4 &&& 51)) && decide (s2 b < 256)) = true := by decide +kernel
theorem t3_all : all256 (fun b => s3 (s2 (s1 b)) == pcb b && decide (pcb b ≤ 8) && decide (s2 (s1 b) % 16 ≤ 4) && decide (s2 (s1 b) / 16 ≤ 4)) = true := by decide +kernel
theorem nib_all : (List.range 5).all (fun h => (List.range 5).all (fun l => (List.range 5).all (fun c => ((h + (16 * h + l) + 16 * c &&& 15) == (((16 * h + l) / 16 + (16 * h + l)) &&& 15))))) = true := by decide +kernel
theorem st1 : ∀ (k x : Nat), x < 256 ^ k → (x / 2 &&& rep 85 k) + (x &&& rep 85 k) = bsum s1 k x
  | 0, x, h => by
    have : x = 0 := by simp at h; omega
    subst this
    rfl
  | k + 1, x, h => by
    have hq : x / 256 < 256 ^ k := Nat.div_lt_of_lt_mul (by rw [Nat.pow_succ, Nat.mul_comm] at h; exact h)
    have ih := st1 k (x / 256) hq
    have hb : x % 256 < 256 := Nat.mod_lt _ (by decide)
    have d := Nat.div_add_mod x 256
    have t := all256_of t1_all hb
    simp only [Bool.and_eq_true, beq_iff_eq, decide_eq_true_eq] at t
    rw [rep, bsum, ← ih]
    generalize hbb : x % 256 = b at *
    generalize hqq : x / 256 = q at *
    have e1 : x / 2 = (b / 2 + 128 * (q % 2)) + 256 * (q / 2) := by omega
    have e2 : x = b + 256 * q := by omega
    rw [e1, and_step _ 85 _ _ (by omega) (by decide)]
    have e3 : x &&& 85 + 256 * rep 85 k = (b &&& 85) + 256 * (q &&& rep 85 k) := by
      rw [e2, and_step _ 85 _ _ hb (by decide)]
    rw [e3]
    have e4 : (b / 2 + 128 * (q % 2)) &&& 85 = b / 2 &&& 85 := by
      rcases (by omega : q % 2 = 0 ∨ q % 2 = 1) with h | h <;> rw [h]
      · exact t.1.1
      · exact t.1.2
    rw [e4]
    unfold s1
    omega
theorem bsum_mod (f : Nat → Nat) (hf : ∀ b, b < 256 → f b < 256) (k x : Nat) : bsum f (k + 1) x % 256 = f (x % 256) ∧ bsum f (k + 1) x / 256 = bsum f k (x / 256) := by
  rw [bsum]
  have := hf (x % 256) (Nat.mod_lt _ (by decide))
  omega
theorem st2 (f : Nat → Nat) (hf : ∀ b, b < 256 → f b < 256) : ∀ (k x : Nat), (bsum f k x / 4 &&& rep 51 k) + (bsum f k x &&& rep 51 k) = bsum (fun b => s2 (f b)) k x
  | 0, x => by simp [bsum, rep]
  | k + 1, x => by
    have ih := st2 f hf k (x / 256)
    have hb := hf (x % 256) (Nat.mod_lt _ (by decide))
    have t := all256_of t2_all hb
    simp only [Bool.and_eq_true, decide_eq_true_eq] at t
    rw [rep, bsum, bsum, ← ih]
    generalize f (x % 256) = b at *
    generalize bsum f k (x / 256) = q at *
    have e1 : (b + 256 * q) / 4 = (b / 4 + 64 * (q % 4)) + 256 * (q / 4) := by omega
    rw [e1, and_step _ 51 _ _ (by omega) (by decide), and_step _ 51 _ _ hb (by decide)]
    have e4 : (b / 4 + 64 * (q % 4)) &&& 51 = b / 4 &&& 51 := by
      have := List.all_eq_true.mp t.1 (q % 4) (List.mem_range.mpr (Nat.mod_lt _ (by decide)))
      simpa using this
    rw [e4]
    unfold s2
    omega
theorem st3 (f : Nat → Nat) (hf : ∀ b, b < 256 → f b % 16 ≤ 4 ∧ f b / 16 ≤ 4) : ∀ (k x : Nat), (bsum f k x / 16 + bsum f k x &&& rep 15 k) = bsum (fun b => s3 (f b)) k x ∧ bsum f k x % 16 ≤ 4
  | 0, x => by simp [bsum, rep]
  | k + 1, x => by
    obtain ⟨ih, lo⟩ := st3 f hf k (x / 256)
    obtain ⟨hl, hh⟩ := hf (x % 256) (Nat.mod_lt _ (by decide))
    rw [rep, bsum, bsum, ← ih]
    generalize f (x % 256) = b at *
    generalize bsum f k (x / 256) = q at *
    refine ⟨?_, by omega⟩
    have e1 : (b + 256 * q) / 16 + (b + 256 * q) = (b / 16 + b + 16 * (q % 16)) + 256 * (q / 16 + q) := by omega
    rw [e1, and_step _ 15 _ _ (by omega) (by decide)]
    have n := List.all_eq_true.mp (List.all_eq_true.mp (List.all_eq_true.mp nib_all (b / 16) (List.mem_range.mpr (by omega))) (b % 16) (List.mem_range.mpr (by omega))) (q % 16) (List.mem_range.mpr (by omega))
    have eb : 16 * (b / 16) + b % 16 = b := by omega
    rw [beq_iff_eq, eb] at n
    rw [n]
    rfl
theorem bsum_congr {f g : Nat → Nat} (h : ∀ b, b < 256 → f b = g b) : ∀ k x, bsum f k x = bsum g k x
  | 0, _ => rfl
  | k + 1, x => by rw [bsum, bsum, bsum_congr h k, h _ (Nat.mod_lt _ (by decide))]
theorem cnt_bytes : ∀ (k x : Nat), cnt x.testBit (8 * k) = (match k with | 0 => 0 | k + 1 => pcb (x % 256) + cnt (x / 256).testBit (8 * k))
  | 0, _ => rfl
  | k + 1, x => by
    simp only []
    rw [show 8 * (k + 1) = 8 + 8 * k by omega, cnt_add]
    congr 1
    · unfold pcb
      refine cnt_congr 8 fun i hi => ?_
      rw [show (256 : Nat) = 2 ^ 8 from rfl, Nat.testBit_mod_two_pow, decide_eq_true hi, Bool.true_and]
    · refine cnt_congr _ fun i _ => ?_
      rw [show (256 : Nat) = 2 ^ 8 from rfl, Nat.testBit_div_two_pow, Nat.add_comm]
/-- The bytes' sum of what a number's bytes count is in its lowest byte, after three shifts. -/
theorem fold8 (p0 p1 p2 p3 p4 p5 p6 p7 y u t s : Nat) (h0 : p0 ≤ 8) (h1 : p1 ≤ 8) (h2 : p2 ≤ 8) (h3 : p3 ≤ 8) (h4 : p4 ≤ 8) (h5 : p5 ≤ 8) (h6 : p6 ≤ 8) (h7 : p7 ≤ 8)
    (hy : y = p0 + 256 * (p1 + 256 * (p2 + 256 * (p3 + 256 * (p4 + 256 * (p5 + 256 * (p6 + 256 * p7))))))) (hu : u = y + y / 256) (ht : t = u + u / 65536) (hs : s = t + t / 4294967296) :
    s % 128 = p0 + p1 + p2 + p3 + p4 + p5 + p6 + p7 ∧ s < 9223372036854775808 := by
  have eu : u = (p0 + p1) + 256 * ((p1 + p2) + 256 * ((p2 + p3) + 256 * ((p3 + p4) + 256 * ((p4 + p5) + 256 * ((p5 + p6) + 256 * ((p6 + p7) + 256 * p7)))))) := by omega
  clear hu
  have et : t = (p0 + p1 + p2 + p3) + 256 * ((p1 + p2 + p3 + p4) + 256 * ((p2 + p3 + p4 + p5) + 256 * ((p3 + p4 + p5 + p6) + 256 * ((p4 + p5 + p6 + p7) + 256 * ((p5 + p6 + p7) + 256 * ((p6 + p7) + 256 * p7)))))) := by omega
  clear eu ht hy
  have e5 : t / 4294967296 = (p4 + p5 + p6 + p7) + 256 * ((p5 + p6 + p7) + 256 * ((p6 + p7) + 256 * p7)) := by omega
  have b : s < 9223372036854775808 := by omega
  refine ⟨?_, b⟩
  rw [hs, e5, et]
  generalize (p1 + p2 + p3 + p4) + 256 * ((p2 + p3 + p4 + p5) + 256 * ((p3 + p4 + p5 + p6) + 256 * ((p4 + p5 + p6 + p7) + 256 * ((p5 + p6 + p7) + 256 * ((p6 + p7) + 256 * p7))))) = K1
  generalize (p5 + p6 + p7) + 256 * ((p6 + p7) + 256 * p7) = K2
  clear b e5 et hs
  omega
/-- How many bits of a number of 64 bits are 1. -/
def popN (n : Nat) : Nat := cnt n.testBit 64
theorem bsum_le (f : Nat → Nat) (m : Nat) (hf : ∀ b, b < 256 → f b ≤ m) : ∀ k x, bsum f k x ≤ rep m k
  | 0, _ => Nat.le_refl _
  | k + 1, x => by
    rw [bsum, rep]
    have h1 := hf (x % 256) (Nat.mod_lt _ (by decide))
    have h2 := bsum_le f m hf k (x / 256)
    omega
theorem s1_all : all256 (fun b => decide (s1 b ≤ 170) && decide (s2 (s1 b) ≤ 68)) = true := by decide +kernel
theorem cnt_step (k x : Nat) : cnt x.testBit (8 * (k + 1)) = pcb (x % 256) + cnt (x / 256).testBit (8 * k) := cnt_bytes (k + 1) x
set_option maxHeartbeats 2000000 in
set_option maxRecDepth 100000 in
theorem ones_leaf (x a b y a2 b2 z c v u t s r : Nat) (w : World) (E1 : Go.bits .and .u64 ((x : Int) / 2) 6148914691236517205 = (a : Int)) (E2 : Go.bits .and .u64 (x : Int) 6148914691236517205 = (b : Int)) (E3 : IntKind.u64.wrap ((a : Int) + (b : Int)) = (y : Int)) (E4 : Go.bits .and .u64 ((y : Int) / 4) 3689348814741910323 = (a2 : Int)) (E5 : Go.bits .and .u64 (y : Int) 3689348814741910323 = (b2 : Int)) (E6 : IntKind.u64.wrap ((a2 : Int) + (b2 : Int)) = (z : Int)) (E7 : IntKind.u64.wrap ((z : Int) / 16 + (z : Int)) = (c : Int)) (E8 : Go.bits .and .u64 (c : Int) 1085102592571150095 = (v : Int)) (E9 : IntKind.u64.wrap ((v : Int) + (v : Int) / 256) = (u : Int)) (EA : IntKind.u64.wrap ((u : Int) + (u : Int) / 65536) = (t : Int)) (EB : IntKind.u64.wrap ((t : Int) + (t : Int) / 4294967296) = (s : Int)) (EC : wrap64 (s : Int) = (s : Int)) (ED : Go.bits .and .i64 (s : Int) 127 = (r : Int)) :
    Calls Tryd.prog 102 #[.int .u64 (x : Int)] w fun e w' => e = .returned (.int .i64 (r : Int)) ∧ Drawn0 w w' := by
  go_enter Tryd.func102, Tryd.ntmps102
  go_wp2
  go_ret
  exact ⟨rfl, Drawn0.refl _⟩
theorem cnt_64 (x : Nat) : cnt x.testBit 64 = pcb (x % 256) + pcb (x / 256 % 256) + pcb (x / 256 / 256 % 256) + pcb (x / 256 / 256 / 256 % 256) + pcb (x / 256 / 256 / 256 / 256 % 256) + pcb (x / 256 / 256 / 256 / 256 / 256 % 256) + pcb (x / 256 / 256 / 256 / 256 / 256 / 256 % 256) + pcb (x / 256 / 256 / 256 / 256 / 256 / 256 / 256 % 256) := by
  have h7 := cnt_step 7 x
  have h6 := cnt_step 6 (x / 256)
  have h5 := cnt_step 5 (x / 256 / 256)
  have h4 := cnt_step 4 (x / 256 / 256 / 256)
  have h3 := cnt_step 3 (x / 256 / 256 / 256 / 256)
  have h2 := cnt_step 2 (x / 256 / 256 / 256 / 256 / 256)
  have h1 := cnt_step 1 (x / 256 / 256 / 256 / 256 / 256 / 256)
  have h0 := cnt_step 0 (x / 256 / 256 / 256 / 256 / 256 / 256 / 256)
  have hz : cnt (x / 256 / 256 / 256 / 256 / 256 / 256 / 256 / 256).testBit (8 * 0) = 0 := rfl
  rw [hz] at h0
  rw [show 8 * (7 + 1) = 64 from rfl] at h7
  simp only [Nat.mul_add, Nat.mul_one, Nat.reduceMul, Nat.reduceAdd] at h7 h6 h5 h4 h3 h2 h1 h0
  generalize hq7 : x / 256 / 256 / 256 / 256 / 256 / 256 / 256 = q7 at *
  rw [h7, h6, h5, h4, h3, h2, h1, h0]
  simp only [Nat.add_assoc, Nat.add_zero]
theorem pop_w (n : Nat) (h : n < 18446744073709551616) : IntKind.u64.wrap (n : Int) = (n : Int) := by
  rw [IntKind.wrap_u64]
  omega
theorem pop_run (x : Nat) (hx : x < 18446744073709551616) (w : World) :
    Calls Tryd.prog 102 #[.int .u64 (x : Int)] w fun e w' => e = .returned (.int .i64 ((popN x : Nat) : Int)) ∧ Drawn0 w w' := by
  have r85 : rep 85 8 = 6148914691236517205 := by decide
  have r51 : rep 51 8 = 3689348814741910323 := by decide
  have r15 : rep 15 8 = 1085102592571150095 := by decide
  have k1 := st1 8 x (by simpa using hx)
  have f1 : ∀ b, b < 256 → s1 b ≤ 170 ∧ s2 (s1 b) ≤ 68 := fun b hb => by
    have t := all256_of s1_all hb
    simpa using t
  have f3 : ∀ b, b < 256 → s3 (s2 (s1 b)) = pcb b ∧ pcb b ≤ 8 ∧ s2 (s1 b) % 16 ≤ 4 ∧ s2 (s1 b) / 16 ≤ 4 := fun b hb => by
    have t := all256_of t3_all hb
    simp only [Bool.and_eq_true, beq_iff_eq, decide_eq_true_eq] at t
    exact ⟨t.1.1.1, t.1.1.2, t.1.2, t.2⟩
  have k2 := st2 s1 (fun b hb => by have := (f1 b hb).1; omega) 8 x
  have k3 := (st3 (fun b => s2 (s1 b)) (fun b hb => (f3 b hb).2.2) 8 x).1
  have k4 : bsum (fun b => s3 (s2 (s1 b))) 8 x = bsum pcb 8 x := bsum_congr (fun b hb => (f3 b hb).1) 8 x
  have by_ : bsum s1 8 x ≤ rep 170 8 := bsum_le s1 170 (fun b hb => (f1 b hb).1) 8 x
  have bz : bsum (fun b => s2 (s1 b)) 8 x ≤ rep 68 8 := bsum_le _ 68 (fun b hb => (f1 b hb).2) 8 x
  have bv : bsum pcb 8 x ≤ rep 8 8 := bsum_le pcb 8 (fun b hb => (f3 b hb).2.1) 8 x
  rw [show rep 170 8 = 12297829382473034410 by decide] at by_
  rw [show rep 68 8 = 4919131752989213764 by decide] at bz
  rw [show rep 8 8 = 578721382704613384 by decide] at bv
  rw [r85] at k1
  rw [r51] at k2
  rw [r15, k4] at k3
  have hp : bsum pcb 8 x = pcb (x % 256) + 256 * (pcb (x / 256 % 256) + 256 * (pcb (x / 256 / 256 % 256) + 256 * (pcb (x / 256 / 256 / 256 % 256) + 256 * (pcb (x / 256 / 256 / 256 / 256 % 256) + 256 * (pcb (x / 256 / 256 / 256 / 256 / 256 % 256) + 256 * (pcb (x / 256 / 256 / 256 / 256 / 256 / 256 % 256) + 256 * pcb (x / 256 / 256 / 256 / 256 / 256 / 256 / 256 % 256))))))) := by
    simp [bsum]
  have pl (a : Nat) : pcb (a % 256) ≤ 8 := (f3 _ (Nat.mod_lt _ (by decide))).2.1
  have fo := fold8 _ _ _ _ _ _ _ _ _ _ _ _ (pl x) (pl _) (pl _) (pl _) (pl _) (pl _) (pl _) (pl _) hp rfl rfl rfl
  have hc : popN x = pcb (x % 256) + pcb (x / 256 % 256) + pcb (x / 256 / 256 % 256) + pcb (x / 256 / 256 / 256 % 256) + pcb (x / 256 / 256 / 256 / 256 % 256) + pcb (x / 256 / 256 / 256 / 256 / 256 % 256) + pcb (x / 256 / 256 / 256 / 256 / 256 / 256 % 256) + pcb (x / 256 / 256 / 256 / 256 / 256 / 256 / 256 % 256) := by
    unfold popN
    exact cnt_64 x
  rw [← hc] at fo
  obtain ⟨fm, fl⟩ := fo
  clear hp hc pl f1 f3 k4
  have d (a m : Nat) : ((a : Int) / (m : Int)) = ((a / m : Nat) : Int) := by simp
  have d2 := d x 2
  have d4 := d (bsum s1 8 x) 4
  have d16 := d (bsum (fun b => s2 (s1 b)) 8 x) 16
  have d256 := d (bsum pcb 8 x) 256
  have d65 := d (bsum pcb 8 x + bsum pcb 8 x / 256) 65536
  have d429 := d (bsum pcb 8 x + bsum pcb 8 x / 256 + (bsum pcb 8 x + bsum pcb 8 x / 256) / 65536) 4294967296
  clear d
  generalize bsum pcb 8 x = v at *
  generalize bsum (fun b => s2 (s1 b)) 8 x = z at *
  generalize bsum s1 8 x = y at *
  refine ones_leaf x (x / 2 &&& 6148914691236517205) (x &&& 6148914691236517205) y (y / 4 &&& 3689348814741910323) (y &&& 3689348814741910323) z (z / 16 + z) v (v + v / 256) (v + v / 256 + (v + v / 256) / 65536) (v + v / 256 + (v + v / 256) / 65536 + (v + v / 256 + (v + v / 256) / 65536) / 4294967296) (popN x) w ?_ ?_ ?_ ?_ ?_ ?_ ?_ ?_ ?_ ?_ ?_ ?_ ?_
  · rw [show ((2 : Nat) : Int) = 2 from rfl] at d2
    rw [d2]
    exact u64_and_nat (x / 2) 6148914691236517205 (by omega) (by decide)
  · exact u64_and_nat x 6148914691236517205 hx (by decide)
  · rw [← k1, ← Int.natCast_add]
    exact pop_w _ (by omega)
  · rw [show ((4 : Nat) : Int) = 4 from rfl] at d4
    rw [d4]
    exact u64_and_nat (y / 4) 3689348814741910323 (by omega) (by decide)
  · exact u64_and_nat y 3689348814741910323 (by omega) (by decide)
  · rw [← k2, ← Int.natCast_add]
    exact pop_w _ (by omega)
  · rw [show ((16 : Nat) : Int) = 16 from rfl] at d16
    rw [d16, ← Int.natCast_add]
    exact pop_w _ (by omega)
  · rw [← k3]
    exact u64_and_nat (z / 16 + z) 1085102592571150095 (by omega) (by decide)
  · rw [show ((256 : Nat) : Int) = 256 from rfl] at d256
    rw [d256, ← Int.natCast_add]
    exact pop_w _ (by omega)
  · rw [show ((65536 : Nat) : Int) = 65536 from rfl] at d65
    rw [d65, ← Int.natCast_add]
    exact pop_w _ (by omega)
  · rw [show ((4294967296 : Nat) : Int) = 4294967296 from rfl] at d429
    rw [d429, ← Int.natCast_add]
    exact pop_w _ (by omega)
  · generalize v + v / 256 + (v + v / 256) / 65536 + (v + v / 256 + (v + v / 256) / 65536) / 4294967296 = s at *
    clear d2 d4 d16 d256 d65 d429
    unfold wrap64
    omega
  · rw [← fm]
    generalize v + v / 256 + (v + v / 256) / 65536 + (v + v / 256 + (v + v / 256) / 65536) / 4294967296 = s at *
    have q := (bits_nat .i64 63 (by decide) (fun n h0 h1 => by rw [IntKind.wrap_i64]; omega) s 127 (by omega) (by decide)).1
    rw [show (127 : Nat) = 2 ^ 7 - 1 from rfl, Nat.and_two_pow_sub_one_eq_mod] at q
    exact q
def bits_OnesCount64.f (a0 : Int) : Option Int := if 0 ≤ a0 ∧ a0 < 18446744073709551616 then some ((popN a0.toNat : Nat) : Int) else none
theorem bits_OnesCount64.calls (a0 : Int) (r : Int) (w : World) (h : bits_OnesCount64.f a0 = some r) :
    Calls Tryd.prog 102 #[.int .u64 a0] w fun e w' => e = .returned (.int .i64 r) ∧ Drawn0 w w' := by
  unfold bits_OnesCount64.f at h
  split at h
  case isFalse => cases h
  rename_i h0
  obtain ⟨x, rfl⟩ := Int.eq_ofNat_of_zero_le h0.1
  rw [Int.toNat_natCast] at h
  obtain rfl := Option.some.inj h
  exact pop_run x (by omega) w

/-! ### uint128_Uint128_OnesCount: function 49 -/
def uint128_Uint128_OnesCount.f (a0_0 : Int) (a0_1 : Int) : Option (Int) := (bits_OnesCount64.f a0_1).bind fun t131 => ((bits_OnesCount64.f a0_0).bind fun t132 => (some (wrap64 (t131 + t132))))
set_option maxHeartbeats 8000000 in
set_option maxRecDepth 100000 in
theorem uint128_Uint128_OnesCount.calls (a0_0 : Int) (a0_1 : Int) (r : Int) (w : World) (h : uint128_Uint128_OnesCount.f a0_0 a0_1 = some r) :
    Calls Tryd.prog 49 #[.agg #[.int .u64 a0_0, .int .u64 a0_1]] w fun e w' => e = .returned (.int .i64 r) ∧ Below w.heap.size w w' := by
  have hu65 := Tryd.underlying65
  have HB := Aside0.mk (Below.refl w.heap.size w)
  have H : ((bits_OnesCount64.f a0_1).bind fun t131 => ((bits_OnesCount64.f a0_0).bind fun t132 => (some (wrap64 (t131 + t132))))) = some r := h
  clear h
  replace H := Option.bind_eq_some_iff.mp H
  obtain ⟨t131, A20, H⟩ := H
  replace H : ((bits_OnesCount64.f a0_0).bind fun t132 => (some (wrap64 (t131 + t132)))) = some r := H
  have A2 := Aside0.mk A20
  clear A20
  replace H := Option.bind_eq_some_iff.mp H
  obtain ⟨t132, A30, H⟩ := H
  replace H : (some (wrap64 (t131 + t132))) = some r := H
  have A3 := Aside0.mk A30
  clear A30
  obtain rfl := Option.some.inj H
  go_enter Tryd.func49, Tryd.ntmps49
  go_wp2_with (first | ((with_reducible refine gate_dst (N := 1) rfl ?_); refine box_event ?hg (N := 1) ?hd (cs := #[.int .u64 a0_0, .int .u64 a0_1]) (t := 65) ?hr ?_; (case hd => rfl); (case hg => rfl); (case hr => first | (go_simp; done) | (go_simp; rfl)); intro gb130 hg w4 hbox hb; have n0_ := Aside0.mk (below_step (by repeat (first | (with_reducible first | exact HB.out | apply below_alloc | apply pw_below_drewN | apply below_drew1) | exact HB.out)) hb); have n1_ := Aside0.mk (hbox); have n2_ := Aside0.mk ((by rw [hg]; exact (below_size (by repeat (first | (with_reducible first | exact HB.out | apply below_alloc | apply pw_below_drewN | apply below_drew1) | exact HB.out))) : w.heap.size ≤ gb130)); have n3_ := Aside0.mk ((by rw [hg]; exact (below_size (by repeat (first | (with_reducible first | exact HB.out | apply below_alloc | apply pw_below_drewN | apply below_drew1) | exact HB.out))) : w.heap.size ≤ gb130)); clear HB; have HB := n0_; have BK130 := n1_; have GW130 := n2_; have GE130 := n3_; clear n0_ n1_ n2_ n3_; clear hb hbox hg; have hcz5_0 : w4.cell? ⟨gb130, 0, none⟩ = some (.int .u64 a0_0) := (blk_cell BK130.out 0).trans rfl; have hcz5_1 : w4.cell? ⟨gb130, 1, none⟩ = some (.int .u64 a0_1) := (blk_cell BK130.out 1).trans rfl; have hfz5_0 := blk_frozen BK130.out 0; have hfz5_1 := blk_frozen BK130.out 1) | (go_at_call 102; (with_reducible refine (bits_OnesCount64.calls a0_1 t131 _ A2.out).mono ?_); rintro e w' ⟨rfl, ⟨nd, rfl⟩⟩; (try first | exact ⟨rfl, _, World.drewN_drewN _ _ _⟩ | exact ⟨rfl, _, Eq.trans (World.drewN_drewN _ _ _) (congrArg (World.drewN _) (Nat.add_assoc _ _ _))⟩)) | (go_at_call 102; (with_reducible refine (bits_OnesCount64.calls a0_0 t132 _ A3.out).mono ?_); rintro e w' ⟨rfl, ⟨nd, rfl⟩⟩; (try first | exact ⟨rfl, _, World.drewN_drewN _ _ _⟩ | exact ⟨rfl, _, Eq.trans (World.drewN_drewN _ _ _) (congrArg (World.drewN _) (Nat.add_assoc _ _ _))⟩)))
  repeat (go_quiet (first | ((with_reducible refine gate_dst (N := 1) rfl ?_); refine box_event ?hg (N := 1) ?hd (cs := #[.int .u64 a0_0, .int .u64 a0_1]) (t := 65) ?hr ?_; (case hd => rfl); (case hg => rfl); (case hr => first | (go_simp; done) | (go_simp; rfl)); intro gb130 hg w4 hbox hb; have n0_ := Aside0.mk (below_step (by repeat (first | (with_reducible first | exact HB.out | apply below_alloc | apply pw_below_drewN | apply below_drew1) | exact HB.out)) hb); have n1_ := Aside0.mk (hbox); have n2_ := Aside0.mk ((by rw [hg]; exact (below_size (by repeat (first | (with_reducible first | exact HB.out | apply below_alloc | apply pw_below_drewN | apply below_drew1) | exact HB.out))) : w.heap.size ≤ gb130)); have n3_ := Aside0.mk ((by rw [hg]; exact (below_size (by repeat (first | (with_reducible first | exact HB.out | apply below_alloc | apply pw_below_drewN | apply below_drew1) | exact HB.out))) : w.heap.size ≤ gb130)); clear HB; have HB := n0_; have BK130 := n1_; have GW130 := n2_; have GE130 := n3_; clear n0_ n1_ n2_ n3_; clear hb hbox hg; have hcz5_0 : w4.cell? ⟨gb130, 0, none⟩ = some (.int .u64 a0_0) := (blk_cell BK130.out 0).trans rfl; have hcz5_1 : w4.cell? ⟨gb130, 1, none⟩ = some (.int .u64 a0_1) := (blk_cell BK130.out 1).trans rfl; have hfz5_0 := blk_frozen BK130.out 0; have hfz5_1 := blk_frozen BK130.out 1) | (go_at_call 102; (with_reducible refine (bits_OnesCount64.calls a0_1 t131 _ A2.out).mono ?_); rintro e w' ⟨rfl, ⟨nd, rfl⟩⟩; (try first | exact ⟨rfl, _, World.drewN_drewN _ _ _⟩ | exact ⟨rfl, _, Eq.trans (World.drewN_drewN _ _ _) (congrArg (World.drewN _) (Nat.add_assoc _ _ _))⟩)) | (go_at_call 102; (with_reducible refine (bits_OnesCount64.calls a0_0 t132 _ A3.out).mono ?_); rintro e w' ⟨rfl, ⟨nd, rfl⟩⟩; (try first | exact ⟨rfl, _, World.drewN_drewN _ _ _⟩ | exact ⟨rfl, _, Eq.trans (World.drewN_drewN _ _ _) (congrArg (World.drewN _) (Nat.add_assoc _ _ _))⟩))); try go_wp2_with (first | ((with_reducible refine gate_dst (N := 1) rfl ?_); refine box_event ?hg (N := 1) ?hd (cs := #[.int .u64 a0_0, .int .u64 a0_1]) (t := 65) ?hr ?_; (case hd => rfl); (case hg => rfl); (case hr => first | (go_simp; done) | (go_simp; rfl)); intro gb130 hg w4 hbox hb; have n0_ := Aside0.mk (below_step (by repeat (first | (with_reducible first | exact HB.out | apply below_alloc | apply pw_below_drewN | apply below_drew1) | exact HB.out)) hb); have n1_ := Aside0.mk (hbox); have n2_ := Aside0.mk ((by rw [hg]; exact (below_size (by repeat (first | (with_reducible first | exact HB.out | apply below_alloc | apply pw_below_drewN | apply below_drew1) | exact HB.out))) : w.heap.size ≤ gb130)); have n3_ := Aside0.mk ((by rw [hg]; exact (below_size (by repeat (first | (with_reducible first | exact HB.out | apply below_alloc | apply pw_below_drewN | apply below_drew1) | exact HB.out))) : w.heap.size ≤ gb130)); clear HB; have HB := n0_; have BK130 := n1_; have GW130 := n2_; have GE130 := n3_; clear n0_ n1_ n2_ n3_; clear hb hbox hg; have hcz5_0 : w4.cell? ⟨gb130, 0, none⟩ = some (.int .u64 a0_0) := (blk_cell BK130.out 0).trans rfl; have hcz5_1 : w4.cell? ⟨gb130, 1, none⟩ = some (.int .u64 a0_1) := (blk_cell BK130.out 1).trans rfl; have hfz5_0 := blk_frozen BK130.out 0; have hfz5_1 := blk_frozen BK130.out 1) | (go_at_call 102; (with_reducible refine (bits_OnesCount64.calls a0_1 t131 _ A2.out).mono ?_); rintro e w' ⟨rfl, ⟨nd, rfl⟩⟩; (try first | exact ⟨rfl, _, World.drewN_drewN _ _ _⟩ | exact ⟨rfl, _, Eq.trans (World.drewN_drewN _ _ _) (congrArg (World.drewN _) (Nat.add_assoc _ _ _))⟩)) | (go_at_call 102; (with_reducible refine (bits_OnesCount64.calls a0_0 t132 _ A3.out).mono ?_); rintro e w' ⟨rfl, ⟨nd, rfl⟩⟩; (try first | exact ⟨rfl, _, World.drewN_drewN _ _ _⟩ | exact ⟨rfl, _, Eq.trans (World.drewN_drewN _ _ _) (congrArg (World.drewN _) (Nat.add_assoc _ _ _))⟩))))
  go_ret
  exact ⟨by first | rfl | (simp [errW_none, errW_some] <;> rfl) | (simp [*, errW_none, errW_some] <;> rfl), by repeat (first | (with_reducible first | exact HB.out | apply below_alloc | apply pw_below_drewN | apply below_drew1 | refine below_set ?_ GE130.out) | exact HB.out)⟩


/-! ### impl_WideOnes: function 23 -/
def impl_WideOnes.f (a0_0 : Int) (a0_1 : Int) : Option (Int) := (impl_Wide_u.f a0_0 a0_1).bind fun bt134 => ((uint128_Uint128_OnesCount.f bt134.1 bt134.2).bind fun t136 => (some t136))
set_option maxHeartbeats 8000000 in
set_option maxRecDepth 100000 in
theorem impl_WideOnes.calls (a0_0 : Int) (a0_1 : Int) (r : Int) (w : World) (h : impl_WideOnes.f a0_0 a0_1 = some r) :
    Calls Tryd.prog 23 #[.agg #[.int .u64 a0_0, .int .u64 a0_1]] w fun e w' => e = .returned (.int .i64 r) ∧ Below w.heap.size w w' := by
  have hu24 := Tryd.underlying24
  have HB := Aside0.mk (Below.refl w.heap.size w)
  have H : ((impl_Wide_u.f a0_0 a0_1).bind fun bt134 => ((uint128_Uint128_OnesCount.f bt134.1 bt134.2).bind fun t136 => (some t136))) = some r := h
  clear h
  replace H := Option.bind_eq_some_iff.mp H
  obtain ⟨⟨t134, t135⟩, A20, H⟩ := H
  replace H : ((uint128_Uint128_OnesCount.f t134 t135).bind fun t136 => (some t136)) = some r := H
  have A2 := Aside0.mk A20
  clear A20
  replace H := Option.bind_eq_some_iff.mp H
  obtain ⟨t136, A30, H⟩ := H
  replace H : (some t136) = some r := H
  have A3 := Aside0.mk A30
  clear A30
  obtain rfl := Option.some.inj H
  go_enter Tryd.func23, Tryd.ntmps23
  go_wp2_with (first | ((with_reducible refine gate_dst (N := 1) rfl ?_); refine box_event ?hg (N := 1) ?hd (cs := #[.int .u64 a0_0, .int .u64 a0_1]) (t := 24) ?hr ?_; (case hd => rfl); (case hg => rfl); (case hr => first | (go_simp; done) | (go_simp; rfl)); intro gb133 hg w4 hbox hb; have n0_ := Aside0.mk (below_step (by repeat (first | (with_reducible first | exact HB.out | apply below_alloc | apply pw_below_drewN | apply below_drew1) | exact HB.out)) hb); have n1_ := Aside0.mk (hbox); have n2_ := Aside0.mk ((by rw [hg]; exact (below_size (by repeat (first | (with_reducible first | exact HB.out | apply below_alloc | apply pw_below_drewN | apply below_drew1) | exact HB.out))) : w.heap.size ≤ gb133)); have n3_ := Aside0.mk ((by rw [hg]; exact (below_size (by repeat (first | (with_reducible first | exact HB.out | apply below_alloc | apply pw_below_drewN | apply below_drew1) | exact HB.out))) : w.heap.size ≤ gb133)); clear HB; have HB := n0_; have BK133 := n1_; have GW133 := n2_; have GE133 := n3_; clear n0_ n1_ n2_ n3_; clear hb hbox hg; have hcz5_0 : w4.cell? ⟨gb133, 0, none⟩ = some (.int .u64 a0_0) := (blk_cell BK133.out 0).trans rfl; have hcz5_1 : w4.cell? ⟨gb133, 1, none⟩ = some (.int .u64 a0_1) := (blk_cell BK133.out 1).trans rfl; have hfz5_0 := blk_frozen BK133.out 0; have hfz5_1 := blk_frozen BK133.out 1) | ((with_reducible refine gate_callee (f := 46) rfl ?_); refine goesL_ (some 4) rfl rfl Tryd.func46 (by kernel_rfl) rfl #[.agg #[.int .u64 a0_0, .int .u64 a0_1]] rfl (by (try simp only [List.map_toArray, List.map_cons, List.map_nil]); first | done | rfl | (simp only [List.length_drop, List.length_take]; rfl)) ?_; (with_reducible refine (impl_Wide_u.calls a0_0 a0_1 t134 t135 _ A2.out).mono ?_); rintro e w6 ⟨rfl, hb⟩; refine ⟨_, rfl, ?_⟩; have n0_ := Aside0.mk (blk_below (g := gb133) (o := .cells #[.int .u64 a0_0, .int .u64 a0_1] 24 (0, 0)) (by (with_reducible repeat (first | refine blk_drewN ?_ _ | refine blk_drew ?_ | refine blk_alloc ?_ _)); exact BK133.out) hb); have n1_ := Aside0.mk (below_step (by repeat (first | (with_reducible first | exact HB.out | apply below_alloc | apply pw_below_drewN | apply below_drew1 | refine below_set ?_ GE133.out) | exact HB.out)) hb); clear BK133; clear HB; have BK133 := n0_; have HB := n1_; clear n0_ n1_; (try clear hb); (try clear hb2); (try clear hk); (try clear hi)) | ((with_reducible refine gate_callee (f := 49) rfl ?_); refine goesL_ (some 5) rfl rfl Tryd.func49 (by kernel_rfl) rfl #[.agg #[.int .u64 t134, .int .u64 t135]] rfl (by (try simp only [List.map_toArray, List.map_cons, List.map_nil]); first | done | rfl | (simp only [List.length_drop, List.length_take]; rfl)) ?_; (with_reducible refine (uint128_Uint128_OnesCount.calls t134 t135 t136 _ A3.out).mono ?_); rintro e w7 ⟨rfl, hb⟩; refine ⟨_, rfl, ?_⟩; have n0_ := Aside0.mk (blk_below (g := gb133) (o := .cells #[.int .u64 a0_0, .int .u64 a0_1] 24 (0, 0)) (by (with_reducible repeat (first | refine blk_drewN ?_ _ | refine blk_drew ?_ | refine blk_alloc ?_ _)); exact BK133.out) hb); have n1_ := Aside0.mk (below_step (by repeat (first | (with_reducible first | exact HB.out | apply below_alloc | apply pw_below_drewN | apply below_drew1 | refine below_set ?_ GE133.out) | exact HB.out)) hb); clear BK133; clear HB; have BK133 := n0_; have HB := n1_; clear n0_ n1_; (try clear hb); (try clear hb2); (try clear hk); (try clear hi)))
  go_ret
  exact ⟨by first | rfl | (simp [errW_none, errW_some] <;> rfl) | (simp [*, errW_none, errW_some] <;> rfl), by repeat (first | (with_reducible first | exact HB.out | apply below_alloc | apply pw_below_drewN | apply below_drew1 | refine below_set ?_ GE133.out) | exact HB.out)⟩


/-! ### uint128_Uint128_Len: function 50 -/
def uint128_Uint128_Len.f (a0_0 : Int) (a0_1 : Int) : Option (Int) := (uint128_Uint128_LeadingZeros.f a0_0 a0_1).bind fun t138 => (some (wrap64 (128 - t138)))
set_option maxHeartbeats 8000000 in
set_option maxRecDepth 100000 in
theorem uint128_Uint128_Len.calls (a0_0 : Int) (a0_1 : Int) (r : Int) (w : World) (h : uint128_Uint128_Len.f a0_0 a0_1 = some r) :
    Calls Tryd.prog 50 #[.agg #[.int .u64 a0_0, .int .u64 a0_1]] w fun e w' => e = .returned (.int .i64 r) ∧ Below w.heap.size w w' := by
  have hu65 := Tryd.underlying65
  have HB := Aside0.mk (Below.refl w.heap.size w)
  have H : ((uint128_Uint128_LeadingZeros.f a0_0 a0_1).bind fun t138 => (some (wrap64 (128 - t138)))) = some r := h
  clear h
  replace H := Option.bind_eq_some_iff.mp H
  obtain ⟨t138, A20, H⟩ := H
  replace H : (some (wrap64 (128 - t138))) = some r := H
  have A2 := Aside0.mk A20
  clear A20
  obtain rfl := Option.some.inj H
  go_enter Tryd.func50, Tryd.ntmps50
  go_wp2_with (first | ((with_reducible refine gate_dst (N := 1) rfl ?_); refine box_event ?hg (N := 1) ?hd (cs := #[.int .u64 a0_0, .int .u64 a0_1]) (t := 65) ?hr ?_; (case hd => rfl); (case hg => rfl); (case hr => first | (go_simp; done) | (go_simp; rfl)); intro gb137 hg w3 hbox hb; have n0_ := Aside0.mk (below_step (by repeat (first | (with_reducible first | exact HB.out | apply below_alloc | apply pw_below_drewN | apply below_drew1) | exact HB.out)) hb); have n1_ := Aside0.mk (hbox); have n2_ := Aside0.mk ((by rw [hg]; exact (below_size (by repeat (first | (with_reducible first | exact HB.out | apply below_alloc | apply pw_below_drewN | apply below_drew1) | exact HB.out))) : w.heap.size ≤ gb137)); have n3_ := Aside0.mk ((by rw [hg]; exact (below_size (by repeat (first | (with_reducible first | exact HB.out | apply below_alloc | apply pw_below_drewN | apply below_drew1) | exact HB.out))) : w.heap.size ≤ gb137)); clear HB; have HB := n0_; have BK137 := n1_; have GW137 := n2_; have GE137 := n3_; clear n0_ n1_ n2_ n3_; clear hb hbox hg; have hcz4_0 : w3.cell? ⟨gb137, 0, none⟩ = some (.int .u64 a0_0) := (blk_cell BK137.out 0).trans rfl; have hcz4_1 : w3.cell? ⟨gb137, 1, none⟩ = some (.int .u64 a0_1) := (blk_cell BK137.out 1).trans rfl; have hfz4_0 := blk_frozen BK137.out 0; have hfz4_1 := blk_frozen BK137.out 1) | ((with_reducible refine gate_callee (f := 47) rfl ?_); refine goesL_ (some 4) rfl rfl Tryd.func47 (by kernel_rfl) rfl #[.agg #[.int .u64 a0_0, .int .u64 a0_1]] rfl (by (try simp only [List.map_toArray, List.map_cons, List.map_nil]); first | done | rfl | (simp only [List.length_drop, List.length_take]; rfl)) ?_; (with_reducible refine (uint128_Uint128_LeadingZeros.calls a0_0 a0_1 t138 _ A2.out).mono ?_); rintro e w5 ⟨rfl, hb⟩; refine ⟨_, rfl, ?_⟩; have n0_ := Aside0.mk (blk_below (g := gb137) (o := .cells #[.int .u64 a0_0, .int .u64 a0_1] 65 (0, 0)) (by (with_reducible repeat (first | refine blk_drewN ?_ _ | refine blk_drew ?_ | refine blk_alloc ?_ _)); exact BK137.out) hb); have n1_ := Aside0.mk (below_step (by repeat (first | (with_reducible first | exact HB.out | apply below_alloc | apply pw_below_drewN | apply below_drew1 | refine below_set ?_ GE137.out) | exact HB.out)) hb); clear BK137; clear HB; have BK137 := n0_; have HB := n1_; clear n0_ n1_; (try clear hb); (try clear hb2); (try clear hk); (try clear hi)))
  go_ret
  exact ⟨by first | rfl | (simp [errW_none, errW_some] <;> rfl) | (simp [*, errW_none, errW_some] <;> rfl), by repeat (first | (with_reducible first | exact HB.out | apply below_alloc | apply pw_below_drewN | apply below_drew1 | refine below_set ?_ GE137.out) | exact HB.out)⟩


/-! ### impl_WideLen: function 24 -/
def impl_WideLen.f (a0_0 : Int) (a0_1 : Int) : Option (Int) := (impl_Wide_u.f a0_0 a0_1).bind fun bt140 => ((uint128_Uint128_Len.f bt140.1 bt140.2).bind fun t142 => (some t142))
set_option maxHeartbeats 8000000 in
set_option maxRecDepth 100000 in
theorem impl_WideLen.calls (a0_0 : Int) (a0_1 : Int) (r : Int) (w : World) (h : impl_WideLen.f a0_0 a0_1 = some r) :
    Calls Tryd.prog 24 #[.agg #[.int .u64 a0_0, .int .u64 a0_1]] w fun e w' => e = .returned (.int .i64 r) ∧ Below w.heap.size w w' := by
  have hu24 := Tryd.underlying24
  have HB := Aside0.mk (Below.refl w.heap.size w)
  have H : ((impl_Wide_u.f a0_0 a0_1).bind fun bt140 => ((uint128_Uint128_Len.f bt140.1 bt140.2).bind fun t142 => (some t142))) = some r := h
  clear h
  replace H := Option.bind_eq_some_iff.mp H
  obtain ⟨⟨t140, t141⟩, A20, H⟩ := H
  replace H : ((uint128_Uint128_Len.f t140 t141).bind fun t142 => (some t142)) = some r := H
  have A2 := Aside0.mk A20
  clear A20
  replace H := Option.bind_eq_some_iff.mp H
  obtain ⟨t142, A30, H⟩ := H
  replace H : (some t142) = some r := H
  have A3 := Aside0.mk A30
  clear A30
  obtain rfl := Option.some.inj H
  go_enter Tryd.func24, Tryd.ntmps24
  go_wp2_with (first | ((with_reducible refine gate_dst (N := 1) rfl ?_); refine box_event ?hg (N := 1) ?hd (cs := #[.int .u64 a0_0, .int .u64 a0_1]) (t := 24) ?hr ?_; (case hd => rfl); (case hg => rfl); (case hr => first | (go_simp; done) | (go_simp; rfl)); intro gb139 hg w4 hbox hb; have n0_ := Aside0.mk (below_step (by repeat (first | (with_reducible first | exact HB.out | apply below_alloc | apply pw_below_drewN | apply below_drew1) | exact HB.out)) hb); have n1_ := Aside0.mk (hbox); have n2_ := Aside0.mk ((by rw [hg]; exact (below_size (by repeat (first | (with_reducible first | exact HB.out | apply below_alloc | apply pw_below_drewN | apply below_drew1) | exact HB.out))) : w.heap.size ≤ gb139)); have n3_ := Aside0.mk ((by rw [hg]; exact (below_size (by repeat (first | (with_reducible first | exact HB.out | apply below_alloc | apply pw_below_drewN | apply below_drew1) | exact HB.out))) : w.heap.size ≤ gb139)); clear HB; have HB := n0_; have BK139 := n1_; have GW139 := n2_; have GE139 := n3_; clear n0_ n1_ n2_ n3_; clear hb hbox hg; have hcz5_0 : w4.cell? ⟨gb139, 0, none⟩ = some (.int .u64 a0_0) := (blk_cell BK139.out 0).trans rfl; have hcz5_1 : w4.cell? ⟨gb139, 1, none⟩ = some (.int .u64 a0_1) := (blk_cell BK139.out 1).trans rfl; have hfz5_0 := blk_frozen BK139.out 0; have hfz5_1 := blk_frozen BK139.out 1) | ((with_reducible refine gate_callee (f := 46) rfl ?_); refine goesL_ (some 4) rfl rfl Tryd.func46 (by kernel_rfl) rfl #[.agg #[.int .u64 a0_0, .int .u64 a0_1]] rfl (by (try simp only [List.map_toArray, List.map_cons, List.map_nil]); first | done | rfl | (simp only [List.length_drop, List.length_take]; rfl)) ?_; (with_reducible refine (impl_Wide_u.calls a0_0 a0_1 t140 t141 _ A2.out).mono ?_); rintro e w6 ⟨rfl, hb⟩; refine ⟨_, rfl, ?_⟩; have n0_ := Aside0.mk (blk_below (g := gb139) (o := .cells #[.int .u64 a0_0, .int .u64 a0_1] 24 (0, 0)) (by (with_reducible repeat (first | refine blk_drewN ?_ _ | refine blk_drew ?_ | refine blk_alloc ?_ _)); exact BK139.out) hb); have n1_ := Aside0.mk (below_step (by repeat (first | (with_reducible first | exact HB.out | apply below_alloc | apply pw_below_drewN | apply below_drew1 | refine below_set ?_ GE139.out) | exact HB.out)) hb); clear BK139; clear HB; have BK139 := n0_; have HB := n1_; clear n0_ n1_; (try clear hb); (try clear hb2); (try clear hk); (try clear hi)) | ((with_reducible refine gate_callee (f := 50) rfl ?_); refine goesL_ (some 5) rfl rfl Tryd.func50 (by kernel_rfl) rfl #[.agg #[.int .u64 t140, .int .u64 t141]] rfl (by (try simp only [List.map_toArray, List.map_cons, List.map_nil]); first | done | rfl | (simp only [List.length_drop, List.length_take]; rfl)) ?_; (with_reducible refine (uint128_Uint128_Len.calls t140 t141 t142 _ A3.out).mono ?_); rintro e w7 ⟨rfl, hb⟩; refine ⟨_, rfl, ?_⟩; have n0_ := Aside0.mk (blk_below (g := gb139) (o := .cells #[.int .u64 a0_0, .int .u64 a0_1] 24 (0, 0)) (by (with_reducible repeat (first | refine blk_drewN ?_ _ | refine blk_drew ?_ | refine blk_alloc ?_ _)); exact BK139.out) hb); have n1_ := Aside0.mk (below_step (by repeat (first | (with_reducible first | exact HB.out | apply below_alloc | apply pw_below_drewN | apply below_drew1 | refine below_set ?_ GE139.out) | exact HB.out)) hb); clear BK139; clear HB; have BK139 := n0_; have HB := n1_; clear n0_ n1_; (try clear hb); (try clear hb2); (try clear hk); (try clear hi)))
  go_ret
  exact ⟨by first | rfl | (simp [errW_none, errW_some] <;> rfl) | (simp [*, errW_none, errW_some] <;> rfl), by repeat (first | (with_reducible first | exact HB.out | apply below_alloc | apply pw_below_drewN | apply below_drew1 | refine below_set ?_ GE139.out) | exact HB.out)⟩


/-! ### laws_FnWideCounts: function 4 -/
def laws_FnWideCounts.l0 : Nat → List Int → Int → Int → Int → Int → Int → Option (Bool)
  | 0, _, _, _, _, _, _ => none
  | k + 1, x3, x4, x5, x6, x144000, x144001 => if x6 ≥ 0 then ((spec_Big_Bit.f x3 x6).bind fun t147 => (if t147 = true then (laws_FnWideCounts.l0 k x3 (wrap64 (x4 + 1)) x6 (wrap64 (x6 - 1)) x144000 x144001) else (laws_FnWideCounts.l0 k x3 x4 x5 (wrap64 (x6 - 1)) x144000 x144001))) else ((impl_WideLeading.f x144000 x144001).bind fun t148 => ((spec_Big_Length.f k x3).bind fun t149 => (if t148 = (wrap64 (128 - t149)) then ((impl_WideTrailing.f x144000 x144001).bind fun t150 => (if t150 = x5 then ((impl_WideOnes.f x144000 x144001).bind fun t151 => (if t151 = x4 then ((impl_WideLen.f x144000 x144001).bind fun t152 => ((spec_Big_Length.f k x3).bind fun t153 => (some (t152 == t153)))) else (some false))) else (some false))) else (some false))))
def laws_FnWideCounts.f (k : Nat) (a0_0 : Int) (a0_1 : Int) : Option (Bool) := (laws_wideWhole.f a0_0 a0_1).bind fun t144 => (laws_FnWideCounts.l0 k t144 0 128 127 a0_0 a0_1)
theorem laws_FnWideCounts.mono_l : ∀ k, (∀ y0 y1 y2 y3 y4 y5, LeO (laws_FnWideCounts.l0 k y0 y1 y2 y3 y4 y5) (laws_FnWideCounts.l0 (k + 1) y0 y1 y2 y3 y4 y5))
  | 0 => fun _ _ _ _ _ _ r h => by simp [laws_FnWideCounts.l0] at h
  | k + 1 => by
    have ih0 := laws_FnWideCounts.mono_l k
    · intro y0 y1 y2 y3 y4 y5
      unfold laws_FnWideCounts.l0
      repeat' first
      | (with_reducible exact ih0 _ _ _ _ _ _)
      | (with_reducible exact spec_Big_Length.mono _ _)
      | (with_reducible exact LeO.refl _)
      | (with_reducible exact LeO.none _)
      | (with_reducible refine LeO.ite ?_ ?_)
      | (with_reducible refine LeO.bind ?_ (fun _ => ?_))
      | exact ih0 _ _ _ _ _ _
      | exact spec_Big_Length.mono _ _
      | exact LeO.none _
      | refine LeO.ite ?_ ?_
      | refine LeO.bind ?_ (fun _ => ?_)
theorem laws_FnWideCounts.mono : ∀ a0 a1 k, LeO (laws_FnWideCounts.f k a0 a1) (laws_FnWideCounts.f (k + 1) a0 a1) := by
  intro a0 a1 k
  have ih0 := laws_FnWideCounts.mono_l k
  unfold laws_FnWideCounts.f
  repeat' first
      | (with_reducible exact ih0 _ _ _ _ _ _)
      | (with_reducible exact spec_Big_Length.mono _ _)
      | (with_reducible exact LeO.refl _)
      | (with_reducible exact LeO.none _)
      | (with_reducible refine LeO.ite ?_ ?_)
      | (with_reducible refine LeO.bind ?_ (fun _ => ?_))
      | exact ih0 _ _ _ _ _ _
      | exact spec_Big_Length.mono _ _
      | exact LeO.none _
      | refine LeO.ite ?_ ?_
      | refine LeO.bind ?_ (fun _ => ?_)
set_option maxHeartbeats 8000000 in
set_option maxRecDepth 100000 in
theorem laws_FnWideCounts.calls (k : Nat) (a0_0 : Int) (a0_1 : Int) (r : Bool) (w : World) (h : laws_FnWideCounts.f k a0_0 a0_1 = some r) (HZ : GlobT w) :
    Calls Tryd.prog 4 #[.agg #[.int .u64 a0_0, .int .u64 a0_1]] w fun e w' => e = .returned (.bool r) ∧ Below w.heap.size w w' := by
  have GZ := Aside0.mk HZ
  clear HZ
  have hu24 := Tryd.underlying24
  have HB := Aside0.mk (Below.refl w.heap.size w)
  have H : ((laws_wideWhole.f a0_0 a0_1).bind fun t144 => (laws_FnWideCounts.l0 k t144 0 128 127 a0_0 a0_1)) = some r := h
  clear h
  replace H := Option.bind_eq_some_iff.mp H
  obtain ⟨t144, A20, H⟩ := H
  replace H : (laws_FnWideCounts.l0 k t144 0 128 127 a0_0 a0_1) = some r := H
  have A2 := Aside0.mk A20
  clear A20
  have H' := Aside0.mk H
  clear H
  go_enter Tryd.func4, Tryd.ntmps4
  go_wp2_with (first | ((with_reducible refine gate_dst (N := 1) rfl ?_); refine box_event ?hg (N := 1) ?hd (cs := #[.int .u64 a0_0, .int .u64 a0_1]) (t := 24) ?hr ?_; (case hd => rfl); (case hg => rfl); (case hr => first | (go_simp; done) | (go_simp; rfl)); intro gb143 hg w3 hbox hb; have n0_ := Aside0.mk (below_step (by repeat (first | (with_reducible first | exact HB.out | apply below_alloc | apply pw_below_drewN | apply below_drew1) | exact HB.out)) hb); have n1_ := Aside0.mk (hbox); have n2_ := Aside0.mk ((by rw [hg]; exact (below_size (by repeat (first | (with_reducible first | exact HB.out | apply below_alloc | apply pw_below_drewN | apply below_drew1) | exact HB.out))) : w.heap.size ≤ gb143)); have n3_ := Aside0.mk ((by rw [hg]; exact (below_size (by repeat (first | (with_reducible first | exact HB.out | apply below_alloc | apply pw_below_drewN | apply below_drew1) | exact HB.out))) : w.heap.size ≤ gb143)); clear HB; have HB := n0_; have BK143 := n1_; have GW143 := n2_; have GE143 := n3_; clear n0_ n1_ n2_ n3_; clear hb hbox hg; have hcz4_0 : w3.cell? ⟨gb143, 0, none⟩ = some (.int .u64 a0_0) := (blk_cell BK143.out 0).trans rfl; have hcz4_1 : w3.cell? ⟨gb143, 1, none⟩ = some (.int .u64 a0_1) := (blk_cell BK143.out 1).trans rfl; have hfz4_0 := blk_frozen BK143.out 0; have hfz4_1 := blk_frozen BK143.out 1) | ((with_reducible refine gate_callee (f := 18) rfl ?_); refine goesL_ (some 8) rfl rfl Tryd.func18 (by kernel_rfl) rfl #[.agg #[.int .u64 a0_0, .int .u64 a0_1]] rfl (by (try simp only [List.map_toArray, List.map_cons, List.map_nil]); first | done | rfl | (simp only [List.length_drop, List.length_take]; rfl)) ?_; (with_reducible refine (laws_wideWhole.calls a0_0 a0_1 t144 _ A2.out).mono ?_); rintro e w5 ⟨v145, rfl, ho0, hb⟩; refine ⟨_, rfl, ?_⟩; have n0_ := Aside0.mk (Kd.V_lower (Kd.V_mono (ok' := fun k_ => k_ ≠ gb143) ho0 (fun k_ hk_ => (Kd.freshB (g := gb143) (o := .cells #[.int .u64 a0_0, .int .u64 a0_1] 24 (0, 0)) (by (with_reducible repeat (first | refine blk_drewN ?_ _ | refine blk_drew ?_ | refine blk_alloc ?_ _)); exact BK143.out) k_ hk_))) (below_size (by repeat (first | (with_reducible first | exact HB.out | apply below_alloc | apply pw_below_drewN | apply below_drew1 | refine below_set ?_ GE143.out) | exact HB.out)))); have n1_ := Aside0.mk (blk_below (g := gb143) (o := .cells #[.int .u64 a0_0, .int .u64 a0_1] 24 (0, 0)) (by (with_reducible repeat (first | refine blk_drewN ?_ _ | refine blk_drew ?_ | refine blk_alloc ?_ _)); exact BK143.out) hb); have n2_ := Aside0.mk (below_step (by repeat (first | (with_reducible first | exact HB.out | apply below_alloc | apply pw_below_drewN | apply below_drew1 | refine below_set ?_ GE143.out) | exact HB.out)) hb); clear BK143; clear HB; have HO146 := n0_; have BK143 := n1_; have HB := n2_; clear n0_ n1_ n2_; (try clear hb); (try clear hb2); (try clear hk); (try clear hi); (try clear ho0)))
  go_loopg [4, 5, 6] k (fun kq v4 v5 v6 w' => ∃ (x4_1 : Int) (x5_1 : Int) (x6_1 : Int), v4 = .int .i64 x4_1 ∧ v5 = .int .i64 x5_1 ∧ v6 = .int .i64 x6_1 ∧ Aside0 (laws_FnWideCounts.l0 kq t144 x4_1 x5_1 x6_1 a0_0 a0_1 = some r) ∧ Aside0 (kq ≤ k) ∧ Aside0 (Kd.V (Kd.int .i64) 3 w' w.heap.size (fun k_ => k_ ≠ gb143) v145 t144) ∧ Aside0 (w'.heap[gb143]? = some (.cells #[.int .u64 a0_0, .int .u64 a0_1] 24 (0, 0))) ∧ Aside0 (Below w.heap.size w w'))
  case atStart => exact ⟨(0), (128), (127), (by first | rfl | (simp; done) | (simp [*]; done)), (by first | rfl | (simp; done) | (simp [*]; done)), (by first | rfl | (simp; done) | (simp [*]; done)), H', ⟨Nat.le_refl _⟩, ⟨by (with_reducible repeat (first | apply Kd.V_alloc | apply Kd.V_drewN | apply Kd.V_drew)); exact HO146.out⟩, ⟨by (with_reducible repeat (first | refine blk_drewN ?_ _ | refine blk_drew ?_ | refine blk_alloc ?_ _)); exact BK143.out⟩, ⟨by repeat (first | (with_reducible first | exact HB.out | apply below_alloc | apply pw_below_drewN | apply below_drew1 | refine below_set ?_ GE143.out) | exact HB.out)⟩⟩
  case round =>
    clear H'
    try clear c1
    try clear p2
    try clear c4
    try clear hcz4_0
    try clear hcz4_1
    try clear hfz4_0
    try clear hfz4_1
    obtain ⟨x4_1, x5_1, x6_1, rfl, rfl, rfl, HA, HK1, HO_3, BK143, HB⟩ := hrel
    cases gk with
    | zero => exact absurd HA.out (by simp [laws_FnWideCounts.l0])
    | succ k1 =>
      have H := HA.out
      clear HA
      simp only [laws_FnWideCounts.l0] at H
      by_cases c6 : x6_1 ≥ 0
      · rw [if_pos c6] at H
        have c6b0 : decide (0 ≤ x6_1) = true := decide_eq_true c6
        clear c6
        replace H := Option.bind_eq_some_iff.mp H
        obtain ⟨t147, A70, H⟩ := H
        replace H : (if t147 = true then (laws_FnWideCounts.l0 k1 t144 (wrap64 (x4_1 + 1)) x6_1 (wrap64 (x6_1 - 1)) a0_0 a0_1) else (laws_FnWideCounts.l0 k1 t144 x4_1 x5_1 (wrap64 (x6_1 - 1)) a0_0 a0_1)) = some r := H
        have A7 := Aside0.mk A70
        clear A70
        by_cases c8 : t147 = true
        · subst c8
          have H1 : (laws_FnWideCounts.l0 k1 t144 (wrap64 (x4_1 + 1)) x6_1 (wrap64 (x6_1 - 1)) a0_0 a0_1) = some r := by rw [if_pos rfl] at H; exact H
          clear H
          have H := H1
          clear H1
          have H' := Aside0.mk H
          clear H
          obtain ⟨Ao9, co9, eo9⟩ := Kd.V_slice HO_3.out
          subst eo9
          go_wp2_with (first | ((with_reducible refine gate_callee (f := 20) rfl ?_); refine goesL_ (some 15) rfl rfl Tryd.func20 (by kernel_rfl) rfl #[.slice Ao9 t144.length co9, .int .i64 x6_1] rfl (by (try simp only [List.map_toArray, List.map_cons, List.map_nil]); first | done | rfl | (simp only [List.length_drop, List.length_take]; rfl)) ?_; (with_reducible refine (spec_Big_Bit.calls _ _ t144 x6_1 true _ ?side1 ?side2 A7.out).mono ?_); (case side1 => repeat (first | exact (Kd.V_reads' HO_3.out).2.2 | (with_reducible refine Kd.C_alloc ?_ _) | (with_reducible refine Kd.C_drewN ?_ _) | (with_reducible refine Kd.C_drew ?_))); (case side2 => exact (Kd.V_reads' HO_3.out).2.1); rintro e w' ⟨rfl, ⟨nd, rfl⟩⟩; refine ⟨_, rfl, ?_⟩))
          go_roundg k1
          case measure => have := HK1.out; omega
          case rel => exact ⟨(wrap64 (x4_1 + 1)), (x6_1), (wrap64 (x6_1 - 1)), (by first | rfl | (simp; done) | (simp [*]; done)), (by first | rfl | (simp; done) | (simp [*]; done)), (by first | rfl | (simp; done) | (simp [*]; done)), H', ⟨by have := HK1.out; omega⟩, ⟨by (with_reducible repeat (first | apply Kd.V_alloc | apply Kd.V_drewN | apply Kd.V_drew)); exact HO_3.out⟩, ⟨by (with_reducible repeat (first | refine blk_drewN ?_ _ | refine blk_drew ?_ | refine blk_alloc ?_ _)); exact BK143.out⟩, ⟨by repeat (first | (with_reducible first | exact HB.out | apply below_alloc | apply pw_below_drewN | apply below_drew1 | refine below_set ?_ GE143.out) | exact HB.out)⟩⟩
        · replace c8 := Bool.eq_false_iff.mpr c8
          subst c8
          have H1 : (laws_FnWideCounts.l0 k1 t144 x4_1 x5_1 (wrap64 (x6_1 - 1)) a0_0 a0_1) = some r := by rw [if_neg (show ¬ (false = true) by decide)] at H; exact H
          clear H
          have H := H1
          clear H1
          have H' := Aside0.mk H
          clear H
          obtain ⟨Ao10, co10, eo10⟩ := Kd.V_slice HO_3.out
          subst eo10
          go_wp2_with (first | ((with_reducible refine gate_callee (f := 20) rfl ?_); refine goesL_ (some 15) rfl rfl Tryd.func20 (by kernel_rfl) rfl #[.slice Ao10 t144.length co10, .int .i64 x6_1] rfl (by (try simp only [List.map_toArray, List.map_cons, List.map_nil]); first | done | rfl | (simp only [List.length_drop, List.length_take]; rfl)) ?_; (with_reducible refine (spec_Big_Bit.calls _ _ t144 x6_1 false _ ?side1 ?side2 A7.out).mono ?_); (case side1 => repeat (first | exact (Kd.V_reads' HO_3.out).2.2 | (with_reducible refine Kd.C_alloc ?_ _) | (with_reducible refine Kd.C_drewN ?_ _) | (with_reducible refine Kd.C_drew ?_))); (case side2 => exact (Kd.V_reads' HO_3.out).2.1); rintro e w' ⟨rfl, ⟨nd, rfl⟩⟩; refine ⟨_, rfl, ?_⟩))
          go_roundg k1
          case measure => have := HK1.out; omega
          case rel => exact ⟨(x4_1), (x5_1), (wrap64 (x6_1 - 1)), (by first | rfl | (simp; done) | (simp [*]; done)), (by first | rfl | (simp; done) | (simp [*]; done)), (by first | rfl | (simp; done) | (simp [*]; done)), H', ⟨by have := HK1.out; omega⟩, ⟨by (with_reducible repeat (first | apply Kd.V_alloc | apply Kd.V_drewN | apply Kd.V_drew)); exact HO_3.out⟩, ⟨by (with_reducible repeat (first | refine blk_drewN ?_ _ | refine blk_drew ?_ | refine blk_alloc ?_ _)); exact BK143.out⟩, ⟨by repeat (first | (with_reducible first | exact HB.out | apply below_alloc | apply pw_below_drewN | apply below_drew1 | refine below_set ?_ GE143.out) | exact HB.out)⟩⟩
      · rw [if_neg c6] at H
        have c6b0 : decide (0 ≤ x6_1) = false := decide_eq_false c6
        clear c6
        replace H := Option.bind_eq_some_iff.mp H
        obtain ⟨t148, A110, H⟩ := H
        replace H : ((spec_Big_Length.f k1 t144).bind fun t149 => (if t148 = (wrap64 (128 - t149)) then ((impl_WideTrailing.f a0_0 a0_1).bind fun t150 => (if t150 = x5_1 then ((impl_WideOnes.f a0_0 a0_1).bind fun t151 => (if t151 = x4_1 then ((impl_WideLen.f a0_0 a0_1).bind fun t152 => ((spec_Big_Length.f k1 t144).bind fun t153 => (some (t152 == t153)))) else (some false))) else (some false))) else (some false))) = some r := H
        have A11 := Aside0.mk A110
        clear A110
        replace H := Option.bind_eq_some_iff.mp H
        obtain ⟨t149, A120, H⟩ := H
        replace H : (if t148 = (wrap64 (128 - t149)) then ((impl_WideTrailing.f a0_0 a0_1).bind fun t150 => (if t150 = x5_1 then ((impl_WideOnes.f a0_0 a0_1).bind fun t151 => (if t151 = x4_1 then ((impl_WideLen.f a0_0 a0_1).bind fun t152 => ((spec_Big_Length.f k1 t144).bind fun t153 => (some (t152 == t153)))) else (some false))) else (some false))) else (some false)) = some r := H
        have A12 := Aside0.mk A120
        clear A120
        by_cases c13 : t148 = (wrap64 (128 - t149))
        · rw [if_pos c13] at H
          have c13b0 : (t148 == (wrap64 (128 - t149))) = true := beq_iff_eq.mpr c13
          have c13b1 : (t148 != (wrap64 (128 - t149))) = false := bne_eq_false_iff_eq.mpr c13
          clear c13
          replace H := Option.bind_eq_some_iff.mp H
          obtain ⟨t150, A140, H⟩ := H
          replace H : (if t150 = x5_1 then ((impl_WideOnes.f a0_0 a0_1).bind fun t151 => (if t151 = x4_1 then ((impl_WideLen.f a0_0 a0_1).bind fun t152 => ((spec_Big_Length.f k1 t144).bind fun t153 => (some (t152 == t153)))) else (some false))) else (some false)) = some r := H
          have A14 := Aside0.mk A140
          clear A140
          by_cases c15 : t150 = x5_1
          · rw [if_pos c15] at H
            have c15b0 : (t150 == x5_1) = true := beq_iff_eq.mpr c15
            have c15b1 : (t150 != x5_1) = false := bne_eq_false_iff_eq.mpr c15
            clear c15
            replace H := Option.bind_eq_some_iff.mp H
            obtain ⟨t151, A160, H⟩ := H
            replace H : (if t151 = x4_1 then ((impl_WideLen.f a0_0 a0_1).bind fun t152 => ((spec_Big_Length.f k1 t144).bind fun t153 => (some (t152 == t153)))) else (some false)) = some r := H
            have A16 := Aside0.mk A160
            clear A160
            by_cases c17 : t151 = x4_1
            · rw [if_pos c17] at H
              have c17b0 : (t151 == x4_1) = true := beq_iff_eq.mpr c17
              have c17b1 : (t151 != x4_1) = false := bne_eq_false_iff_eq.mpr c17
              clear c17
              replace H := Option.bind_eq_some_iff.mp H
              obtain ⟨t152, A180, H⟩ := H
              replace H : ((spec_Big_Length.f k1 t144).bind fun t153 => (some (t152 == t153))) = some r := H
              have A18 := Aside0.mk A180
              clear A180
              replace H := Option.bind_eq_some_iff.mp H
              obtain ⟨t153, A190, H⟩ := H
              replace H : (some (t152 == t153)) = some r := H
              have A19 := Aside0.mk A190
              clear A190
              obtain rfl := Option.some.inj H
              have hcz20_0 : wr.cell? ⟨gb143, 0, none⟩ = some (.int .u64 a0_0) := (blk_cell BK143.out 0).trans rfl
              have hcz20_1 : wr.cell? ⟨gb143, 1, none⟩ = some (.int .u64 a0_1) := (blk_cell BK143.out 1).trans rfl
              have hfz20_0 := blk_frozen BK143.out 0
              have hfz20_1 := blk_frozen BK143.out 1
              go_wp2_with (first | ((with_reducible refine gate_callee (f := 21) rfl ?_); refine goesL_ (some 20) rfl rfl Tryd.func21 (by kernel_rfl) rfl #[.agg #[.int .u64 a0_0, .int .u64 a0_1]] rfl (by (try simp only [List.map_toArray, List.map_cons, List.map_nil]); first | done | rfl | (simp only [List.length_drop, List.length_take]; rfl)) ?_; (with_reducible refine (impl_WideLeading.calls a0_0 a0_1 t148 _ A11.out).mono ?_); rintro e w21 ⟨rfl, hb⟩; refine ⟨_, rfl, ?_⟩; have n0_ := Aside0.mk (Kd.V_below (by (with_reducible repeat (first | apply Kd.V_alloc | apply Kd.V_drewN | apply Kd.V_drew)); exact HO_3.out) hb); have n1_ := Aside0.mk (blk_below (g := gb143) (o := .cells #[.int .u64 a0_0, .int .u64 a0_1] 24 (0, 0)) (by (with_reducible repeat (first | refine blk_drewN ?_ _ | refine blk_drew ?_ | refine blk_alloc ?_ _)); exact BK143.out) hb); have n2_ := Aside0.mk (below_step (by repeat (first | (with_reducible first | exact HB.out | apply below_alloc | apply pw_below_drewN | apply below_drew1 | refine below_set ?_ GE143.out) | exact HB.out)) hb); clear HO_3; clear BK143; clear HB; have HO_3 := n0_; have BK143 := n1_; have HB := n2_; clear n0_ n1_ n2_; (try clear hb); (try clear hb2); (try clear hk); (try clear hi); obtain ⟨Ao22, co22, eo22⟩ := Kd.V_slice HO_3.out; subst eo22) | ((with_reducible refine gate_callee (f := 19) rfl ?_); refine goesL_ (some 22) rfl rfl Tryd.func19 (by kernel_rfl) rfl #[.slice Ao22 t144.length co22] rfl (by (try simp only [List.map_toArray, List.map_cons, List.map_nil]); first | done | rfl | (simp only [List.length_drop, List.length_take]; rfl)) ?_; (with_reducible refine (spec_Big_Length.calls k1 _ _ t144 t149 _ ?side1 ?side2 A12.out).mono ?_); (case side1 => repeat (first | exact (Kd.V_reads' HO_3.out).2.2 | (with_reducible refine Kd.C_alloc ?_ _) | (with_reducible refine Kd.C_drewN ?_ _) | (with_reducible refine Kd.C_drew ?_))); (case side2 => exact (Kd.V_reads' HO_3.out).2.1); rintro e w' ⟨rfl, ⟨nd, rfl⟩⟩; refine ⟨_, rfl, ?_⟩; have hcz23_0 : w21.cell? ⟨gb143, 0, none⟩ = some (.int .u64 a0_0) := (blk_cell BK143.out 0).trans rfl; have hcz23_1 : w21.cell? ⟨gb143, 1, none⟩ = some (.int .u64 a0_1) := (blk_cell BK143.out 1).trans rfl; have hfz23_0 := blk_frozen BK143.out 0; have hfz23_1 := blk_frozen BK143.out 1) | (go_at_call 22; (with_reducible refine (impl_WideTrailing.calls a0_0 a0_1 t150 _ A14.out (GlobT.below GZ.out (by repeat (first | (with_reducible first | exact HB.out | apply below_alloc | apply pw_below_drewN | apply below_drew1 | refine below_set ?_ GE143.out) | exact HB.out)))).mono ?_); rintro e w24 ⟨rfl, hb⟩; have n0_ := Aside0.mk (Kd.V_below (by (with_reducible repeat (first | apply Kd.V_alloc | apply Kd.V_drewN | apply Kd.V_drew)); exact HO_3.out) hb); have n1_ := Aside0.mk (blk_below (g := gb143) (o := .cells #[.int .u64 a0_0, .int .u64 a0_1] 24 (0, 0)) (by (with_reducible repeat (first | refine blk_drewN ?_ _ | refine blk_drew ?_ | refine blk_alloc ?_ _)); exact BK143.out) hb); have n2_ := Aside0.mk (below_step (by repeat (first | (with_reducible first | exact HB.out | apply below_alloc | apply pw_below_drewN | apply below_drew1 | refine below_set ?_ GE143.out) | exact HB.out)) hb); clear HO_3; clear BK143; clear HB; have HO_3 := n0_; have BK143 := n1_; have HB := n2_; clear n0_ n1_ n2_; (try clear hb); (try clear hb2); (try clear hk); (try clear hi); have hcz25_0 : w24.cell? ⟨gb143, 0, none⟩ = some (.int .u64 a0_0) := (blk_cell BK143.out 0).trans rfl; have hcz25_1 : w24.cell? ⟨gb143, 1, none⟩ = some (.int .u64 a0_1) := (blk_cell BK143.out 1).trans rfl; have hfz25_0 := blk_frozen BK143.out 0; have hfz25_1 := blk_frozen BK143.out 1) | (go_at_call 23; (with_reducible refine (impl_WideOnes.calls a0_0 a0_1 t151 _ A16.out).mono ?_); rintro e w26 ⟨rfl, hb⟩; have n0_ := Aside0.mk (Kd.V_below (by (with_reducible repeat (first | apply Kd.V_alloc | apply Kd.V_drewN | apply Kd.V_drew)); exact HO_3.out) hb); have n1_ := Aside0.mk (blk_below (g := gb143) (o := .cells #[.int .u64 a0_0, .int .u64 a0_1] 24 (0, 0)) (by (with_reducible repeat (first | refine blk_drewN ?_ _ | refine blk_drew ?_ | refine blk_alloc ?_ _)); exact BK143.out) hb); have n2_ := Aside0.mk (below_step (by repeat (first | (with_reducible first | exact HB.out | apply below_alloc | apply pw_below_drewN | apply below_drew1 | refine below_set ?_ GE143.out) | exact HB.out)) hb); clear HO_3; clear BK143; clear HB; have HO_3 := n0_; have BK143 := n1_; have HB := n2_; clear n0_ n1_ n2_; (try clear hb); (try clear hb2); (try clear hk); (try clear hi); have hcz27_0 : w26.cell? ⟨gb143, 0, none⟩ = some (.int .u64 a0_0) := (blk_cell BK143.out 0).trans rfl; have hcz27_1 : w26.cell? ⟨gb143, 1, none⟩ = some (.int .u64 a0_1) := (blk_cell BK143.out 1).trans rfl; have hfz27_0 := blk_frozen BK143.out 0; have hfz27_1 := blk_frozen BK143.out 1) | (go_at_call 24; (with_reducible refine (impl_WideLen.calls a0_0 a0_1 t152 _ A18.out).mono ?_); rintro e w28 ⟨rfl, hb⟩; have n0_ := Aside0.mk (Kd.V_below (by (with_reducible repeat (first | apply Kd.V_alloc | apply Kd.V_drewN | apply Kd.V_drew)); exact HO_3.out) hb); have n1_ := Aside0.mk (blk_below (g := gb143) (o := .cells #[.int .u64 a0_0, .int .u64 a0_1] 24 (0, 0)) (by (with_reducible repeat (first | refine blk_drewN ?_ _ | refine blk_drew ?_ | refine blk_alloc ?_ _)); exact BK143.out) hb); have n2_ := Aside0.mk (below_step (by repeat (first | (with_reducible first | exact HB.out | apply below_alloc | apply pw_below_drewN | apply below_drew1 | refine below_set ?_ GE143.out) | exact HB.out)) hb); clear HO_3; clear BK143; clear HB; have HO_3 := n0_; have BK143 := n1_; have HB := n2_; clear n0_ n1_ n2_; (try clear hb); (try clear hb2); (try clear hk); (try clear hi)) | (go_at_call 19; (with_reducible refine (spec_Big_Length.calls k1 _ _ t144 t153 _ ?side1 ?side2 A19.out).mono ?_); (case side1 => repeat (first | exact (Kd.V_reads' HO_3.out).2.2 | (with_reducible refine Kd.C_alloc ?_ _) | (with_reducible refine Kd.C_drewN ?_ _) | (with_reducible refine Kd.C_drew ?_))); (case side2 => exact (Kd.V_reads' HO_3.out).2.1); rintro e w' ⟨rfl, ⟨nd, rfl⟩⟩))
              go_ret
              exact ⟨by first | rfl | (simp [errW_none, errW_some] <;> rfl) | (simp [*, errW_none, errW_some] <;> rfl), by repeat (first | (with_reducible first | exact HB.out | apply below_alloc | apply pw_below_drewN | apply below_drew1 | refine below_set ?_ GE143.out) | exact HB.out)⟩
            · rw [if_neg c17] at H
              have c17b0 : (t151 == x4_1) = false := beq_eq_false_iff_ne.mpr c17
              have c17b1 : (t151 != x4_1) = true := bne_iff_ne.mpr c17
              obtain rfl := Option.some.inj H
              have hcz29_0 : wr.cell? ⟨gb143, 0, none⟩ = some (.int .u64 a0_0) := (blk_cell BK143.out 0).trans rfl
              have hcz29_1 : wr.cell? ⟨gb143, 1, none⟩ = some (.int .u64 a0_1) := (blk_cell BK143.out 1).trans rfl
              have hfz29_0 := blk_frozen BK143.out 0
              have hfz29_1 := blk_frozen BK143.out 1
              go_wp2_with (first | ((with_reducible refine gate_callee (f := 21) rfl ?_); refine goesL_ (some 20) rfl rfl Tryd.func21 (by kernel_rfl) rfl #[.agg #[.int .u64 a0_0, .int .u64 a0_1]] rfl (by (try simp only [List.map_toArray, List.map_cons, List.map_nil]); first | done | rfl | (simp only [List.length_drop, List.length_take]; rfl)) ?_; (with_reducible refine (impl_WideLeading.calls a0_0 a0_1 t148 _ A11.out).mono ?_); rintro e w30 ⟨rfl, hb⟩; refine ⟨_, rfl, ?_⟩; have n0_ := Aside0.mk (Kd.V_below (by (with_reducible repeat (first | apply Kd.V_alloc | apply Kd.V_drewN | apply Kd.V_drew)); exact HO_3.out) hb); have n1_ := Aside0.mk (blk_below (g := gb143) (o := .cells #[.int .u64 a0_0, .int .u64 a0_1] 24 (0, 0)) (by (with_reducible repeat (first | refine blk_drewN ?_ _ | refine blk_drew ?_ | refine blk_alloc ?_ _)); exact BK143.out) hb); have n2_ := Aside0.mk (below_step (by repeat (first | (with_reducible first | exact HB.out | apply below_alloc | apply pw_below_drewN | apply below_drew1 | refine below_set ?_ GE143.out) | exact HB.out)) hb); clear HO_3; clear BK143; clear HB; have HO_3 := n0_; have BK143 := n1_; have HB := n2_; clear n0_ n1_ n2_; (try clear hb); (try clear hb2); (try clear hk); (try clear hi); obtain ⟨Ao31, co31, eo31⟩ := Kd.V_slice HO_3.out; subst eo31) | ((with_reducible refine gate_callee (f := 19) rfl ?_); refine goesL_ (some 22) rfl rfl Tryd.func19 (by kernel_rfl) rfl #[.slice Ao31 t144.length co31] rfl (by (try simp only [List.map_toArray, List.map_cons, List.map_nil]); first | done | rfl | (simp only [List.length_drop, List.length_take]; rfl)) ?_; (with_reducible refine (spec_Big_Length.calls k1 _ _ t144 t149 _ ?side1 ?side2 A12.out).mono ?_); (case side1 => repeat (first | exact (Kd.V_reads' HO_3.out).2.2 | (with_reducible refine Kd.C_alloc ?_ _) | (with_reducible refine Kd.C_drewN ?_ _) | (with_reducible refine Kd.C_drew ?_))); (case side2 => exact (Kd.V_reads' HO_3.out).2.1); rintro e w' ⟨rfl, ⟨nd, rfl⟩⟩; refine ⟨_, rfl, ?_⟩; have hcz32_0 : w30.cell? ⟨gb143, 0, none⟩ = some (.int .u64 a0_0) := (blk_cell BK143.out 0).trans rfl; have hcz32_1 : w30.cell? ⟨gb143, 1, none⟩ = some (.int .u64 a0_1) := (blk_cell BK143.out 1).trans rfl; have hfz32_0 := blk_frozen BK143.out 0; have hfz32_1 := blk_frozen BK143.out 1) | (go_at_call 22; (with_reducible refine (impl_WideTrailing.calls a0_0 a0_1 t150 _ A14.out (GlobT.below GZ.out (by repeat (first | (with_reducible first | exact HB.out | apply below_alloc | apply pw_below_drewN | apply below_drew1 | refine below_set ?_ GE143.out) | exact HB.out)))).mono ?_); rintro e w33 ⟨rfl, hb⟩; have n0_ := Aside0.mk (Kd.V_below (by (with_reducible repeat (first | apply Kd.V_alloc | apply Kd.V_drewN | apply Kd.V_drew)); exact HO_3.out) hb); have n1_ := Aside0.mk (blk_below (g := gb143) (o := .cells #[.int .u64 a0_0, .int .u64 a0_1] 24 (0, 0)) (by (with_reducible repeat (first | refine blk_drewN ?_ _ | refine blk_drew ?_ | refine blk_alloc ?_ _)); exact BK143.out) hb); have n2_ := Aside0.mk (below_step (by repeat (first | (with_reducible first | exact HB.out | apply below_alloc | apply pw_below_drewN | apply below_drew1 | refine below_set ?_ GE143.out) | exact HB.out)) hb); clear HO_3; clear BK143; clear HB; have HO_3 := n0_; have BK143 := n1_; have HB := n2_; clear n0_ n1_ n2_; (try clear hb); (try clear hb2); (try clear hk); (try clear hi); have hcz34_0 : w33.cell? ⟨gb143, 0, none⟩ = some (.int .u64 a0_0) := (blk_cell BK143.out 0).trans rfl; have hcz34_1 : w33.cell? ⟨gb143, 1, none⟩ = some (.int .u64 a0_1) := (blk_cell BK143.out 1).trans rfl; have hfz34_0 := blk_frozen BK143.out 0; have hfz34_1 := blk_frozen BK143.out 1) | (go_at_call 23; (with_reducible refine (impl_WideOnes.calls a0_0 a0_1 t151 _ A16.out).mono ?_); rintro e w35 ⟨rfl, hb⟩; have n0_ := Aside0.mk (Kd.V_below (by (with_reducible repeat (first | apply Kd.V_alloc | apply Kd.V_drewN | apply Kd.V_drew)); exact HO_3.out) hb); have n1_ := Aside0.mk (blk_below (g := gb143) (o := .cells #[.int .u64 a0_0, .int .u64 a0_1] 24 (0, 0)) (by (with_reducible repeat (first | refine blk_drewN ?_ _ | refine blk_drew ?_ | refine blk_alloc ?_ _)); exact BK143.out) hb); have n2_ := Aside0.mk (below_step (by repeat (first | (with_reducible first | exact HB.out | apply below_alloc | apply pw_below_drewN | apply below_drew1 | refine below_set ?_ GE143.out) | exact HB.out)) hb); clear HO_3; clear BK143; clear HB; have HO_3 := n0_; have BK143 := n1_; have HB := n2_; clear n0_ n1_ n2_; (try clear hb); (try clear hb2); (try clear hk); (try clear hi)))
              go_ret
              exact ⟨by first | rfl | (simp [errW_none, errW_some] <;> rfl) | (simp [*, errW_none, errW_some] <;> rfl), by repeat (first | (with_reducible first | exact HB.out | apply below_alloc | apply pw_below_drewN | apply below_drew1 | refine below_set ?_ GE143.out) | exact HB.out)⟩
          · rw [if_neg c15] at H
            have c15b0 : (t150 == x5_1) = false := beq_eq_false_iff_ne.mpr c15
            have c15b1 : (t150 != x5_1) = true := bne_iff_ne.mpr c15
            obtain rfl := Option.some.inj H
            have hcz36_0 : wr.cell? ⟨gb143, 0, none⟩ = some (.int .u64 a0_0) := (blk_cell BK143.out 0).trans rfl
            have hcz36_1 : wr.cell? ⟨gb143, 1, none⟩ = some (.int .u64 a0_1) := (blk_cell BK143.out 1).trans rfl
            have hfz36_0 := blk_frozen BK143.out 0
            have hfz36_1 := blk_frozen BK143.out 1
            go_wp2_with (first | ((with_reducible refine gate_callee (f := 21) rfl ?_); refine goesL_ (some 20) rfl rfl Tryd.func21 (by kernel_rfl) rfl #[.agg #[.int .u64 a0_0, .int .u64 a0_1]] rfl (by (try simp only [List.map_toArray, List.map_cons, List.map_nil]); first | done | rfl | (simp only [List.length_drop, List.length_take]; rfl)) ?_; (with_reducible refine (impl_WideLeading.calls a0_0 a0_1 t148 _ A11.out).mono ?_); rintro e w37 ⟨rfl, hb⟩; refine ⟨_, rfl, ?_⟩; have n0_ := Aside0.mk (Kd.V_below (by (with_reducible repeat (first | apply Kd.V_alloc | apply Kd.V_drewN | apply Kd.V_drew)); exact HO_3.out) hb); have n1_ := Aside0.mk (blk_below (g := gb143) (o := .cells #[.int .u64 a0_0, .int .u64 a0_1] 24 (0, 0)) (by (with_reducible repeat (first | refine blk_drewN ?_ _ | refine blk_drew ?_ | refine blk_alloc ?_ _)); exact BK143.out) hb); have n2_ := Aside0.mk (below_step (by repeat (first | (with_reducible first | exact HB.out | apply below_alloc | apply pw_below_drewN | apply below_drew1 | refine below_set ?_ GE143.out) | exact HB.out)) hb); clear HO_3; clear BK143; clear HB; have HO_3 := n0_; have BK143 := n1_; have HB := n2_; clear n0_ n1_ n2_; (try clear hb); (try clear hb2); (try clear hk); (try clear hi); obtain ⟨Ao38, co38, eo38⟩ := Kd.V_slice HO_3.out; subst eo38) | ((with_reducible refine gate_callee (f := 19) rfl ?_); refine goesL_ (some 22) rfl rfl Tryd.func19 (by kernel_rfl) rfl #[.slice Ao38 t144.length co38] rfl (by (try simp only [List.map_toArray, List.map_cons, List.map_nil]); first | done | rfl | (simp only [List.length_drop, List.length_take]; rfl)) ?_; (with_reducible refine (spec_Big_Length.calls k1 _ _ t144 t149 _ ?side1 ?side2 A12.out).mono ?_); (case side1 => repeat (first | exact (Kd.V_reads' HO_3.out).2.2 | (with_reducible refine Kd.C_alloc ?_ _) | (with_reducible refine Kd.C_drewN ?_ _) | (with_reducible refine Kd.C_drew ?_))); (case side2 => exact (Kd.V_reads' HO_3.out).2.1); rintro e w' ⟨rfl, ⟨nd, rfl⟩⟩; refine ⟨_, rfl, ?_⟩; have hcz39_0 : w37.cell? ⟨gb143, 0, none⟩ = some (.int .u64 a0_0) := (blk_cell BK143.out 0).trans rfl; have hcz39_1 : w37.cell? ⟨gb143, 1, none⟩ = some (.int .u64 a0_1) := (blk_cell BK143.out 1).trans rfl; have hfz39_0 := blk_frozen BK143.out 0; have hfz39_1 := blk_frozen BK143.out 1) | (go_at_call 22; (with_reducible refine (impl_WideTrailing.calls a0_0 a0_1 t150 _ A14.out (GlobT.below GZ.out (by repeat (first | (with_reducible first | exact HB.out | apply below_alloc | apply pw_below_drewN | apply below_drew1 | refine below_set ?_ GE143.out) | exact HB.out)))).mono ?_); rintro e w40 ⟨rfl, hb⟩; have n0_ := Aside0.mk (Kd.V_below (by (with_reducible repeat (first | apply Kd.V_alloc | apply Kd.V_drewN | apply Kd.V_drew)); exact HO_3.out) hb); have n1_ := Aside0.mk (blk_below (g := gb143) (o := .cells #[.int .u64 a0_0, .int .u64 a0_1] 24 (0, 0)) (by (with_reducible repeat (first | refine blk_drewN ?_ _ | refine blk_drew ?_ | refine blk_alloc ?_ _)); exact BK143.out) hb); have n2_ := Aside0.mk (below_step (by repeat (first | (with_reducible first | exact HB.out | apply below_alloc | apply pw_below_drewN | apply below_drew1 | refine below_set ?_ GE143.out) | exact HB.out)) hb); clear HO_3; clear BK143; clear HB; have HO_3 := n0_; have BK143 := n1_; have HB := n2_; clear n0_ n1_ n2_; (try clear hb); (try clear hb2); (try clear hk); (try clear hi)))
            go_ret
            exact ⟨by first | rfl | (simp [errW_none, errW_some] <;> rfl) | (simp [*, errW_none, errW_some] <;> rfl), by repeat (first | (with_reducible first | exact HB.out | apply below_alloc | apply pw_below_drewN | apply below_drew1 | refine below_set ?_ GE143.out) | exact HB.out)⟩
        · rw [if_neg c13] at H
          have c13b0 : (t148 == (wrap64 (128 - t149))) = false := beq_eq_false_iff_ne.mpr c13
          have c13b1 : (t148 != (wrap64 (128 - t149))) = true := bne_iff_ne.mpr c13
          obtain rfl := Option.some.inj H
          have hcz41_0 : wr.cell? ⟨gb143, 0, none⟩ = some (.int .u64 a0_0) := (blk_cell BK143.out 0).trans rfl
          have hcz41_1 : wr.cell? ⟨gb143, 1, none⟩ = some (.int .u64 a0_1) := (blk_cell BK143.out 1).trans rfl
          have hfz41_0 := blk_frozen BK143.out 0
          have hfz41_1 := blk_frozen BK143.out 1
          go_wp2_with (first | ((with_reducible refine gate_callee (f := 21) rfl ?_); refine goesL_ (some 20) rfl rfl Tryd.func21 (by kernel_rfl) rfl #[.agg #[.int .u64 a0_0, .int .u64 a0_1]] rfl (by (try simp only [List.map_toArray, List.map_cons, List.map_nil]); first | done | rfl | (simp only [List.length_drop, List.length_take]; rfl)) ?_; (with_reducible refine (impl_WideLeading.calls a0_0 a0_1 t148 _ A11.out).mono ?_); rintro e w42 ⟨rfl, hb⟩; refine ⟨_, rfl, ?_⟩; have n0_ := Aside0.mk (Kd.V_below (by (with_reducible repeat (first | apply Kd.V_alloc | apply Kd.V_drewN | apply Kd.V_drew)); exact HO_3.out) hb); have n1_ := Aside0.mk (blk_below (g := gb143) (o := .cells #[.int .u64 a0_0, .int .u64 a0_1] 24 (0, 0)) (by (with_reducible repeat (first | refine blk_drewN ?_ _ | refine blk_drew ?_ | refine blk_alloc ?_ _)); exact BK143.out) hb); have n2_ := Aside0.mk (below_step (by repeat (first | (with_reducible first | exact HB.out | apply below_alloc | apply pw_below_drewN | apply below_drew1 | refine below_set ?_ GE143.out) | exact HB.out)) hb); clear HO_3; clear BK143; clear HB; have HO_3 := n0_; have BK143 := n1_; have HB := n2_; clear n0_ n1_ n2_; (try clear hb); (try clear hb2); (try clear hk); (try clear hi); obtain ⟨Ao43, co43, eo43⟩ := Kd.V_slice HO_3.out; subst eo43) | ((with_reducible refine gate_callee (f := 19) rfl ?_); refine goesL_ (some 22) rfl rfl Tryd.func19 (by kernel_rfl) rfl #[.slice Ao43 t144.length co43] rfl (by (try simp only [List.map_toArray, List.map_cons, List.map_nil]); first | done | rfl | (simp only [List.length_drop, List.length_take]; rfl)) ?_; (with_reducible refine (spec_Big_Length.calls k1 _ _ t144 t149 _ ?side1 ?side2 A12.out).mono ?_); (case side1 => repeat (first | exact (Kd.V_reads' HO_3.out).2.2 | (with_reducible refine Kd.C_alloc ?_ _) | (with_reducible refine Kd.C_drewN ?_ _) | (with_reducible refine Kd.C_drew ?_))); (case side2 => exact (Kd.V_reads' HO_3.out).2.1); rintro e w' ⟨rfl, ⟨nd, rfl⟩⟩; refine ⟨_, rfl, ?_⟩))
          go_ret
          exact ⟨by first | rfl | (simp [errW_none, errW_some] <;> rfl) | (simp [*, errW_none, errW_some] <;> rfl), by repeat (first | (with_reducible first | exact HB.out | apply below_alloc | apply pw_below_drewN | apply below_drew1 | refine below_set ?_ GE143.out) | exact HB.out)⟩


end Go.Proofs.YtiifnofghicnaaaDoor.TAll
