/- Printed by the kit's print.py, called for several laws at once: functions as plain Lean, and the walks' contracts. -/
import Derived.Test.YtiifnofghicnaaaBAllx0
import Derived.Test.YtiifnofghicnaaaBAllx1
import Derived.Test.YtiifnofghicnaaaBAllx2
namespace Go.Proofs.Ytiifnofghicnaaa.BAll
open Go.RowKit Go.Proofs.YtiifnofghicnaaaW.PrintWords Go.Proofs.YtiifnofghicnaaaW.PrintLast Go.Proofs.YtiifnofghicnaaaW.PrintMore
attribute [local go_sem] max2_int min2_int max_two min_two max_three min_three max_four min_four   -- for this text's walks alone
set_option linter.unusedVariables false
set_option linter.unusedSimpArgs false
attribute [local go_sem high] eqA24
/-! ### laws_FnWideBytes: function 23 -/
mutual
def laws_FnWideBytes.l0 : Nat → List Int → Bool → List Int → List Int → Int → Int → Int → Int → Option (Bool)
 | 0, _, _, _, _, _, _, _, _ => none
 | k + 1, x1, x2, x7, x8, x27, x28, x118000, x118001 => if x28 < x27 then (if x2 = true then (laws_FnWideBytes.j1 k x1 x2 x7 x8 x28 (wrap64 (15 - x28)) x27 x28 x118000 x118001) else (laws_FnWideBytes.j1 k x1 x2 x7 x8 x28 x28 x27 x28 x118000 x118001)) else ((some (([] : List Int) : List Int)).bind fun y127 => (if y127.length + x8.length < 140737488355328 then ((some (y127 ++ x8 : List Int)).bind fun y130 => (if y130.length + x1.length < 140737488355328 then ((impl_WideFromBytes.f (y130 ++ x1) x2).bind fun bt136 => (if bt136.2.2 = true then (laws_FnWideBytes.j3 k x1 x2 x8 (!(bt136.1 == x118000) || (!(bt136.2.1 == x118001))) x118000 x118001) else (laws_FnWideBytes.j3 k x1 x2 x8 true x118000 x118001))) else (none))) else (none)))
def laws_FnWideBytes.j1 : Nat → List Int → Bool → List Int → List Int → Int → Int → Int → Int → Int → Int → Option (Bool)
 | 0, _, _, _, _, _, _, _, _, _, _ => none
 | k + 1, x1, x2, x7, x8, x9, x10, x27, x28, x118000, x118001 => laws_FnWideBytes.l1 k x1 x2 x7 x8 x9 x10 x27 x28 0 x118000 x118001
def laws_FnWideBytes.l1 : Nat → List Int → Bool → List Int → List Int → Int → Int → Int → Int → Int → Int → Int → Option (Bool)
 | 0, _, _, _, _, _, _, _, _, _, _, _ => none
 | k + 1, x1, x2, x7, x8, x9, x10, x27, x28, x35, x118000, x118001 => if x35 < 8 then ((spec_Big_Bit.f x7 (wrap64 ((wrap64 (8 * x10)) + x35))).bind fun t124 => (if t124 = true then (if 0 ≤ x9 then (if x9 < (x8.length : Int) then (if 0 ≤ x35 then (laws_FnWideBytes.l1 k x1 x2 x7 (x8.set (x9 : Int).toNat (Go.bits .or .u8 (rd x8 x9) (shl .u8 1 x35))) x9 x10 x27 x28 (wrap64 (x35 + 1)) x118000 x118001) else (none)) else (none)) else (none)) else (laws_FnWideBytes.l1 k x1 x2 x7 x8 x9 x10 x27 x28 (wrap64 (x35 + 1)) x118000 x118001))) else (laws_FnWideBytes.l0 k x1 x2 x7 x8 x27 (wrap64 (x28 + 1)) x118000 x118001)
def laws_FnWideBytes.j3 : Nat → List Int → Bool → List Int → Bool → Int → Int → Option (Bool)
 | 0, _, _, _, _, _, _ => none
 | k + 1, x1, x2, x8, x70, x118000, x118001 => if x70 = true then (some false) else ((impl_WidePut.f x118000 x118001 x1 x2).bind fun bt140 => (if (x1.length : Int) < 16 then (some (!bt140.2)) else (if bt140.2 = true then (laws_FnWideBytes.j4 k x1 x8 bt140.1 ((bt140.1.length : Int) != (x1.length : Int))) else (laws_FnWideBytes.j4 k x1 x8 bt140.1 true))))
def laws_FnWideBytes.j4 : Nat → List Int → List Int → List Int → Bool → Option (Bool)
 | 0, _, _, _, _ => none
 | k + 1, x1, x8, x14, x91 => if x91 = true then (some false) else (laws_FnWideBytes.l2 k x1 x8 x14 (x14.length : Int) 0)
def laws_FnWideBytes.l2 : Nat → List Int → List Int → List Int → Int → Int → Option (Bool)
 | 0, _, _, _, _, _ => none
 | k + 1, x1, x8, x14, x93, x94 => if x94 < x93 then (if x94 < 16 then (if 0 ≤ x94 then (if x94 < (x14.length : Int) then (if x94 < (x8.length : Int) then (if (rd x14 x94) = (rd x8 x94) then (if x94 ≥ 16 then (if x94 < (x1.length : Int) then (if (rd x14 x94) = (rd x1 x94) then (laws_FnWideBytes.l2 k x1 x8 x14 x93 (wrap64 (x94 + 1))) else (some false)) else (none)) else (laws_FnWideBytes.l2 k x1 x8 x14 x93 (wrap64 (x94 + 1)))) else (some false)) else (none)) else (none)) else (none)) else (if x94 ≥ 16 then (if 0 ≤ x94 then (if x94 < (x14.length : Int) then (if x94 < (x1.length : Int) then (if (rd x14 x94) = (rd x1 x94) then (laws_FnWideBytes.l2 k x1 x8 x14 x93 (wrap64 (x94 + 1))) else (some false)) else (none)) else (none)) else (none)) else (laws_FnWideBytes.l2 k x1 x8 x14 x93 (wrap64 (x94 + 1))))) else (some true)
end
def laws_FnWideBytes.f (k : Nat) (a0_0 : Int) (a0_1 : Int) (l1 : List Int) (a2 : Bool) : Option (Bool) := if (l1.length : Int) > 2147483647 then (some true) else (if (l1.length : Int) > 1000 then (some true) else ((laws_wideWhole.f a0_0 a0_1).bind fun t118 => (if 16 ≤ 281474976710656 then ((some (List.replicate 16 0 : List Int)).bind fun y121 => (laws_FnWideBytes.l0 k l1 a2 t118 y121 (y121.length : Int) 0 a0_0 a0_1)) else (none))))
theorem laws_FnWideBytes.mono_l : ∀ k, (∀ y0 y1 y2 y3 y4 y5 y6 y7, LeO (laws_FnWideBytes.l0 k y0 y1 y2 y3 y4 y5 y6 y7) (laws_FnWideBytes.l0 (k + 1) y0 y1 y2 y3 y4 y5 y6 y7)) ∧ (∀ y0 y1 y2 y3 y4 y5 y6 y7 y8 y9, LeO (laws_FnWideBytes.j1 k y0 y1 y2 y3 y4 y5 y6 y7 y8 y9) (laws_FnWideBytes.j1 (k + 1) y0 y1 y2 y3 y4 y5 y6 y7 y8 y9)) ∧ (∀ y0 y1 y2 y3 y4 y5 y6 y7 y8 y9 y10, LeO (laws_FnWideBytes.l1 k y0 y1 y2 y3 y4 y5 y6 y7 y8 y9 y10) (laws_FnWideBytes.l1 (k + 1) y0 y1 y2 y3 y4 y5 y6 y7 y8 y9 y10)) ∧ (∀ y0 y1 y2 y3 y4 y5, LeO (laws_FnWideBytes.j3 k y0 y1 y2 y3 y4 y5) (laws_FnWideBytes.j3 (k + 1) y0 y1 y2 y3 y4 y5)) ∧ (∀ y0 y1 y2 y3, LeO (laws_FnWideBytes.j4 k y0 y1 y2 y3) (laws_FnWideBytes.j4 (k + 1) y0 y1 y2 y3)) ∧ (∀ y0 y1 y2 y3 y4, LeO (laws_FnWideBytes.l2 k y0 y1 y2 y3 y4) (laws_FnWideBytes.l2 (k + 1) y0 y1 y2 y3 y4))
 | 0 => ⟨fun _ _ _ _ _ _ _ _ r h => by simp [laws_FnWideBytes.l0] at h, fun _ _ _ _ _ _ _ _ _ _ r h => by simp [laws_FnWideBytes.j1] at h, fun _ _ _ _ _ _ _ _ _ _ _ r h => by simp [laws_FnWideBytes.l1] at h, fun _ _ _ _ _ _ r h => by simp [laws_FnWideBytes.j3] at h, fun _ _ _ _ r h => by simp [laws_FnWideBytes.j4] at h, fun _ _ _ _ _ r h => by simp [laws_FnWideBytes.l2] at h⟩
 | k + 1 => by
  obtain ⟨ih0, ih1, ih2, ih3, ih4, ih5⟩ := laws_FnWideBytes.mono_l k
  refine ⟨?_, ?_, ?_, ?_, ?_, ?_⟩
  ·
   intro y0 y1 y2 y3 y4 y5 y6 y7
   unfold laws_FnWideBytes.l0
   repeat' first
   | (with_reducible exact ih0 _ _ _ _ _ _ _ _)
   | (with_reducible exact ih1 _ _ _ _ _ _ _ _ _ _)
   | (with_reducible exact ih2 _ _ _ _ _ _ _ _ _ _ _)
   | (with_reducible exact ih3 _ _ _ _ _ _)
   | (with_reducible exact ih4 _ _ _ _)
   | (with_reducible exact ih5 _ _ _ _ _)
   | (with_reducible exact LeO.refl _)
   | (with_reducible exact LeO.none _)
   | (with_reducible refine LeO.ite ?_ ?_)
   | (with_reducible refine LeO.bind ?_ (fun _ => ?_))
   | exact ih0 _ _ _ _ _ _ _ _
   | exact ih1 _ _ _ _ _ _ _ _ _ _
   | exact ih2 _ _ _ _ _ _ _ _ _ _ _
   | exact ih3 _ _ _ _ _ _
   | exact ih4 _ _ _ _
   | exact ih5 _ _ _ _ _
   | exact LeO.none _
   | refine LeO.ite ?_ ?_
   | refine LeO.bind ?_ (fun _ => ?_)
  ·
   intro y0 y1 y2 y3 y4 y5 y6 y7 y8 y9
   unfold laws_FnWideBytes.j1
   repeat' first
   | (with_reducible exact ih0 _ _ _ _ _ _ _ _)
   | (with_reducible exact ih1 _ _ _ _ _ _ _ _ _ _)
   | (with_reducible exact ih2 _ _ _ _ _ _ _ _ _ _ _)
   | (with_reducible exact ih3 _ _ _ _ _ _)
   | (with_reducible exact ih4 _ _ _ _)
   | (with_reducible exact ih5 _ _ _ _ _)
   | (with_reducible exact LeO.refl _)
   | (with_reducible exact LeO.none _)
   | (with_reducible refine LeO.ite ?_ ?_)
   | (with_reducible refine LeO.bind ?_ (fun _ => ?_))
   | exact ih0 _ _ _ _ _ _ _ _
   | exact ih1 _ _ _ _ _ _ _ _ _ _
   | exact ih2 _ _ _ _ _ _ _ _ _ _ _
   | exact ih3 _ _ _ _ _ _
   | exact ih4 _ _ _ _
   | exact ih5 _ _ _ _ _
   | exact LeO.none _
   | refine LeO.ite ?_ ?_
   | refine LeO.bind ?_ (fun _ => ?_)
  ·
   intro y0 y1 y2 y3 y4 y5 y6 y7 y8 y9 y10
   unfold laws_FnWideBytes.l1
   repeat' first
   | (with_reducible exact ih0 _ _ _ _ _ _ _ _)
   | (with_reducible exact ih1 _ _ _ _ _ _ _ _ _ _)
   | (with_reducible exact ih2 _ _ _ _ _ _ _ _ _ _ _)
   | (with_reducible exact ih3 _ _ _ _ _ _)
   | (with_reducible exact ih4 _ _ _ _)
   | (with_reducible exact ih5 _ _ _ _ _)
   | (with_reducible exact LeO.refl _)
   | (with_reducible exact LeO.none _)
   | (with_reducible refine LeO.ite ?_ ?_)
   | (with_reducible refine LeO.bind ?_ (fun _ => ?_))
   | exact ih0 _ _ _ _ _ _ _ _
   | exact ih1 _ _ _ _ _ _ _ _ _ _
   | exact ih2 _ _ _ _ _ _ _ _ _ _ _
   | exact ih3 _ _ _ _ _ _
   | exact ih4 _ _ _ _
   | exact ih5 _ _ _ _ _
   | exact LeO.none _
   | refine LeO.ite ?_ ?_
   | refine LeO.bind ?_ (fun _ => ?_)
  ·
   intro y0 y1 y2 y3 y4 y5
   unfold laws_FnWideBytes.j3
   repeat' first
   | (with_reducible exact ih0 _ _ _ _ _ _ _ _)
   | (with_reducible exact ih1 _ _ _ _ _ _ _ _ _ _)
   | (with_reducible exact ih2 _ _ _ _ _ _ _ _ _ _ _)
   | (with_reducible exact ih3 _ _ _ _ _ _)
   | (with_reducible exact ih4 _ _ _ _)
   | (with_reducible exact ih5 _ _ _ _ _)
   | (with_reducible exact LeO.refl _)
   | (with_reducible exact LeO.none _)
   | (with_reducible refine LeO.ite ?_ ?_)
   | (with_reducible refine LeO.bind ?_ (fun _ => ?_))
   | exact ih0 _ _ _ _ _ _ _ _
   | exact ih1 _ _ _ _ _ _ _ _ _ _
   | exact ih2 _ _ _ _ _ _ _ _ _ _ _
   | exact ih3 _ _ _ _ _ _
   | exact ih4 _ _ _ _
   | exact ih5 _ _ _ _ _
   | exact LeO.none _
   | refine LeO.ite ?_ ?_
   | refine LeO.bind ?_ (fun _ => ?_)
  ·
   intro y0 y1 y2 y3
   unfold laws_FnWideBytes.j4
   repeat' first
   | (with_reducible exact ih0 _ _ _ _ _ _ _ _)
   | (with_reducible exact ih1 _ _ _ _ _ _ _ _ _ _)
   | (with_reducible exact ih2 _ _ _ _ _ _ _ _ _ _ _)
   | (with_reducible exact ih3 _ _ _ _ _ _)
   | (with_reducible exact ih4 _ _ _ _)
   | (with_reducible exact ih5 _ _ _ _ _)
   | (with_reducible exact LeO.refl _)
   | (with_reducible exact LeO.none _)
   | (with_reducible refine LeO.ite ?_ ?_)
   | (with_reducible refine LeO.bind ?_ (fun _ => ?_))
   | exact ih0 _ _ _ _ _ _ _ _
   | exact ih1 _ _ _ _ _ _ _ _ _ _
   | exact ih2 _ _ _ _ _ _ _ _ _ _ _
   | exact ih3 _ _ _ _ _ _
   | exact ih4 _ _ _ _
   | exact ih5 _ _ _ _ _
   | exact LeO.none _
   | refine LeO.ite ?_ ?_
   | refine LeO.bind ?_ (fun _ => ?_)
  ·
   intro y0 y1 y2 y3 y4
   unfold laws_FnWideBytes.l2
   repeat' first
   | (with_reducible exact ih0 _ _ _ _ _ _ _ _)
   | (with_reducible exact ih1 _ _ _ _ _ _ _ _ _ _)
   | (with_reducible exact ih2 _ _ _ _ _ _ _ _ _ _ _)
   | (with_reducible exact ih3 _ _ _ _ _ _)
   | (with_reducible exact ih4 _ _ _ _)
   | (with_reducible exact ih5 _ _ _ _ _)
   | (with_reducible exact LeO.refl _)
   | (with_reducible exact LeO.none _)
   | (with_reducible refine LeO.ite ?_ ?_)
   | (with_reducible refine LeO.bind ?_ (fun _ => ?_))
   | exact ih0 _ _ _ _ _ _ _ _
   | exact ih1 _ _ _ _ _ _ _ _ _ _
   | exact ih2 _ _ _ _ _ _ _ _ _ _ _
   | exact ih3 _ _ _ _ _ _
   | exact ih4 _ _ _ _
   | exact ih5 _ _ _ _ _
   | exact LeO.none _
   | refine LeO.ite ?_ ?_
   | refine LeO.bind ?_ (fun _ => ?_)
theorem laws_FnWideBytes.mono : ∀ a0 a1 a2 a3 k, LeO (laws_FnWideBytes.f k a0 a1 a2 a3) (laws_FnWideBytes.f (k + 1) a0 a1 a2 a3) := by
 intro a0 a1 a2 a3 k
 obtain ⟨ih0, ih1, ih2, ih3, ih4, ih5⟩ := laws_FnWideBytes.mono_l k
 unfold laws_FnWideBytes.f
 repeat' first
   | (with_reducible exact ih0 _ _ _ _ _ _ _ _)
   | (with_reducible exact ih1 _ _ _ _ _ _ _ _ _ _)
   | (with_reducible exact ih2 _ _ _ _ _ _ _ _ _ _ _)
   | (with_reducible exact ih3 _ _ _ _ _ _)
   | (with_reducible exact ih4 _ _ _ _)
   | (with_reducible exact ih5 _ _ _ _ _)
   | (with_reducible exact LeO.refl _)
   | (with_reducible exact LeO.none _)
   | (with_reducible refine LeO.ite ?_ ?_)
   | (with_reducible refine LeO.bind ?_ (fun _ => ?_))
   | exact ih0 _ _ _ _ _ _ _ _
   | exact ih1 _ _ _ _ _ _ _ _ _ _
   | exact ih2 _ _ _ _ _ _ _ _ _ _ _
   | exact ih3 _ _ _ _ _ _
   | exact ih4 _ _ _ _
   | exact ih5 _ _ _ _ _
   | exact LeO.none _
   | refine LeO.ite ?_ ?_
   | refine LeO.bind ?_ (fun _ => ?_)
def laws_FnWideBytes.T17 : Bool × List (List Nat × List Nat) := (true, [([], []), ([], []), ([0, 1], [0, 1]), ([2], [2]), ([], []), ([4], [4]), ([3, 5], [3, 5]), ([0, 1, 0, 1, 2, 3, 4, 5, 6], [0, 1]), ([7, 6, 0, 1, 2, 3, 4, 5, 6], [6, 7])])
def laws_FnWideBytes.B17 : List Nat := [0, 0, 3, 7, 0, 16, 63, 127, 255]
theorem laws_FnWideBytes.tab17 : rtab .any (opsOf Try.f23 17) = laws_FnWideBytes.T17 := by kernel_rfl
theorem laws_FnWideBytes.bits17 : waitsOk laws_FnWideBytes.T17.2 laws_FnWideBytes.B17 = true := by kernel_rfl
def laws_FnWideBytes.T31 : Bool × List (List Nat × List Nat) := (true, [([], []), ([0], [0]), ([1], [1]), ([2], [2]), ([2], [2]), ([3, 4, 2], [2, 3, 4]), ([5, 2], [2, 5]), ([2], [2]), ([2], [2]), ([7, 8, 2], [2, 7, 8]), ([9, 2], [2, 9]), ([6, 10, 2], [2, 6, 10]), ([2, 11], [2, 11]), ([12, 2], [12]), ([13], [13]), ([14, 13], [13, 14]), ([15, 13, 13], [13, 15]), ([16], [16]), ([16], [16]), ([17, 18, 16], [16, 17, 18]), ([19, 16], [16, 19]), ([16], [16]), ([16], [16]), ([21, 22, 16], [16, 21, 22]), ([23, 16], [16, 23]), ([20, 24, 16], [16, 20, 24]), ([16, 25, 13], [13, 16, 25]), ([13, 26], [13, 26])])
def laws_FnWideBytes.B31 : List Nat := [0, 1, 3, 7, 7, 31, 63, 7, 7, 391, 903, 2047, 4095, 8191, 16383, 32767, 65535, 131071, 131071, 524287, 1048575, 131071, 131071, 6422527, 14811135, 33554431, 67108863, 134217727]
theorem laws_FnWideBytes.tab31 : rtab .any (opsOf Try.f23 31) = laws_FnWideBytes.T31 := by kernel_rfl
theorem laws_FnWideBytes.bits31 : waitsOk laws_FnWideBytes.T31.2 laws_FnWideBytes.B31 = true := by kernel_rfl
set_option maxHeartbeats 8000000 in
set_option maxRecDepth 100000 in
theorem laws_FnWideBytes.calls (k : Nat) (a0_0 : Int) (a0_1 : Int) (A1 : Option Addr) (c1 : Nat) (l1 : List Int) (a2 : Bool) (r : Bool) (w : World) (hr1 : Kd.C (Kd.int .u8) w A1 l1.length l1) (hc1 : l1.length ≤ c1) (h : laws_FnWideBytes.f k a0_0 a0_1 l1 a2 = some r) :
  Calls Try.prog 23 #[.agg #[.int .u64 a0_0, .int .u64 a0_1], .slice A1 l1.length c1, .bool a2] w fun e w' => e = .returned (.bool r) ∧ Below w.heap.size w w' := by
 have hu24 := Try.underlying24
 have HR1 := Aside0.mk hr1
 have HC1 := Aside0.mk hc1
 clear hr1 hc1
 have HB := Aside0.mk (Below.refl w.heap.size w)
 have H : (if (l1.length : Int) > 2147483647 then (some true) else (if (l1.length : Int) > 1000 then (some true) else ((laws_wideWhole.f a0_0 a0_1).bind fun t118 => (if 16 ≤ 281474976710656 then ((some (List.replicate 16 0 : List Int)).bind fun y121 => (laws_FnWideBytes.l0 k l1 a2 t118 y121 (y121.length : Int) 0 a0_0 a0_1)) else (none))))) = some r := h
 clear h
 by_cases c4 : (l1.length : Int) > 2147483647
 ·
  rw [if_pos c4] at H
  have c4b0 : decide (2147483647 < (l1.length : Int)) = true := decide_eq_true c4
  have c4b1 : decide (2147483647 < l1.length) = true := decide_eq_true (by omega)
  clear c4
  obtain rfl := Option.some.inj H
  go_enter Try.func23, Try.ntmps23
  go_wp2_with (first | ((with_reducible refine gate_dst (N := 3) rfl ?_); (try (refine gate_guard (by rfl) ?_; dsimp only)); refine box_event ?hg (N := 3) ?hd (cs := #[.int .u64 a0_0, .int .u64 a0_1]) (t := 24) ?hr ?_; (case hd => rfl); (case hg => rfl); (case hr => first | (go_simp; done) | (go_simp; rfl)); intro gb117 hg w5 hbox hb; have n0_ := Aside0.mk (below_step (by repeat (first | (with_reducible first | exact HB.out | apply below_alloc | apply pw_below_drewN | apply below_drew1) | exact HB.out)) hb); have n1_ := Aside0.mk (hbox); have n2_ := Aside0.mk ((by rw [hg]; exact (below_size (by repeat (first | (with_reducible first | exact HB.out | apply below_alloc | apply pw_below_drewN | apply below_drew1) | exact HB.out))) : w.heap.size ≤ gb117)); have n3_ := Aside0.mk ((by rw [hg]; exact (below_size (by repeat (first | (with_reducible first | exact HB.out | apply below_alloc | apply pw_below_drewN | apply below_drew1) | exact HB.out))) : w.heap.size ≤ gb117)); clear HB; have HB := n0_; have BK117 := n1_; have GW117 := n2_; have GE117 := n3_; clear n0_ n1_ n2_ n3_; clear hb hbox hg))
  go_ret
  exact ⟨by first | rfl | (simp [errW_none, errW_some] <;> rfl) | (simp [*, errW_none, errW_some] <;> rfl), by repeat (first | (with_reducible first | exact HB.out | apply below_alloc | apply pw_below_drewN | apply below_drew1 | refine below_set ?_ GE117.out) | exact HB.out)⟩
 ·
  rw [if_neg c4] at H
  have c4b0 : decide (2147483647 < (l1.length : Int)) = false := decide_eq_false c4
  have c4b1 : decide (2147483647 < l1.length) = false := decide_eq_false (by omega)
  clear c4
  by_cases c6 : (l1.length : Int) > 1000
  ·
   rw [if_pos c6] at H
   have c6b0 : decide (1000 < (l1.length : Int)) = true := decide_eq_true c6
   have c6b1 : decide (1000 < l1.length) = true := decide_eq_true (by omega)
   clear c6
   obtain rfl := Option.some.inj H
   go_enter Try.func23, Try.ntmps23
   go_wp2_with (first | ((with_reducible refine gate_dst (N := 3) rfl ?_); (try (refine gate_guard (by rfl) ?_; dsimp only)); refine box_event ?hg (N := 3) ?hd (cs := #[.int .u64 a0_0, .int .u64 a0_1]) (t := 24) ?hr ?_; (case hd => rfl); (case hg => rfl); (case hr => first | (go_simp; done) | (go_simp; rfl)); intro gb117 hg w7 hbox hb; have n0_ := Aside0.mk (below_step (by repeat (first | (with_reducible first | exact HB.out | apply below_alloc | apply pw_below_drewN | apply below_drew1) | exact HB.out)) hb); have n1_ := Aside0.mk (hbox); have n2_ := Aside0.mk ((by rw [hg]; exact (below_size (by repeat (first | (with_reducible first | exact HB.out | apply below_alloc | apply pw_below_drewN | apply below_drew1) | exact HB.out))) : w.heap.size ≤ gb117)); have n3_ := Aside0.mk ((by rw [hg]; exact (below_size (by repeat (first | (with_reducible first | exact HB.out | apply below_alloc | apply pw_below_drewN | apply below_drew1) | exact HB.out))) : w.heap.size ≤ gb117)); clear HB; have HB := n0_; have BK117 := n1_; have GW117 := n2_; have GE117 := n3_; clear n0_ n1_ n2_ n3_; clear hb hbox hg))
   go_ret
   exact ⟨by first | rfl | (simp [errW_none, errW_some] <;> rfl) | (simp [*, errW_none, errW_some] <;> rfl), by repeat (first | (with_reducible first | exact HB.out | apply below_alloc | apply pw_below_drewN | apply below_drew1 | refine below_set ?_ GE117.out) | exact HB.out)⟩
  ·
   rw [if_neg c6] at H
   have c6b0 : decide (1000 < (l1.length : Int)) = false := decide_eq_false c6
   have c6b1 : decide (1000 < l1.length) = false := decide_eq_false (by omega)
   clear c6
   replace H := Option.bind_eq_some_iff.mp H
   obtain ⟨t118, A80, H⟩ := H
   replace H : (if 16 ≤ 281474976710656 then ((some (List.replicate 16 0 : List Int)).bind fun y121 => (laws_FnWideBytes.l0 k l1 a2 t118 y121 (y121.length : Int) 0 a0_0 a0_1)) else (none)) = some r := H
   have A8 := Aside0.mk A80
   clear A80
   by_cases c9 : 16 ≤ 281474976710656
   ·
    rw [if_pos c9] at H
    have c9b0 := eq_true c9
    have c9b1 : decide (16 ≤ 281474976710656) = true := decide_eq_true c9
    clear c9
    obtain ⟨y121, hy121⟩ : ∃ y_ : List Int, y_ = (List.replicate 16 0) := ⟨_, rfl⟩
    replace H : (laws_FnWideBytes.l0 k l1 a2 t118 y121 (y121.length : Int) 0 a0_0 a0_1) = some r := by first | (rw [hy121]; with_reducible exact H) | (have H2_ := (Option.bind_some _ _).symm.trans H; rw [hy121]; with_reducible exact H2_) | (have H2_ := (Option.bind_some _ _).symm.trans H; with_reducible exact H2_) | with_reducible exact H | (rw [hy121]; exact H) | exact H
    have Ny121 := Aside0.mk hy121
    clear hy121
    have H' := Aside0.mk H
    clear H
    go_enter Try.func23, Try.ntmps23
    go_wp2_with (first | ((with_reducible refine gate_dst (N := 3) rfl ?_); (try (refine gate_guard (by rfl) ?_; dsimp only)); refine box_event ?hg (N := 3) ?hd (cs := #[.int .u64 a0_0, .int .u64 a0_1]) (t := 24) ?hr ?_; (case hd => rfl); (case hg => rfl); (case hr => first | (go_simp; done) | (go_simp; rfl)); intro gb117 hg w10 hbox hb; have n0_ := Aside0.mk (below_step (by repeat (first | (with_reducible first | exact HB.out | apply below_alloc | apply pw_below_drewN | apply below_drew1) | exact HB.out)) hb); have n1_ := Aside0.mk (hbox); have n2_ := Aside0.mk ((by rw [hg]; exact (below_size (by repeat (first | (with_reducible first | exact HB.out | apply below_alloc | apply pw_below_drewN | apply below_drew1) | exact HB.out))) : w.heap.size ≤ gb117)); have n3_ := Aside0.mk ((by rw [hg]; exact (below_size (by repeat (first | (with_reducible first | exact HB.out | apply below_alloc | apply pw_below_drewN | apply below_drew1) | exact HB.out))) : w.heap.size ≤ gb117)); clear HB; have HB := n0_; have BK117 := n1_; have GW117 := n2_; have GE117 := n3_; clear n0_ n1_ n2_ n3_; clear hb hbox hg; have hcz11_0 : w10.cell? ⟨gb117, 0, none⟩ = some (.int .u64 a0_0) := (blk_cell BK117.out 0).trans rfl; have hcz11_1 : w10.cell? ⟨gb117, 1, none⟩ = some (.int .u64 a0_1) := (blk_cell BK117.out 1).trans rfl; have hfz11_0 := blk_frozen BK117.out 0; have hfz11_1 := blk_frozen BK117.out 1) | ((with_reducible refine gate_callee (f := 25) rfl ?_); refine goesL_ (some 24) rfl rfl Try.func25 (by kernel_rfl) rfl #[.agg #[.int .u64 a0_0, .int .u64 a0_1]] rfl (by (try simp only [List.map_toArray, List.map_cons, List.map_nil]); first | done | rfl | (simp only [List.length_drop, List.length_take]; rfl)) ?_; (with_reducible refine (laws_wideWhole.calls a0_0 a0_1 t118 _ A8.out).mono ?_); rintro e w12 ⟨v119, rfl, ho0, hb⟩; refine ⟨_, rfl, ?_⟩; have n0_ := Aside0.mk (Kd.V_lower (Kd.V_mono (ok' := fun k_ => k_ ≠ gb117) ho0 (fun k_ hk_ => (Kd.freshB (g := gb117) (o := .cells #[.int .u64 a0_0, .int .u64 a0_1] 24 (0, 0)) (by exact BK117.out) k_ hk_))) (below_size (by repeat (first | (with_reducible first | exact HB.out | apply below_alloc | apply pw_below_drewN | apply below_drew1 | refine below_set ?_ GE117.out) | exact HB.out)))); have n1_ := Aside0.mk (blk_below (g := gb117) (o := .cells #[.int .u64 a0_0, .int .u64 a0_1] 24 (0, 0)) (by exact BK117.out) hb); have n2_ := Aside0.mk (below_step (by repeat (first | (with_reducible first | exact HB.out | apply below_alloc | apply pw_below_drewN | apply below_drew1 | refine below_set ?_ GE117.out) | exact HB.out)) hb); clear BK117; clear HB; have HO120 := n0_; have BK117 := n1_; have HB := n2_; clear n0_ n1_ n2_; (try clear hb); (try clear hb2); (try clear hk); (try clear hi); (try clear ho0)) | ((with_reducible refine gate_dst (N := 25) rfl ?_); (try (refine gate_guard (by rfl) ?_; dsimp only)); refine Kd.R_make (Kd.int .u8) _ 5 rfl (N := 25) rfl 54 _ _ rfl 16 rfl rfl Try.underlying54 (.int .u8 0) 1 info5 rfl (by decide) (by omega) 0 (ok := fun _ => True) (okp := fun _ => True) rfl (fun _ hk => hk) trivial (by omega) (by omega) (Below.refl _ _) (Nat.le_refl _) ?_; intro v122 w13 ho14 hb hg_ hnew_; clear hg_ hnew_; (first | rw [← Ny121.out] at ho14 | (simp only [Int.reduceToNat] at ho14; rw [← Ny121.out] at ho14)); have n0_ := Aside0.mk (Kd.V_elder' (by (with_reducible repeat (first | apply Kd.V_alloc | apply Kd.V_drewN | apply Kd.V_drew)); exact HO120.out) (Kd.R_base ho14) hb); have n1_ := Aside0.mk (Kd.R_lower ho14 (below_size (by repeat (first | (with_reducible first | exact HB.out | apply below_alloc | apply pw_below_drewN | apply below_drew1 | refine below_set ?_ GE117.out) | exact HB.out)))); have n2_ := Aside0.mk (blk_below (g := gb117) (o := .cells #[.int .u64 a0_0, .int .u64 a0_1] 24 (0, 0)) (by exact BK117.out) hb); have n3_ := Aside0.mk (below_step (by repeat (first | (with_reducible first | exact HB.out | apply below_alloc | apply pw_below_drewN | apply below_drew1 | refine below_set ?_ GE117.out) | exact HB.out)) hb); clear HO120; clear BK117; clear HB; have HO120 := n0_; have HO123 := n1_; have BK117 := n2_; have HB := n3_; clear n0_ n1_ n2_ n3_; clear hb ho14; obtain ⟨Ao15, co15, eo15⟩ := Kd.R_slice HO123.out; subst eo15))
    go_loopg [28] k (fun kq v28 w' => ∃ (x8_1 : List Int) (x28_1 : Int), v28 = .int .i64 x28_1 ∧ Aside0 (laws_FnWideBytes.l0 kq l1 a2 t118 x8_1 (y121.length : Int) x28_1 a0_0 a0_1 = some r) ∧ Aside0 (kq ≤ k) ∧ Aside0 (Kd.V (Kd.int .i64) 3 w' w.heap.size (fun k_ => some k_ ≠ ((.slice Ao15 y121.length co15) : Value).ownBlock ∧ k_ ≠ gb117) v119 t118) ∧ Aside0 (Kd.R (Kd.int .u8) 5 w' w.heap.size (fun _ => True) (.slice Ao15 y121.length co15) x8_1) ∧ Aside0 (w'.heap[gb117]? = some (.cells #[.int .u64 a0_0, .int .u64 a0_1] 24 (0, 0))) ∧ Aside0 (Below w.heap.size w w'))
    case atStart => exact ⟨(y121), (0), (by first | rfl | (simp; done) | (simp [*]; done)), H', ⟨Nat.le_refl _⟩, ⟨by (with_reducible repeat (first | apply Kd.V_alloc | apply Kd.V_drewN | apply Kd.V_drew)); exact Kd.V_mono HO120.out (fun _ hk => ⟨hk.2, hk.1⟩)⟩, ⟨by (with_reducible repeat (first | apply Kd.R_alloc | apply Kd.R_drewN | apply Kd.R_drew)); exact HO123.out⟩, ⟨by (with_reducible repeat (first | refine blk_drewN ?_ _ | refine blk_drew ?_ | refine blk_alloc ?_ _)); exact BK117.out⟩, ⟨by repeat (first | (with_reducible first | exact HB.out | apply below_alloc | apply pw_below_drewN | apply below_drew1 | refine below_set ?_ GE117.out) | exact HB.out)⟩⟩
    case round =>
     clear H'
     try clear c1
     try clear c2
     try clear p2
     try clear c4
     try clear c4b0
     try clear c4b1
     try clear c6
     try clear c6b0
     try clear c6b1
     try clear c9
     try clear c9b0
     try clear c9b1
     try clear hcz11_0
     try clear hcz11_1
     try clear hfz11_0
     try clear hfz11_1
     obtain ⟨x8_1, x28_1, rfl, HA, HK1, HO_7, HO_8, BK117, HB⟩ := hrel
     have hl8_1 := (Kd.R_reads' HO_8.out).1
     rw [hl8_1] at HO_8
     (try simp only [hl8_1])
     (try simp only [hl8_1] at BK117)
     (try simp only [hl8_1] at HO_7)
     cases gk with
     | zero => exact absurd HA.out (by simp [laws_FnWideBytes.l0])
     | succ k1 =>
      have H := HA.out
      clear HA
      simp only [laws_FnWideBytes.l0] at H
      by_cases c16 : x28_1 < (y121.length : Int)
      ·
       rw [if_pos c16] at H
       have c16b0 : decide (x28_1 < (y121.length : Int)) = true := decide_eq_true c16
       rw [hl8_1] at c16b0
       clear c16
       have HC17 := Aside0.mk H
       clear H
       go_upto_if 32 with (fail)
       go_cut [10] (fun v10 wc => ∃ (kq : Nat) (x10_16 : Int), v10 = .int .i64 x10_16 ∧ Aside0 (laws_FnWideBytes.j1 kq l1 a2 t118 x8_1 x28_1 x10_16 (y121.length : Int) x28_1 a0_0 a0_1 = some r) ∧ Aside0 (kq ≤ k1) ∧ Aside0 (Kd.V (Kd.int .i64) 3 wc w.heap.size (fun k_ => some k_ ≠ ((.slice Ao15 x8_1.length co15) : Value).ownBlock ∧ k_ ≠ gb117) v119 t118) ∧ Aside0 (Kd.R (Kd.int .u8) 5 wc w.heap.size (fun _ => True) (.slice Ao15 x8_1.length co15) x8_1) ∧ Aside0 (wc.heap[gb117]? = some (.cells #[.int .u64 a0_0, .int .u64 a0_1] 24 (0, 0))) ∧ Aside0 (Below w.heap.size w wc))
       case first =>
        have H := HC17.out
        clear HC17
        by_cases c18 : a2 = true
        ·
         subst c18
         have H1 : (laws_FnWideBytes.j1 k1 l1 true t118 x8_1 x28_1 (wrap64 (15 - x28_1)) (y121.length : Int) x28_1 a0_0 a0_1) = some r := by rw [if_pos rfl] at H; exact H
         clear H
         have H := H1
         clear H1
         have H' := Aside0.mk H
         clear H
         go_wp2
         go_meet
         case rel => exact ⟨_, (wrap64 (15 - x28_1)), (by first | rfl | (simp; done) | (simp [*]; done)), H', ⟨by have := HK1.out; first | omega | exact Nat.le_refl _⟩, ⟨by (try simp only [hl8_1]); (with_reducible repeat (first | apply Kd.V_alloc | apply Kd.V_drewN | apply Kd.V_drew)); exact HO_7.out⟩, ⟨by (try simp only [hl8_1]); (with_reducible repeat (first | apply Kd.R_alloc | apply Kd.R_drewN | apply Kd.R_drew)); exact HO_8.out⟩, ⟨by (try simp only [hl8_1]); (with_reducible repeat (first | refine blk_drewN ?_ _ | refine blk_drew ?_ | refine blk_alloc ?_ _)); exact BK117.out⟩, ⟨by repeat (first | (with_reducible first | exact HB.out | apply below_alloc | apply pw_below_drewN | apply below_drew1 | refine below_set ?_ GE117.out) | exact HB.out)⟩⟩
        ·
         replace c18 := Bool.eq_false_iff.mpr c18
         subst c18
         have H1 : (laws_FnWideBytes.j1 k1 l1 false t118 x8_1 x28_1 x28_1 (y121.length : Int) x28_1 a0_0 a0_1) = some r := by rw [if_neg (show ¬ (false = true) by decide)] at H; exact H
         clear H
         have H := H1
         clear H1
         have H' := Aside0.mk H
         clear H
         go_wp2
         go_meet
         case rel => exact ⟨_, (x28_1), (by first | rfl | (simp; done) | (simp [*]; done)), H', ⟨by have := HK1.out; first | omega | exact Nat.le_refl _⟩, ⟨by (try simp only [hl8_1]); (with_reducible repeat (first | apply Kd.V_alloc | apply Kd.V_drewN | apply Kd.V_drew)); exact HO_7.out⟩, ⟨by (try simp only [hl8_1]); (with_reducible repeat (first | apply Kd.R_alloc | apply Kd.R_drewN | apply Kd.R_drew)); exact HO_8.out⟩, ⟨by (try simp only [hl8_1]); (with_reducible repeat (first | refine blk_drewN ?_ _ | refine blk_drew ?_ | refine blk_alloc ?_ _)); exact BK117.out⟩, ⟨by repeat (first | (with_reducible first | exact HB.out | apply below_alloc | apply pw_below_drewN | apply below_drew1 | refine below_set ?_ GE117.out) | exact HB.out)⟩⟩
       case rest =>
        clear HC17
        try clear c1
        try clear c2
        try clear p2
        try clear c4
        try clear c4b0
        try clear c4b1
        try clear c6
        try clear c6b0
        try clear c6b1
        try clear p6
        try clear c9
        try clear c9b0
        try clear c9b1
        try clear c16
        try clear c16b0
        try clear c18
        try clear hcz11_0
        try clear hcz11_1
        try clear hfz11_0
        try clear hfz11_1
        try clear p2
        obtain ⟨kq, x10_16, rfl, HA, HJ16, HO_7, HO_8, BK117, HB⟩ := hcut
        cases kq with
        | zero => exact absurd HA.out (by simp [laws_FnWideBytes.j1])
        | succ kj16 =>
         have H := HA.out
         clear HA
         simp only [laws_FnWideBytes.j1] at H
         have H' := Aside0.mk H
         clear H
         go_wp2
         go_loopg [35] kj16 (fun kq v35 w' => ∃ (x8_3 : List Int) (x35_3 : Int), v35 = .int .i64 x35_3 ∧ Aside0 (laws_FnWideBytes.l1 kq l1 a2 t118 x8_3 x28_1 x10_16 (y121.length : Int) x28_1 x35_3 a0_0 a0_1 = some r) ∧ Aside0 (kq ≤ kj16) ∧ Aside0 (Kd.V (Kd.int .i64) 3 w' w.heap.size (fun k_ => some k_ ≠ ((.slice Ao15 x8_1.length co15) : Value).ownBlock ∧ k_ ≠ gb117) v119 t118) ∧ Aside0 (Kd.R (Kd.int .u8) 5 w' w.heap.size (fun _ => True) (.slice Ao15 x8_1.length co15) x8_3) ∧ Aside0 (w'.heap[gb117]? = some (.cells #[.int .u64 a0_0, .int .u64 a0_1] 24 (0, 0))) ∧ Aside0 (Below w.heap.size w w'))
         case atStart => exact ⟨(x8_1), (0), (by first | rfl | (simp; done) | (simp [*]; done)), H', ⟨Nat.le_refl _⟩, ⟨by (try simp only [hl8_1]); (with_reducible repeat (first | apply Kd.V_alloc | apply Kd.V_drewN | apply Kd.V_drew)); exact HO_7.out⟩, ⟨by (try simp only [hl8_1]); (with_reducible repeat (first | apply Kd.R_alloc | apply Kd.R_drewN | apply Kd.R_drew)); exact HO_8.out⟩, ⟨by (try simp only [hl8_1]); (with_reducible repeat (first | refine blk_drewN ?_ _ | refine blk_drew ?_ | refine blk_alloc ?_ _)); exact BK117.out⟩, ⟨by repeat (first | (with_reducible first | exact HB.out | apply below_alloc | apply pw_below_drewN | apply below_drew1 | refine below_set ?_ GE117.out) | exact HB.out)⟩⟩
         case round =>
          clear H'
          try clear c1
          try clear c2
          try clear p2
          try clear c4
          try clear c4b0
          try clear c4b1
          try clear c6
          try clear c6b0
          try clear c6b1
          try clear p6
          try clear c9
          try clear c9b0
          try clear c9b1
          try clear c16
          try clear c16b0
          try clear c18
          try clear hcz11_0
          try clear hcz11_1
          try clear hfz11_0
          try clear hfz11_1
          try clear p2
          try clear p6
          obtain ⟨x8_3, x35_3, rfl, HA, HK3, HO_7, HO_8, BK117, HB⟩ := hrel
          have hl8_3 := (Kd.R_reads' HO_8.out).1
          rw [hl8_3] at HO_8
          (try simp only [hl8_3])
          (try simp only [hl8_3] at BK117)
          (try simp only [hl8_3] at HO_7)
          cases gk with
          | zero => exact absurd HA.out (by simp [laws_FnWideBytes.l1])
          | succ k3 =>
           have H := HA.out
           clear HA
           simp only [laws_FnWideBytes.l1] at H
           by_cases c19 : x35_3 < 8
           ·
            rw [if_pos c19] at H
            have c19b0 : decide (x35_3 < 8) = true := decide_eq_true c19
            clear c19
            replace H := Option.bind_eq_some_iff.mp H
            obtain ⟨t124, A200, H⟩ := H
            replace H : (if t124 = true then (if 0 ≤ x28_1 then (if x28_1 < (x8_3.length : Int) then (if 0 ≤ x35_3 then (laws_FnWideBytes.l1 k3 l1 a2 t118 (x8_3.set (x28_1 : Int).toNat (Go.bits .or .u8 (rd x8_3 x28_1) (shl .u8 1 x35_3))) x28_1 x10_16 (y121.length : Int) x28_1 (wrap64 (x35_3 + 1)) a0_0 a0_1) else (none)) else (none)) else (none)) else (laws_FnWideBytes.l1 k3 l1 a2 t118 x8_3 x28_1 x10_16 (y121.length : Int) x28_1 (wrap64 (x35_3 + 1)) a0_0 a0_1)) = some r := H
            have A20 := Aside0.mk A200
            clear A200
            by_cases c21 : t124 = true
            ·
             subst c21
             have H1 : (if 0 ≤ x28_1 then (if x28_1 < (x8_3.length : Int) then (if 0 ≤ x35_3 then (laws_FnWideBytes.l1 k3 l1 a2 t118 (x8_3.set (x28_1 : Int).toNat (Go.bits .or .u8 (rd x8_3 x28_1) (shl .u8 1 x35_3))) x28_1 x10_16 (y121.length : Int) x28_1 (wrap64 (x35_3 + 1)) a0_0 a0_1) else (none)) else (none)) else (none)) = some r := by rw [if_pos rfl] at H; exact H
             clear H
             have H := H1
             clear H1
             by_cases c22 : 0 ≤ x28_1
             ·
              rw [if_pos c22] at H
              have c22b0 : decide (0 ≤ x28_1) = true := decide_eq_true c22
              clear c22
              by_cases c23 : x28_1 < (x8_3.length : Int)
              ·
               rw [if_pos c23] at H
               have c23b0 : decide (x28_1 < (x8_3.length : Int)) = true := decide_eq_true c23
               clear c23
               by_cases c24 : 0 ≤ x35_3
               ·
                rw [if_pos c24] at H
                have c24b0 := eq_true c24
                have c24b1 : decide (0 ≤ x35_3) = true := decide_eq_true c24
                clear c24
                obtain ⟨ji25, hji25⟩ : ∃ j_ : Int, (shl .u8 1 x35_3) = j_ := ⟨_, rfl⟩
                replace H : (laws_FnWideBytes.l1 k3 l1 a2 t118 (x8_3.set (x28_1 : Int).toNat (Go.bits .or .u8 (rd x8_3 x28_1) (ji25))) x28_1 x10_16 (y121.length : Int) x28_1 (wrap64 (x35_3 + 1)) a0_0 a0_1) = some r := by first | (rw [hji25] at H; exact H) | (simp only [hji25] at H ⊢; exact H)
                (try rw [hji25] at A20)
                have hji25_ : (IntKind.u8.wrap (1 * 2 ^ min x35_3.toNat 8)) = ji25 := hji25
                have hji25z : x35_3 ≤ 8 → (IntKind.u8.wrap (1 * 2 ^ x35_3.toNat)) = ji25 := shl_small hji25
                have hji25u : (IntKind.u8.wrap (2 ^ min x35_3.toNat 8)) = ji25 := by have h_ := hji25_; rw [Int.one_mul] at h_; exact h_
                have hji25v : x35_3 ≤ 8 → (IntKind.u8.wrap (2 ^ x35_3.toNat)) = ji25 := fun hle_ => by have h_ := hji25z hle_; rw [Int.one_mul] at h_; exact h_
                obtain ⟨y126, hy126⟩ : ∃ y_ : List Int, y_ = (x8_3.set (x28_1 : Int).toNat (Go.bits .or .u8 (rd x8_3 x28_1) (ji25))) := ⟨_, rfl⟩
                replace H : (laws_FnWideBytes.l1 k3 l1 a2 t118 y126 x28_1 x10_16 (y121.length : Int) x28_1 (wrap64 (x35_3 + 1)) a0_0 a0_1) = some r := by first | (rw [hy126]; with_reducible exact H) | (have H2_ := (Option.bind_some _ _).symm.trans H; rw [hy126]; with_reducible exact H2_) | (have H2_ := (Option.bind_some _ _).symm.trans H; with_reducible exact H2_) | with_reducible exact H | (rw [hy126]; exact H) | exact H
                have Ny126 := Aside0.mk hy126
                clear hy126
                have H' := Aside0.mk H
                clear H
                obtain ⟨Ao27, co27, eo27⟩ := Kd.V_slice HO_7.out
                subst eo27
                try go_wp2_with (first | ((with_reducible refine gate_callee (f := 41) rfl ?_); refine goesL_ (some 43) rfl rfl Try.func41 (by kernel_rfl) rfl #[.slice Ao27 t118.length co27, .int .i64 (wrap64 ((wrap64 (8 * x10_16)) + x35_3))] rfl (by (try simp only [List.map_toArray, List.map_cons, List.map_nil]); first | done | rfl | (simp only [List.length_drop, List.length_take]; rfl)) ?_; (with_reducible refine (spec_Big_Bit.calls _ _ t118 (wrap64 ((wrap64 (8 * x10_16)) + x35_3)) true _ ?side1 ?side2 A20.out).mono ?_); (case side1 => repeat (first | exact (Kd.V_reads' HO_7.out).2.2 | (with_reducible refine Kd.C_alloc ?_ _) | (with_reducible refine Kd.C_drewN ?_ _) | (with_reducible refine Kd.C_drew ?_))); (case side2 => exact (Kd.V_reads' HO_7.out).2.1); rintro e w' ⟨rfl, ⟨nd, rfl⟩⟩; refine ⟨_, rfl, ?_⟩; (try (rw [drewN_self wr]; generalize hq_ : World.drewN wr _ = wr; have n0_ : Aside0 (Kd.V (Kd.int .i64) 3 wr w.heap.size (fun k_ => some k_ ≠ (.slice Ao15 x8_3.length co15 : Value).ownBlock ∧ k_ ≠ gb117) (.slice Ao27 t118.length co27) t118) := ⟨by rw [← hq_]; exact (by (with_reducible repeat (first | apply Kd.V_alloc | apply Kd.V_drewN | apply Kd.V_drew)); exact HO_7.out)⟩; have n1_ : Aside0 (Kd.R (Kd.int .u8) 5 wr w.heap.size (fun _ => True) (.slice Ao15 x8_3.length co15) x8_3) := ⟨by rw [← hq_]; exact (by (with_reducible repeat (first | apply Kd.R_alloc | apply Kd.R_drewN | apply Kd.R_drew)); exact HO_8.out)⟩; have n2_ : Aside0 (wr.heap[gb117]? = some (.cells #[.int .u64 a0_0, .int .u64 a0_1] 24 (0, 0))) := ⟨by rw [← hq_]; exact (by exact BK117.out)⟩; have n3_ : Aside0 (Below w.heap.size w wr) := ⟨by rw [← hq_]; exact (by repeat (first | (with_reducible first | exact HB.out | apply below_alloc | apply pw_below_drewN | apply below_drew1 | refine below_set ?_ GE117.out) | exact HB.out))⟩; clear HO_7 HO_8 BK117 HB hq_; have HO_7 := n0_; have HO_8 := n1_; have BK117 := n2_; have HB := n3_; clear n0_ n1_ n2_ n3_))))
                have n0_ := Aside0.mk (Kd.V_drew HO_7.out)
                have n1_ := Aside0.mk (Kd.R_drew HO_8.out)
                have n2_ := Aside0.mk (blk_drew BK117.out)
                have n3_ := Aside0.mk (below_drew1 HB.out)
                clear HO_7
                clear HO_8
                clear BK117
                clear HB
                have HO_7 := n0_
                have HO_8 := n1_
                have BK117 := n2_
                have HB := n3_
                clear n0_ n1_ n2_ n3_
                have p125 : 0 ≤ (x28_1 : Int) := of_decide_eq_true (by first | (with_reducible assumption) | assumption)
                have q125 : x28_1 < (x8_3.length : Int) := of_decide_eq_true (by first | (with_reducible assumption) | assumption)
                obtain ⟨ad125, e125, hx125_0⟩ := Kd.at_int (Kd.R_reads' HO_8.out).2.2 x28_1 p125 q125
                cases e125
                replace p125 := eq_true p125
                replace q125 := eq_true q125
                have p26 : 0 ≤ (x28_1 : Int) := of_decide_eq_true (by first | (with_reducible assumption) | assumption)
                have q26 : (x28_1 : Int) < ((x8_3.length : Int) : Int) := of_decide_eq_true (by first | (with_reducible assumption) | assumption)
                obtain ⟨go26, co26, eo26, gb26, gl26, cl26, HG26⟩ := Kd.R_form HO_8.out (by omega)
                (first | cases eo26 | (injection eo26 with ea_ en_ ec_; (first | subst ea_ | (injection ea_ with ea_; subst ea_)); subst ec_; clear en_))
                have GB26 := Aside0.mk gb26
                have GG26 := Aside0.mk HG26
                clear gb26 gl26 HG26
                (first | simp only [add_plain] at hx125_0 | skip)
                obtain ⟨hx26_0, hf26_0⟩ := Kd.R_celln 0 HO_8.out (x28_1 : Int) p26 q26
                replace p26 := eq_true p26
                replace q26 := eq_true q26
                have HP29 := Kd.R_putn HO_8.out (x28_1 : Int) (Go.bits .or .u8 (rd x8_3 x28_1) (ji25))
                rw [← Ny126.out] at HP29
                have HQ29 := Aside0.mk HP29
                clear HP29
                refine start_ (n := 9) (S := fun w' => w'.cell? ⟨go26, (x28_1).toNat, none⟩ = some (.int .u8 (rd x8_3 x28_1))) (ds := [8]) #[false, false, false, false, false, false, false, false, false] (by kernel_rfl) rfl rfl (hx125_0) (fun hHeld => ?_); refine with_tabW laws_FnWideBytes.tab17 laws_FnWideBytes.bits17 (fun HT_ HW_ => ?_)
                generalize wr.drew = w28 at HO_7 HO_8 BK117 HB GG26 HQ29 hf26_0 hx125_0 hx26_0 hHeld ⊢
                refine pure_ (i := 0) (N := some 44) (v := ?_) (a' := ?_) #[true, false, false, false, false, false, false, false, false] rfl rfl (any_of HT_.out (by kernel_rfl)) (fun _ _ _ h => h) (Or.inl ⟨by rfl, ?_⟩) ?_ ?_
                rotate_left
                ·
                 intro w'
                 go_simp
                 with_reducible rfl
                rotate_left
                ·
                 simp only [Act.put, List.setIfInBounds_toArray, List.set_cons_zero, List.set_cons_succ, i64_w, i32_w]
                 rfl
                refine pure_ (i := 1) (N := some 45) (v := ?_) (a' := ?_) #[true, true, false, false, false, false, false, false, false] rfl rfl (any_of HT_.out (by kernel_rfl)) (fun _ _ _ h => h) (Or.inl ⟨by rfl, ?_⟩) ?_ ?_
                rotate_left
                ·
                 intro w'
                 go_simp
                 with_reducible rfl
                rotate_left
                ·
                 simp only [Act.put, List.setIfInBounds_toArray, List.set_cons_zero, List.set_cons_succ, i64_w, i32_w]
                 rfl
                refine pure_ (i := 2) (N := some 46) (v := ?_) (a' := ?_) #[true, true, true, false, false, false, false, false, false] rfl rfl (any_of HT_.out (by kernel_rfl)) (fun _ _ _ h => h) (Or.inl ⟨by rfl, ?_⟩) ?_ ?_
                rotate_left
                ·
                 intro w'
                 go_simp
                 with_reducible rfl
                rotate_left
                ·
                 simp only [Act.put, List.setIfInBounds_toArray, List.set_cons_zero, List.set_cons_succ, i64_w, i32_w]
                 rfl
                refine pure_ (i := 4) (N := some 48) (v := ?_) (a' := ?_) #[true, true, true, false, true, false, false, false, false] rfl rfl (any_of HT_.out (by kernel_rfl)) (fun _ _ _ h => h) (Or.inl ⟨by rfl, ?_⟩) ?_ ?_
                rotate_left
                ·
                 intro w'
                 go_simp
                 with_reducible rfl
                rotate_left
                ·
                 simp only [Act.put, List.setIfInBounds_toArray, List.set_cons_zero, List.set_cons_succ, i64_w, i32_w]
                 rfl
                refine pure_ (i := 5) (N := some 49) (v := ?_) (a' := ?_) #[true, true, true, false, true, true, false, false, false] rfl rfl (any_of HT_.out (by kernel_rfl)) (fun _ _ _ h => h) (Or.inl ⟨by rfl, ?_⟩) ?_ ?_
                rotate_left
                ·
                 intro w'
                 go_simp
                 with_reducible rfl
                rotate_left
                ·
                 simp only [Act.put, List.setIfInBounds_toArray, List.set_cons_zero, List.set_cons_succ, i64_w, i32_w]
                 rfl
                refine take_ (i := 3) (N := some 47) (v := ?_) (a' := ?_) #[true, true, true, true, true, true, false, false, false] rfl rfl (take_ofW HT_.out HW_.out (by kernel_rfl)) (fun _ _ _ h => h) (Or.inl ⟨by rfl, ?_⟩) hHeld ?_ ?_
                rotate_left
                ·
                 intro w' s0
                 go_simp
                 with_reducible rfl
                rotate_left
                ·
                 simp only [Act.put, List.setIfInBounds_toArray, List.set_cons_zero, List.set_cons_succ, i64_w, i32_w]
                 rfl
                refine pure_ (i := 6) (N := some 50) (v := ?_) (a' := ?_) #[true, true, true, true, true, true, true, false, false] rfl rfl (any_of HT_.out (by kernel_rfl)) (fun _ _ _ h => h) (Or.inl ⟨by rfl, ?_⟩) ?_ ?_
                rotate_left
                ·
                 intro w'
                 go_simp
                 with_reducible rfl
                rotate_left
                ·
                 simp only [Act.put, List.setIfInBounds_toArray, List.set_cons_zero, List.set_cons_succ, i64_w, i32_w]
                 rfl
                refine pure_ (i := 7) (N := some 51) (v := ?_) (a' := ?_) #[true, true, true, true, true, true, true, true, false] rfl rfl (any_of HT_.out (by kernel_rfl)) (fun _ _ _ h => h) (Or.inl ⟨by rfl, ?_⟩) ?_ ?_
                rotate_left
                ·
                 intro w'
                 go_simp
                 with_reducible rfl
                rotate_left
                ·
                 simp only [Act.put, List.setIfInBounds_toArray, List.set_cons_zero, List.set_cons_succ, i64_w, i32_w]
                 rfl
                refine last_ (i := 8) (N := none) #[true, true, true, true, true, true, true, true, true] rfl rfl (one_of HT_.out (by kernel_rfl)) (by decide) (fun K hK => ?_)
                refine skip_ (w1 := ?_) (by rfl) rfl ?_ ?_
                rotate_left
                ·
                 go_simp
                 rfl
                refine hK.out _ _ ?_
                clear hK K
                refine done_ (done_of HT_.out (by kernel_rfl)) ?_
                try go_wp2
                (try simp only [← hl8_3])
                go_roundg k3
                case measure => have := HK1.out; have := HJ16.out; have := HK3.out; omega
                case rel => exact ⟨(y126), (wrap64 (x35_3 + 1)), (by first | rfl | (simp; done) | (simp [*]; done)), H', ⟨by have := HK1.out; have := HJ16.out; have := HK3.out; omega⟩, ⟨by (try simp only [hl8_1]); (try simp only [hl8_3]); (with_reducible repeat (first | apply Kd.V_alloc | apply Kd.V_drewN | apply Kd.V_drew)); exact Kd.V_mono (Kd.V_far (p := ⟨go26, (x28_1 : Int).toNat, none⟩) (Kd.V_mono HO_7.out (fun k_ hk => (⟨hk, fun e_ => hk.1 (by rw [e_]; rfl)⟩ : _ ∧ k_ ≠ go26))) (fun _ hk => hk.2) (.int .u8 (Go.bits .or .u8 (rd x8_3 x28_1) (ji25)))) (fun _ hk => ⟨hk.1.1, hk.1.2⟩)⟩, ⟨by (try simp only [hl8_1]); (try simp only [hl8_3]); (with_reducible repeat (first | apply Kd.R_alloc | apply Kd.R_drewN | apply Kd.R_drew)); exact HQ29.out⟩, ⟨by (try simp only [hl8_1]); (try simp only [hl8_3]); (with_reducible repeat (first | refine blk_drewN ?_ _ | refine blk_drew ?_ | refine blk_alloc ?_ _)); refine blk_far ?_ (by have h_ := Kd.R_ne HO_8.out BK117.out (by decide); intro e_; exact h_ (by rw [e_]; rfl)) _; (with_reducible repeat (first | refine blk_drewN ?_ _ | refine blk_drew ?_ | refine blk_alloc ?_ _)); exact BK117.out⟩, ⟨by repeat (first | (with_reducible first | exact HB.out | apply below_alloc | apply pw_below_drewN | apply below_drew1 | refine below_set ?_ GB26.out | refine below_set ?_ GE117.out) | exact HB.out)⟩⟩
               ·
                rw [if_neg c24] at H
                exact absurd H (by simp)
              ·
               rw [if_neg c23] at H
               exact absurd H (by simp)
             ·
              rw [if_neg c22] at H
              exact absurd H (by simp)
            ·
             replace c21 := Bool.eq_false_iff.mpr c21
             subst c21
             have H1 : (laws_FnWideBytes.l1 k3 l1 a2 t118 x8_3 x28_1 x10_16 (y121.length : Int) x28_1 (wrap64 (x35_3 + 1)) a0_0 a0_1) = some r := by rw [if_neg (show ¬ (false = true) by decide)] at H; exact H
             clear H
             have H := H1
             clear H1
             have H' := Aside0.mk H
             clear H
             obtain ⟨Ao30, co30, eo30⟩ := Kd.V_slice HO_7.out
             subst eo30
             go_wp2_with (first | ((with_reducible refine gate_callee (f := 41) rfl ?_); refine goesL_ (some 43) rfl rfl Try.func41 (by kernel_rfl) rfl #[.slice Ao30 t118.length co30, .int .i64 (wrap64 ((wrap64 (8 * x10_16)) + x35_3))] rfl (by (try simp only [List.map_toArray, List.map_cons, List.map_nil]); first | done | rfl | (simp only [List.length_drop, List.length_take]; rfl)) ?_; (with_reducible refine (spec_Big_Bit.calls _ _ t118 (wrap64 ((wrap64 (8 * x10_16)) + x35_3)) false _ ?side1 ?side2 A20.out).mono ?_); (case side1 => repeat (first | exact (Kd.V_reads' HO_7.out).2.2 | (with_reducible refine Kd.C_alloc ?_ _) | (with_reducible refine Kd.C_drewN ?_ _) | (with_reducible refine Kd.C_drew ?_))); (case side2 => exact (Kd.V_reads' HO_7.out).2.1); rintro e w' ⟨rfl, ⟨nd, rfl⟩⟩; refine ⟨_, rfl, ?_⟩))
             (try simp only [← hl8_3])
             go_roundg k3
             case measure => have := HK1.out; have := HJ16.out; have := HK3.out; omega
             case rel => exact ⟨(x8_3), (wrap64 (x35_3 + 1)), (by first | rfl | (simp; done) | (simp [*]; done)), H', ⟨by have := HK1.out; have := HJ16.out; have := HK3.out; omega⟩, ⟨by (try simp only [hl8_1]); (try simp only [hl8_3]); (with_reducible repeat (first | apply Kd.V_alloc | apply Kd.V_drewN | apply Kd.V_drew)); exact HO_7.out⟩, ⟨by (try simp only [hl8_1]); (try simp only [hl8_3]); (with_reducible repeat (first | apply Kd.R_alloc | apply Kd.R_drewN | apply Kd.R_drew)); exact HO_8.out⟩, ⟨by (try simp only [hl8_1]); (try simp only [hl8_3]); (with_reducible repeat (first | refine blk_drewN ?_ _ | refine blk_drew ?_ | refine blk_alloc ?_ _)); exact BK117.out⟩, ⟨by repeat (first | (with_reducible first | exact HB.out | apply below_alloc | apply pw_below_drewN | apply below_drew1 | refine below_set ?_ GE117.out) | exact HB.out)⟩⟩
           ·
            rw [if_neg c19] at H
            have c19b0 : decide (x35_3 < 8) = false := decide_eq_false c19
            clear c19
            have H' := Aside0.mk H
            clear H
            go_wp2
            (try simp only [← hl8_1, ← hl8_3])
            go_roundg k3
            case measure => have := HK1.out; have := HJ16.out; have := HK3.out; omega
            case rel => exact ⟨(x8_3), (wrap64 (x28_1 + 1)), (by first | rfl | (simp; done) | (simp [*]; done)), H', ⟨by have := HK1.out; have := HJ16.out; have := HK3.out; omega⟩, ⟨by (try simp only [hl8_1]); (try simp only [hl8_3]); (with_reducible repeat (first | apply Kd.V_alloc | apply Kd.V_drewN | apply Kd.V_drew)); exact HO_7.out⟩, ⟨by (try simp only [hl8_1]); (try simp only [hl8_3]); (with_reducible repeat (first | apply Kd.R_alloc | apply Kd.R_drewN | apply Kd.R_drew)); exact HO_8.out⟩, ⟨by (try simp only [hl8_1]); (try simp only [hl8_3]); (with_reducible repeat (first | refine blk_drewN ?_ _ | refine blk_drew ?_ | refine blk_alloc ?_ _)); exact BK117.out⟩, ⟨by repeat (first | (with_reducible first | exact HB.out | apply below_alloc | apply pw_below_drewN | apply below_drew1 | refine below_set ?_ GE117.out) | exact HB.out)⟩⟩
      ·
       rw [if_neg c16] at H
       have c16b0 : decide (x28_1 < (y121.length : Int)) = false := decide_eq_false c16
       rw [hl8_1] at c16b0
       clear c16
       obtain ⟨y127, hy127⟩ : ∃ y_ : List Int, y_ = (([] : List Int)) := ⟨_, rfl⟩
       replace H : (if y127.length + x8_1.length < 140737488355328 then ((some (y127 ++ x8_1 : List Int)).bind fun y130 => (if y130.length + l1.length < 140737488355328 then ((impl_WideFromBytes.f (y130 ++ l1) a2).bind fun bt136 => (if bt136.2.2 = true then (laws_FnWideBytes.j3 k1 l1 a2 x8_1 (!(bt136.1 == a0_0) || (!(bt136.2.1 == a0_1))) a0_0 a0_1) else (laws_FnWideBytes.j3 k1 l1 a2 x8_1 true a0_0 a0_1))) else (none))) else (none)) = some r := by first | (rw [hy127]; with_reducible exact H) | (have H2_ := (Option.bind_some _ _).symm.trans H; rw [hy127]; with_reducible exact H2_) | (have H2_ := (Option.bind_some _ _).symm.trans H; with_reducible exact H2_) | with_reducible exact H | (rw [hy127]; exact H) | exact H
       have Ny127 := Aside0.mk hy127
       clear hy127
       by_cases c31 : y127.length + x8_1.length < 140737488355328
       ·
        rw [if_pos c31] at H
        have LMc31 := Aside0.mk c31
        clear c31
        obtain ⟨y130, hy130⟩ : ∃ y_ : List Int, y_ = (y127 ++ x8_1) := ⟨_, rfl⟩
        replace H : (if y130.length + l1.length < 140737488355328 then ((impl_WideFromBytes.f (y130 ++ l1) a2).bind fun bt136 => (if bt136.2.2 = true then (laws_FnWideBytes.j3 k1 l1 a2 x8_1 (!(bt136.1 == a0_0) || (!(bt136.2.1 == a0_1))) a0_0 a0_1) else (laws_FnWideBytes.j3 k1 l1 a2 x8_1 true a0_0 a0_1))) else (none)) = some r := by first | (rw [hy130]; with_reducible exact H) | (have H2_ := (Option.bind_some _ _).symm.trans H; rw [hy130]; with_reducible exact H2_) | (have H2_ := (Option.bind_some _ _).symm.trans H; with_reducible exact H2_) | with_reducible exact H | (rw [hy130]; exact H) | exact H
        have Ny130 := Aside0.mk hy130
        clear hy130
        by_cases c32 : y130.length + l1.length < 140737488355328
        ·
         rw [if_pos c32] at H
         have LMc32 := Aside0.mk c32
         clear c32
         obtain ⟨y133, hy133⟩ : ∃ y_ : List Int, y_ = (y130 ++ l1) := ⟨_, rfl⟩
         replace H : ((impl_WideFromBytes.f y133 a2).bind fun bt136 => (if bt136.2.2 = true then (laws_FnWideBytes.j3 k1 l1 a2 x8_1 (!(bt136.1 == a0_0) || (!(bt136.2.1 == a0_1))) a0_0 a0_1) else (laws_FnWideBytes.j3 k1 l1 a2 x8_1 true a0_0 a0_1))) = some r := by first | (rw [hy133]; with_reducible exact H) | (have H2_ := (Option.bind_some _ _).symm.trans H; rw [hy133]; with_reducible exact H2_) | (have H2_ := (Option.bind_some _ _).symm.trans H; with_reducible exact H2_) | with_reducible exact H | (rw [hy133]; exact H) | exact H
         have Ny133 := Aside0.mk hy133
         clear hy133
         replace H := Option.bind_eq_some_iff.mp H
         obtain ⟨⟨t136, t137, t138⟩, A330, H⟩ := H
         replace H : (if t138 = true then (laws_FnWideBytes.j3 k1 l1 a2 x8_1 (!(t136 == a0_0) || (!(t137 == a0_1))) a0_0 a0_1) else (laws_FnWideBytes.j3 k1 l1 a2 x8_1 true a0_0 a0_1)) = some r := H
         have A33 := Aside0.mk A330
         clear A330
         have HC34 := Aside0.mk H
         clear H
         go_upto_region 21 with (first | ((with_reducible refine gate_dst (N := 55) rfl ?_); (try (refine gate_guard (by rfl) ?_; dsimp only)); refine Kd.R_lit (Kd.int .u8) _ 5 ?hg (N := 55) ?hd (xs := ([] : List Int)) (inner := []) (ok := fun _ => True) (okp := fun _ => True) ?hr ?hp (fun _ hk => hk) trivial (Below.refl _ _) (Nat.le_refl _) (by simp) ?_; (case hd => rfl); (case hg => rfl); (case hr => first | (go_simp; done) | (go_simp; rfl)); (case hp => exact (Reps.none _ _)); intro v128 w35 ho36 hb hg_ hnew_; clear hg_ hnew_; (first | rw [← Ny127.out] at ho36 | (simp only [Int.reduceToNat] at ho36; rw [← Ny127.out] at ho36)); have n0_ := Aside0.mk (Kd.V_elder' (by (with_reducible repeat (first | apply Kd.V_alloc | apply Kd.V_drewN | apply Kd.V_drew)); exact HO_7.out) (Kd.R_base ho36) hb); have n1_ := Aside0.mk (Kd.R_elder' (by (with_reducible repeat (first | apply Kd.R_alloc | apply Kd.R_drewN | apply Kd.R_drew)); exact HO_8.out) (Kd.R_base ho36) hb); have n2_ := Aside0.mk (Kd.R_lower (Kd.R_new' ho36 (Kd.R_lt (by (with_reducible repeat (first | apply Kd.R_alloc | apply Kd.R_drewN | apply Kd.R_drew)); exact HO_8.out))) (below_size (by repeat (first | (with_reducible first | exact HB.out | apply below_alloc | apply pw_below_drewN | apply below_drew1 | refine below_set ?_ GE117.out) | exact HB.out)))); have n3_ := Aside0.mk (blk_below (g := gb117) (o := .cells #[.int .u64 a0_0, .int .u64 a0_1] 24 (0, 0)) (by exact BK117.out) hb); have n4_ := Aside0.mk (below_step (by repeat (first | (with_reducible first | exact HB.out | apply below_alloc | apply pw_below_drewN | apply below_drew1 | refine below_set ?_ GE117.out) | exact HB.out)) hb); clear HO_7; clear HO_8; clear BK117; clear HB; have HO_7 := n0_; have HO_8 := n1_; have HO129 := n2_; have BK117 := n3_; have HB := n4_; clear n0_ n1_ n2_ n3_ n4_; clear hb ho36) | ((with_reducible refine gate_builtin (b := .append) (xs := #[.tmp 55, .tmp 56]) rfl ?_); (try (refine gate_guard (by rfl) ?_; dsimp only)); at_builtin; refine Kd.R_append_rows (Kd.int .u8) (w0 := w) w.heap.size rfl (.tmp 55) (.tmp 56) 54 5 (.int .u8 0) 1 rfl Try.underlying54 info5 rfl (by decide) (by omega) v128 y127 x8_1 _ _ _ (fun k_ => some k_ ≠ (.slice Ao15 x8_1.length co15 : Value).ownBlock) (fun _ => False) rfl rfl ?aO ?aR (fun _ _ h => h) (fun _ h => h.elim) ?aF ?aB ?aS ?aL ?_; (case aR => repeat (first | exact (Kd.R_reads' HO_8.out).2.2 | (with_reducible refine Kd.C_alloc ?_ _) | (with_reducible refine Kd.C_drewN ?_ _) | (with_reducible refine Kd.C_drew ?_))); (case aB => exact (by repeat (first | (with_reducible first | exact HB.out | apply below_alloc | apply pw_below_drewN | apply below_drew1 | refine below_set ?_ GE117.out) | exact HB.out))); (case aF => exact (fun k_ hk => Kd.fresh' (Kd.R_lt (by (with_reducible repeat (first | apply Kd.R_alloc | apply Kd.R_drewN | apply Kd.R_drew)); exact HO_8.out)) k_ hk)); (case aO => exact (by (with_reducible repeat (first | apply Kd.R_alloc | apply Kd.R_drewN | apply Kd.R_drew)); exact Kd.R_mono HO129.out (fun _ hk => hk.2))); (case aS => exact (below_size (by repeat (first | (with_reducible first | exact HB.out | apply below_alloc | apply pw_below_drewN | apply below_drew1 | refine below_set ?_ GE117.out) | exact HB.out)))); (case aL => have := LMc31.out; omega); intro v131 w37 ho hb hg hat; rw [← Ny130.out] at ho; have n0_ := Aside0.mk (Kd.V_afterv (ok := (fun k_ => some k_ ≠ (.slice Ao15 x8_1.length co15 : Value).ownBlock ∧ k_ ≠ gb117)) (by (with_reducible repeat (first | apply Kd.V_alloc | apply Kd.V_drewN | apply Kd.V_drew)); exact HO_7.out) hg hat); have n1_ := Aside0.mk (Kd.R_after (ok := (fun _ => True)) (by (with_reducible repeat (first | apply Kd.R_alloc | apply Kd.R_drewN | apply Kd.R_drew)); exact HO_8.out) hg hat); have n2_ := Aside0.mk (blk_grown (g := gb117) (o := .cells #[.int .u64 a0_0, .int .u64 a0_1] 24 (0, 0)) (by exact BK117.out) hg (Kd.R_ne HO129.out BK117.out (by decide))); have n3_ := Aside0.mk (hb); have n4_ := Aside0.mk (ho); clear HO_7; clear HO_8; clear BK117; clear HB; clear HO129; have HO_7 := n0_; have HO_8 := n1_; have BK117 := n2_; have HB := n3_; have HO132 := n4_; clear n0_ n1_ n2_ n3_ n4_; clear ho hb hg hat) | ((with_reducible refine gate_builtin (b := .append) (xs := #[.tmp 57, .tmp 58]) rfl ?_); (try (refine gate_guard (by rfl) ?_; dsimp only)); at_builtin; refine Kd.R_append_rows (Kd.int .u8) (w0 := w) w.heap.size rfl (.tmp 57) (.tmp 58) 54 5 (.int .u8 0) 1 rfl Try.underlying54 info5 rfl (by decide) (by omega) v131 y130 l1 _ _ _ (fun k_ => some k_ ≠ (.slice Ao15 x8_1.length co15 : Value).ownBlock) (fun _ => False) rfl rfl ?aO ?aR (fun _ _ h => h) (fun _ h => h.elim) ?aF ?aB ?aS ?aL ?_; (case aR => repeat (first | exact (Kd.C_below HR1.out HB.out) | (with_reducible refine Kd.C_alloc ?_ _) | (with_reducible refine Kd.C_drewN ?_ _) | (with_reducible refine Kd.C_drew ?_))); (case aB => exact (by repeat (first | (with_reducible first | exact HB.out | apply below_alloc | apply pw_below_drewN | apply below_drew1 | refine below_set ?_ GE117.out) | exact HB.out))); (case aF => exact (fun k_ hk => Kd.fresh' (Kd.R_lt (by (with_reducible repeat (first | apply Kd.R_alloc | apply Kd.R_drewN | apply Kd.R_drew)); exact HO_8.out)) k_ hk)); (case aO => exact (by (with_reducible repeat (first | apply Kd.R_alloc | apply Kd.R_drewN | apply Kd.R_drew)); exact HO132.out)); (case aS => exact (below_size (by repeat (first | (with_reducible first | exact HB.out | apply below_alloc | apply pw_below_drewN | apply below_drew1 | refine below_set ?_ GE117.out) | exact HB.out)))); (case aL => have := LMc32.out; omega); intro v134 w38 ho hb hg hat; rw [← Ny133.out] at ho; have n0_ := Aside0.mk (Kd.V_afterv (ok := (fun k_ => some k_ ≠ (.slice Ao15 x8_1.length co15 : Value).ownBlock ∧ k_ ≠ gb117)) (by (with_reducible repeat (first | apply Kd.V_alloc | apply Kd.V_drewN | apply Kd.V_drew)); exact HO_7.out) hg hat); have n1_ := Aside0.mk (Kd.R_after (ok := (fun _ => True)) (by (with_reducible repeat (first | apply Kd.R_alloc | apply Kd.R_drewN | apply Kd.R_drew)); exact HO_8.out) hg hat); have n2_ := Aside0.mk (blk_grown (g := gb117) (o := .cells #[.int .u64 a0_0, .int .u64 a0_1] 24 (0, 0)) (by exact BK117.out) hg (Kd.R_ne HO132.out BK117.out (by decide))); have n3_ := Aside0.mk (hb); have n4_ := Aside0.mk (ho); clear HO_7; clear HO_8; clear BK117; clear HB; clear HO132; have HO_7 := n0_; have HO_8 := n1_; have BK117 := n2_; have HB := n3_; have HO135 := n4_; clear n0_ n1_ n2_ n3_ n4_; clear ho hb hg hat; obtain ⟨Ao39, co39, eo39⟩ := Kd.R_slice HO135.out; subst eo39) | ((with_reducible refine gate_callee (f := 74) rfl ?_); refine goesL_ (some 61) rfl rfl Try.func74 (by kernel_rfl) rfl #[.slice Ao39 y133.length co39, .bool a2] rfl (by (try simp only [List.map_toArray, List.map_cons, List.map_nil]); first | done | rfl | (simp only [List.length_drop, List.length_take]; rfl)) ?_; (with_reducible refine (impl_WideFromBytes.calls _ _ y133 a2 t136 t137 t138 _ ?side1 ?side2 A33.out).mono ?_); (case side1 => repeat (first | exact (Kd.R_reads' HO135.out).2.2 | (with_reducible refine Kd.C_alloc ?_ _) | (with_reducible refine Kd.C_drewN ?_ _) | (with_reducible refine Kd.C_drew ?_))); (case side2 => exact (Kd.R_reads' HO135.out).2.1); rintro e w40 ⟨rfl, hb⟩; refine ⟨_, rfl, ?_⟩; have n0_ := Aside0.mk (Kd.V_below (by (with_reducible repeat (first | apply Kd.V_alloc | apply Kd.V_drewN | apply Kd.V_drew)); exact HO_7.out) hb); have n1_ := Aside0.mk (Kd.R_below (by (with_reducible repeat (first | apply Kd.R_alloc | apply Kd.R_drewN | apply Kd.R_drew)); exact HO_8.out) hb); have n2_ := Aside0.mk (Kd.R_below (by (with_reducible repeat (first | apply Kd.R_alloc | apply Kd.R_drewN | apply Kd.R_drew)); exact HO135.out) hb); have n3_ := Aside0.mk (blk_below (g := gb117) (o := .cells #[.int .u64 a0_0, .int .u64 a0_1] 24 (0, 0)) (by exact BK117.out) hb); have n4_ := Aside0.mk (below_step (by repeat (first | (with_reducible first | exact HB.out | apply below_alloc | apply pw_below_drewN | apply below_drew1 | refine below_set ?_ GE117.out) | exact HB.out)) hb); clear HO_7; clear HO_8; clear HO135; clear BK117; clear HB; have HO_7 := n0_; have HO_8 := n1_; have HO135 := n2_; have BK117 := n3_; have HB := n4_; clear n0_ n1_ n2_ n3_ n4_; (try clear hb); (try clear hb2); (try clear hk); (try clear hi)) | ((with_reducible refine gate_dst (N := 12) rfl ?_); (try (refine gate_guard (by rfl) ?_; dsimp only)); refine box_event ?hg (N := 12) ?hd (cs := #[.int .u64 0, .int .u64 0]) (t := 24) ?hr ?_; (case hd => rfl); (case hg => rfl); (case hr => first | (go_simp; done) | (go_simp; rfl)); intro gb139 hg w41 hbox hb; have n0_ := Aside0.mk (Kd.V_below (Kd.V_elderB (by (with_reducible repeat (first | apply Kd.V_alloc | apply Kd.V_drewN | apply Kd.V_drew)); exact HO_7.out) gb139 (Nat.le_of_eq hg.symm)) hb); have n1_ := Aside0.mk (Kd.R_below (by (with_reducible repeat (first | apply Kd.R_alloc | apply Kd.R_drewN | apply Kd.R_drew)); exact HO_8.out) hb); have n2_ := Aside0.mk (Kd.R_below (by (with_reducible repeat (first | apply Kd.R_alloc | apply Kd.R_drewN | apply Kd.R_drew)); exact HO135.out) hb); have n3_ := Aside0.mk (blk_below (g := gb117) (o := .cells #[.int .u64 a0_0, .int .u64 a0_1] 24 (0, 0)) (by exact BK117.out) hb); have n4_ := Aside0.mk (below_step (by repeat (first | (with_reducible first | exact HB.out | apply below_alloc | apply pw_below_drewN | apply below_drew1 | refine below_set ?_ GE117.out) | exact HB.out)) hb); have n5_ := Aside0.mk (hbox); have n6_ := Aside0.mk ((by rw [hg]; exact (below_size (by repeat (first | (with_reducible first | exact HB.out | apply below_alloc | apply pw_below_drewN | apply below_drew1 | refine below_set ?_ GE117.out) | exact HB.out))) : w.heap.size ≤ gb139)); have n7_ := Aside0.mk ((by rw [hg]; exact (below_size (by repeat (first | (with_reducible first | exact HB.out | apply below_alloc | apply pw_below_drewN | apply below_drew1 | refine below_set ?_ GE117.out) | exact HB.out))) : w.heap.size ≤ gb139)); have n8_ := Aside0.mk ((by rw [hg]; exact Nat.ne_of_lt (blk_lt (g := gb117) (o := .cells #[.int .u64 a0_0, .int .u64 a0_1] 24 (0, 0)) (by exact BK117.out)) : gb117 ≠ gb139)); have n9_ := Aside0.mk ((by rw [hg]; exact Nat.ne_of_gt (blk_lt (g := gb117) (o := .cells #[.int .u64 a0_0, .int .u64 a0_1] 24 (0, 0)) (by exact BK117.out)) : gb139 ≠ gb117)); clear HO_7; clear HO_8; clear HO135; clear BK117; clear HB; have HO_7 := n0_; have HO_8 := n1_; have HO135 := n2_; have BK117 := n3_; have HB := n4_; have BK139 := n5_; have GW139 := n6_; have GE139 := n7_; have NB117_139 := n8_; have NB139_117 := n9_; clear n0_ n1_ n2_ n3_ n4_ n5_ n6_ n7_ n8_ n9_; clear hb hbox hg; have hnb42 := NB139_117.out; have hnc42 := NB117_139.out; have hcz43_0 : w41.cell? ⟨gb139, 0, none⟩ = some (.int .u64 0) := (blk_cell BK139.out 0).trans rfl; have hcz43_1 : w41.cell? ⟨gb139, 1, none⟩ = some (.int .u64 0) := (blk_cell BK139.out 1).trans rfl; have hfz43_0 := blk_frozen BK139.out 0; have hfz43_1 := blk_frozen BK139.out 1))
         (try simp only [Act.put, List.setIfInBounds_toArray, List.set_cons_zero, List.set_cons_succ])
         go_cut [70] (fun v70 wc => ∃ (kq : Nat) (x70_33 : Bool), v70 = .bool x70_33 ∧ Aside0 (laws_FnWideBytes.j3 kq l1 a2 x8_1 x70_33 a0_0 a0_1 = some r) ∧ Aside0 (kq ≤ k1) ∧ Aside0 (Kd.R (Kd.int .u8) 5 wc w.heap.size (fun _ => True) (.slice Ao15 x8_1.length co15) x8_1) ∧ Aside0 (wc.heap[gb117]? = some (.cells #[.int .u64 a0_0, .int .u64 a0_1] 24 (0, 0))) ∧ Aside0 (wc.heap[gb139]? = some (.cells #[.int .u64 t136, .int .u64 t137] 24 (0, 0))) ∧ Aside0 (Below w.heap.size w wc))
         case first =>
          have H := HC34.out
          clear HC34
          by_cases c44 : t138 = true
          ·
           subst c44
           have H1 : (laws_FnWideBytes.j3 k1 l1 a2 x8_1 (!(t136 == a0_0) || (!(t137 == a0_1))) a0_0 a0_1) = some r := by rw [if_pos rfl] at H; exact H
           clear H
           have H := H1
           clear H1
           have H' := Aside0.mk H
           clear H
           have hnb45 := NB139_117.out
           have hnc45 := NB117_139.out
           have hcz46_0 : w41.cell? ⟨gb139, 0, none⟩ = some (.int .u64 0) := (blk_cell BK139.out 0).trans rfl
           have hcz46_1 : w41.cell? ⟨gb139, 1, none⟩ = some (.int .u64 0) := (blk_cell BK139.out 1).trans rfl
           have hfz46_0 := blk_frozen BK139.out 0
           have hfz46_1 := blk_frozen BK139.out 1
           have hcz47_0 : w41.cell? ⟨gb117, 0, none⟩ = some (.int .u64 a0_0) := (blk_cell BK117.out 0).trans rfl
           have hcz47_1 : w41.cell? ⟨gb117, 1, none⟩ = some (.int .u64 a0_1) := (blk_cell BK117.out 1).trans rfl
           have hfz47_0 := blk_frozen BK117.out 0
           have hfz47_1 := blk_frozen BK117.out 1
           go_wp2
           go_meet
           case rel => exact ⟨_, ((!(t136 == a0_0) || (!(t137 == a0_1)))), (by first | rfl | (simp; done) | (simp [*]; done)), H', ⟨by have := HK1.out; first | omega | exact Nat.le_refl _⟩, ⟨by (try simp only [hl8_1]); (with_reducible repeat (first | apply Kd.R_alloc | apply Kd.R_drewN | apply Kd.R_drew)); exact Kd.R_mono (Kd.R_far (p := ⟨gb139, 1, none⟩) (Kd.R_far (p := ⟨gb139, 0, none⟩) (Kd.R_types HO_8.out BK139.out (by decide)) (fun _ hk => hk.2) (.int .u64 t136)) (fun _ hk => hk.2) (.int .u64 t137)) (fun _ hk => trivial)⟩, ⟨by (try simp only [hl8_1]); (with_reducible repeat (first | refine blk_drewN ?_ _ | refine blk_drew ?_ | refine blk_alloc ?_ _)); refine blk_far ?_ NB117_139.out _; (with_reducible repeat (first | refine blk_drewN ?_ _ | refine blk_drew ?_ | refine blk_alloc ?_ _)); refine blk_far ?_ NB117_139.out _; (with_reducible repeat (first | refine blk_drewN ?_ _ | refine blk_drew ?_ | refine blk_alloc ?_ _)); exact BK117.out⟩, ⟨by (try simp only [hl8_1]); (with_reducible repeat (first | refine blk_drewN ?_ _ | refine blk_drew ?_ | refine blk_alloc ?_ _)); refine blk_put (cs := #[.int .u64 t136, .int .u64 0]) ?_ 1 _ rfl; (with_reducible repeat (first | refine blk_drewN ?_ _ | refine blk_drew ?_ | refine blk_alloc ?_ _)); refine blk_put (cs := #[.int .u64 0, .int .u64 0]) ?_ 0 _ rfl; (with_reducible repeat (first | refine blk_drewN ?_ _ | refine blk_drew ?_ | refine blk_alloc ?_ _)); exact BK139.out⟩, ⟨by repeat (first | (with_reducible first | exact HB.out | apply below_alloc | apply pw_below_drewN | apply below_drew1 | refine below_set ?_ GE117.out | refine below_set ?_ GE139.out) | exact HB.out)⟩⟩
          ·
           replace c44 := Bool.eq_false_iff.mpr c44
           subst c44
           have H1 : (laws_FnWideBytes.j3 k1 l1 a2 x8_1 true a0_0 a0_1) = some r := by rw [if_neg (show ¬ (false = true) by decide)] at H; exact H
           clear H
           have H := H1
           clear H1
           have H' := Aside0.mk H
           clear H
           go_wp2
           go_meet
           case rel => exact ⟨_, (true), (by first | rfl | (simp; done) | (simp [*]; done)), H', ⟨by have := HK1.out; first | omega | exact Nat.le_refl _⟩, ⟨by (try simp only [hl8_1]); (with_reducible repeat (first | apply Kd.R_alloc | apply Kd.R_drewN | apply Kd.R_drew)); exact Kd.R_mono (Kd.R_far (p := ⟨gb139, 1, none⟩) (Kd.R_far (p := ⟨gb139, 0, none⟩) (Kd.R_types HO_8.out BK139.out (by decide)) (fun _ hk => hk.2) (.int .u64 t136)) (fun _ hk => hk.2) (.int .u64 t137)) (fun _ hk => trivial)⟩, ⟨by (try simp only [hl8_1]); (with_reducible repeat (first | refine blk_drewN ?_ _ | refine blk_drew ?_ | refine blk_alloc ?_ _)); refine blk_far ?_ NB117_139.out _; (with_reducible repeat (first | refine blk_drewN ?_ _ | refine blk_drew ?_ | refine blk_alloc ?_ _)); refine blk_far ?_ NB117_139.out _; (with_reducible repeat (first | refine blk_drewN ?_ _ | refine blk_drew ?_ | refine blk_alloc ?_ _)); exact BK117.out⟩, ⟨by (try simp only [hl8_1]); (with_reducible repeat (first | refine blk_drewN ?_ _ | refine blk_drew ?_ | refine blk_alloc ?_ _)); refine blk_put (cs := #[.int .u64 t136, .int .u64 0]) ?_ 1 _ rfl; (with_reducible repeat (first | refine blk_drewN ?_ _ | refine blk_drew ?_ | refine blk_alloc ?_ _)); refine blk_put (cs := #[.int .u64 0, .int .u64 0]) ?_ 0 _ rfl; (with_reducible repeat (first | refine blk_drewN ?_ _ | refine blk_drew ?_ | refine blk_alloc ?_ _)); exact BK139.out⟩, ⟨by repeat (first | (with_reducible first | exact HB.out | apply below_alloc | apply pw_below_drewN | apply below_drew1 | refine below_set ?_ GE117.out | refine below_set ?_ GE139.out) | exact HB.out)⟩⟩
         case rest =>
          clear HC34
          try clear c1
          try clear p1
          try clear q1
          try clear hx1
          try clear c2
          try clear p2
          try clear q2
          try clear hx2
          try clear c3
          try clear c4
          try clear c4b0
          try clear c4b1
          try clear c6
          try clear c6b0
          try clear c6b1
          try clear p6
          try clear c7
          try clear c9
          try clear c9b0
          try clear c9b1
          try clear p12
          try clear q12
          try clear hx12
          try clear c16
          try clear c16b0
          try clear c18
          try clear c19
          try clear c19b0
          try clear c21
          try clear c22
          try clear c22b0
          try clear c23
          try clear c23b0
          try clear c24
          try clear c24b0
          try clear c24b1
          try clear c25
          try clear p26
          try clear q26
          try clear hx26
          try clear hf26
          try clear c31
          try clear c32
          try clear c41
          try clear c42
          try clear c44
          try clear c45
          try clear hcz11_0
          try clear hcz11_1
          try clear hcz43_0
          try clear hcz43_1
          try clear hcz46_0
          try clear hcz46_1
          try clear hcz47_0
          try clear hcz47_1
          try clear hfz11_0
          try clear hfz11_1
          try clear hfz43_0
          try clear hfz43_1
          try clear hfz46_0
          try clear hfz46_1
          try clear hfz47_0
          try clear hfz47_1
          try clear hx125_0
          try clear hx26_0
          try clear p125
          try clear p2
          try clear p26
          try clear p6
          try clear q125
          try clear q26
          obtain ⟨kq, x70_33, rfl, HA, HJ33, HO_8, BK117, BK139, HB⟩ := hcut
          cases kq with
          | zero => exact absurd HA.out (by simp [laws_FnWideBytes.j3])
          | succ kj33 =>
           have H := HA.out
           clear HA
           simp only [laws_FnWideBytes.j3] at H
           by_cases c48 : x70_33 = true
           ·
            subst c48
            have H1 : (some false) = some r := by rw [if_pos rfl] at H; exact H
            clear H
            have H := H1
            clear H1
            obtain rfl := Option.some.inj H
            go_wp2
            go_ret
            exact ⟨by first | rfl | (simp [errW_none, errW_some] <;> rfl) | (simp [*, errW_none, errW_some] <;> rfl), by repeat (first | (with_reducible first | exact HB.out | apply below_alloc | apply pw_below_drewN | apply below_drew1 | refine below_set ?_ GE117.out | refine below_set ?_ GE139.out) | exact HB.out)⟩
           ·
            replace c48 := Bool.eq_false_iff.mpr c48
            subst c48
            have H1 : ((impl_WidePut.f a0_0 a0_1 l1 a2).bind fun bt140 => (if (l1.length : Int) < 16 then (some (!bt140.2)) else (if bt140.2 = true then (laws_FnWideBytes.j4 kj33 l1 x8_1 bt140.1 ((bt140.1.length : Int) != (l1.length : Int))) else (laws_FnWideBytes.j4 kj33 l1 x8_1 bt140.1 true)))) = some r := by rw [if_neg (show ¬ (false = true) by decide)] at H; exact H
            clear H
            have H := H1
            clear H1
            replace H := Option.bind_eq_some_iff.mp H
            obtain ⟨⟨t140, t143⟩, A490, H⟩ := H
            replace H : (if (l1.length : Int) < 16 then (some (!t143)) else (if t143 = true then (laws_FnWideBytes.j4 kj33 l1 x8_1 t140 ((t140.length : Int) != (l1.length : Int))) else (laws_FnWideBytes.j4 kj33 l1 x8_1 t140 true))) = some r := H
            have A49 := Aside0.mk A490
            clear A490
            by_cases c50 : (l1.length : Int) < 16
            ·
             rw [if_pos c50] at H
             have c50b0 : decide ((l1.length : Int) < 16) = true := decide_eq_true c50
             have c50b1 : decide (l1.length < 16) = true := decide_eq_true (by omega)
             clear c50
             obtain rfl := Option.some.inj H
             have hnb51 := NB117_139.out
             have hnc51 := NB139_117.out
             have hcz52_0 : wc.cell? ⟨gb117, 0, none⟩ = some (.int .u64 a0_0) := (blk_cell BK117.out 0).trans rfl
             have hcz52_1 : wc.cell? ⟨gb117, 1, none⟩ = some (.int .u64 a0_1) := (blk_cell BK117.out 1).trans rfl
             have hfz52_0 := blk_frozen BK117.out 0
             have hfz52_1 := blk_frozen BK117.out 1
             go_wp2_with (first | ((with_reducible refine gate_callee (f := 75) rfl ?_); refine goesL_ (some 75) rfl rfl Try.func75 (by kernel_rfl) rfl #[.agg #[.int .u64 a0_0, .int .u64 a0_1], .slice A1 l1.length c1, .bool a2] rfl (by (try simp only [List.map_toArray, List.map_cons, List.map_nil]); first | done | rfl | (simp only [List.length_drop, List.length_take]; rfl)) ?_; (with_reducible refine (impl_WidePut.calls a0_0 a0_1 _ _ l1 a2 t140 t143 _ ?side1 ?side2 A49.out).mono ?_); (case side1 => repeat (first | exact (Kd.C_below HR1.out HB.out) | (with_reducible refine Kd.C_alloc ?_ _) | (with_reducible refine Kd.C_drewN ?_ _) | (with_reducible refine Kd.C_drew ?_))); (case side2 => exact HC1.out); rintro e w53 ⟨v141, rfl, ho0, hb⟩; refine ⟨_, rfl, ?_⟩; have n0_ := Aside0.mk (Kd.R_below (by (with_reducible repeat (first | apply Kd.R_alloc | apply Kd.R_drewN | apply Kd.R_drew)); exact HO_8.out) hb); have n1_ := Aside0.mk (Kd.V_lower (Kd.V_mono (ok' := fun k_ => some k_ ≠ (.slice Ao15 x8_1.length co15 : Value).ownBlock ∧ k_ ≠ gb117 ∧ k_ ≠ gb139) ho0 (fun k_ hk_ => ⟨(Kd.fresh' (Kd.R_lt (by (with_reducible repeat (first | apply Kd.R_alloc | apply Kd.R_drewN | apply Kd.R_drew)); exact HO_8.out)) k_ hk_), (Kd.freshB (g := gb117) (o := .cells #[.int .u64 a0_0, .int .u64 a0_1] 24 (0, 0)) (by exact BK117.out) k_ hk_), (Kd.freshB (g := gb139) (o := .cells #[.int .u64 t136, .int .u64 t137] 24 (0, 0)) (by exact BK139.out) k_ hk_)⟩)) (below_size (by repeat (first | (with_reducible first | exact HB.out | apply below_alloc | apply pw_below_drewN | apply below_drew1 | refine below_set ?_ GE117.out | refine below_set ?_ GE139.out) | exact HB.out)))); have n2_ := Aside0.mk (blk_below (g := gb117) (o := .cells #[.int .u64 a0_0, .int .u64 a0_1] 24 (0, 0)) (by exact BK117.out) hb); have n3_ := Aside0.mk (blk_below (g := gb139) (o := .cells #[.int .u64 t136, .int .u64 t137] 24 (0, 0)) (by exact BK139.out) hb); have n4_ := Aside0.mk (below_step (by repeat (first | (with_reducible first | exact HB.out | apply below_alloc | apply pw_below_drewN | apply below_drew1 | refine below_set ?_ GE117.out | refine below_set ?_ GE139.out) | exact HB.out)) hb); clear HO_8; clear BK117; clear BK139; clear HB; have HO_8 := n0_; have HO142 := n1_; have BK117 := n2_; have BK139 := n3_; have HB := n4_; clear n0_ n1_ n2_ n3_ n4_; (try clear hb); (try clear hb2); (try clear hk); (try clear hi); (try clear ho0)))
             go_ret
             exact ⟨by first | rfl | (simp [errW_none, errW_some] <;> rfl) | (simp [*, errW_none, errW_some] <;> rfl), by repeat (first | (with_reducible first | exact HB.out | apply below_alloc | apply pw_below_drewN | apply below_drew1 | refine below_set ?_ GE117.out | refine below_set ?_ GE139.out) | exact HB.out)⟩
            ·
             rw [if_neg c50] at H
             have c50b0 : decide ((l1.length : Int) < 16) = false := decide_eq_false c50
             have c50b1 : decide (l1.length < 16) = false := decide_eq_false (by omega)
             clear c50
             have HC54 := Aside0.mk H
             clear H
             have hnb55 := NB117_139.out
             have hnc55 := NB139_117.out
             have hcz56_0 : wc.cell? ⟨gb117, 0, none⟩ = some (.int .u64 a0_0) := (blk_cell BK117.out 0).trans rfl
             have hcz56_1 : wc.cell? ⟨gb117, 1, none⟩ = some (.int .u64 a0_1) := (blk_cell BK117.out 1).trans rfl
             have hfz56_0 := blk_frozen BK117.out 0
             have hfz56_1 := blk_frozen BK117.out 1
             go_upto_region 26 with (first | ((with_reducible refine gate_callee (f := 75) rfl ?_); refine goesL_ (some 75) rfl rfl Try.func75 (by kernel_rfl) rfl #[.agg #[.int .u64 a0_0, .int .u64 a0_1], .slice A1 l1.length c1, .bool a2] rfl (by (try simp only [List.map_toArray, List.map_cons, List.map_nil]); first | done | rfl | (simp only [List.length_drop, List.length_take]; rfl)) ?_; (with_reducible refine (impl_WidePut.calls a0_0 a0_1 _ _ l1 a2 t140 t143 _ ?side1 ?side2 A49.out).mono ?_); (case side1 => repeat (first | exact (Kd.C_below HR1.out HB.out) | (with_reducible refine Kd.C_alloc ?_ _) | (with_reducible refine Kd.C_drewN ?_ _) | (with_reducible refine Kd.C_drew ?_))); (case side2 => exact HC1.out); rintro e w57 ⟨v141, rfl, ho0, hb⟩; refine ⟨_, rfl, ?_⟩; have n0_ := Aside0.mk (Kd.R_below (by (with_reducible repeat (first | apply Kd.R_alloc | apply Kd.R_drewN | apply Kd.R_drew)); exact HO_8.out) hb); have n1_ := Aside0.mk (Kd.V_lower (Kd.V_mono (ok' := fun k_ => some k_ ≠ (.slice Ao15 x8_1.length co15 : Value).ownBlock ∧ k_ ≠ gb117 ∧ k_ ≠ gb139) ho0 (fun k_ hk_ => ⟨(Kd.fresh' (Kd.R_lt (by (with_reducible repeat (first | apply Kd.R_alloc | apply Kd.R_drewN | apply Kd.R_drew)); exact HO_8.out)) k_ hk_), (Kd.freshB (g := gb117) (o := .cells #[.int .u64 a0_0, .int .u64 a0_1] 24 (0, 0)) (by exact BK117.out) k_ hk_), (Kd.freshB (g := gb139) (o := .cells #[.int .u64 t136, .int .u64 t137] 24 (0, 0)) (by exact BK139.out) k_ hk_)⟩)) (below_size (by repeat (first | (with_reducible first | exact HB.out | apply below_alloc | apply pw_below_drewN | apply below_drew1 | refine below_set ?_ GE117.out | refine below_set ?_ GE139.out) | exact HB.out)))); have n2_ := Aside0.mk (blk_below (g := gb117) (o := .cells #[.int .u64 a0_0, .int .u64 a0_1] 24 (0, 0)) (by exact BK117.out) hb); have n3_ := Aside0.mk (blk_below (g := gb139) (o := .cells #[.int .u64 t136, .int .u64 t137] 24 (0, 0)) (by exact BK139.out) hb); have n4_ := Aside0.mk (below_step (by repeat (first | (with_reducible first | exact HB.out | apply below_alloc | apply pw_below_drewN | apply below_drew1 | refine below_set ?_ GE117.out | refine below_set ?_ GE139.out) | exact HB.out)) hb); clear HO_8; clear BK117; clear BK139; clear HB; have HO_8 := n0_; have HO142 := n1_; have BK117 := n2_; have BK139 := n3_; have HB := n4_; clear n0_ n1_ n2_ n3_ n4_; (try clear hb); (try clear hb2); (try clear hk); (try clear hi); (try clear ho0)))
             (try simp only [Act.put, List.setIfInBounds_toArray, List.set_cons_zero, List.set_cons_succ])
             go_cut [91] (fun v91 wc => ∃ (kq : Nat) (x91_53 : Bool), v91 = .bool x91_53 ∧ Aside0 (laws_FnWideBytes.j4 kq l1 x8_1 t140 x91_53 = some r) ∧ Aside0 (kq ≤ kj33) ∧ Aside0 (Kd.R (Kd.int .u8) 5 wc w.heap.size (fun _ => True) (.slice Ao15 x8_1.length co15) x8_1) ∧ Aside0 (Kd.V (Kd.int .u8) 5 wc w.heap.size (fun k_ => some k_ ≠ ((.slice Ao15 x8_1.length co15) : Value).ownBlock ∧ k_ ≠ gb117 ∧ k_ ≠ gb139) v141 t140) ∧ Aside0 (wc.heap[gb117]? = some (.cells #[.int .u64 a0_0, .int .u64 a0_1] 24 (0, 0))) ∧ Aside0 (wc.heap[gb139]? = some (.cells #[.int .u64 t136, .int .u64 t137] 24 (0, 0))) ∧ Aside0 (Below w.heap.size w wc))
             case first =>
              have H := HC54.out
              clear HC54
              by_cases c58 : t143 = true
              ·
               subst c58
               have H1 : (laws_FnWideBytes.j4 kj33 l1 x8_1 t140 ((t140.length : Int) != (l1.length : Int))) = some r := by rw [if_pos rfl] at H; exact H
               clear H
               have H := H1
               clear H1
               have H' := Aside0.mk H
               clear H
               obtain ⟨Ao59, co59, eo59⟩ := Kd.V_slice HO142.out
               subst eo59
               go_wp2
               go_meet
               case rel => exact ⟨_, (((t140.length : Int) != (l1.length : Int))), (by first | rfl | (simp; done) | (simp [*]; done)), H', ⟨by have := HK1.out; have := HJ33.out; first | omega | exact Nat.le_refl _⟩, ⟨by (try simp only [hl8_1]); (with_reducible repeat (first | apply Kd.R_alloc | apply Kd.R_drewN | apply Kd.R_drew)); exact HO_8.out⟩, ⟨by (try simp only [hl8_1]); (with_reducible repeat (first | apply Kd.V_alloc | apply Kd.V_drewN | apply Kd.V_drew)); exact HO142.out⟩, ⟨by (try simp only [hl8_1]); (with_reducible repeat (first | refine blk_drewN ?_ _ | refine blk_drew ?_ | refine blk_alloc ?_ _)); exact BK117.out⟩, ⟨by (try simp only [hl8_1]); (with_reducible repeat (first | refine blk_drewN ?_ _ | refine blk_drew ?_ | refine blk_alloc ?_ _)); exact BK139.out⟩, ⟨by repeat (first | (with_reducible first | exact HB.out | apply below_alloc | apply pw_below_drewN | apply below_drew1 | refine below_set ?_ GE117.out | refine below_set ?_ GE139.out) | exact HB.out)⟩⟩
              ·
               replace c58 := Bool.eq_false_iff.mpr c58
               subst c58
               have H1 : (laws_FnWideBytes.j4 kj33 l1 x8_1 t140 true) = some r := by rw [if_neg (show ¬ (false = true) by decide)] at H; exact H
               clear H
               have H := H1
               clear H1
               have H' := Aside0.mk H
               clear H
               go_wp2
               go_meet
               case rel => exact ⟨_, (true), (by first | rfl | (simp; done) | (simp [*]; done)), H', ⟨by have := HK1.out; have := HJ33.out; first | omega | exact Nat.le_refl _⟩, ⟨by (try simp only [hl8_1]); (with_reducible repeat (first | apply Kd.R_alloc | apply Kd.R_drewN | apply Kd.R_drew)); exact HO_8.out⟩, ⟨by (try simp only [hl8_1]); (with_reducible repeat (first | apply Kd.V_alloc | apply Kd.V_drewN | apply Kd.V_drew)); exact HO142.out⟩, ⟨by (try simp only [hl8_1]); (with_reducible repeat (first | refine blk_drewN ?_ _ | refine blk_drew ?_ | refine blk_alloc ?_ _)); exact BK117.out⟩, ⟨by (try simp only [hl8_1]); (with_reducible repeat (first | refine blk_drewN ?_ _ | refine blk_drew ?_ | refine blk_alloc ?_ _)); exact BK139.out⟩, ⟨by repeat (first | (with_reducible first | exact HB.out | apply below_alloc | apply pw_below_drewN | apply below_drew1 | refine below_set ?_ GE117.out | refine below_set ?_ GE139.out) | exact HB.out)⟩⟩
             case rest =>
              clear HC54
              try clear c1
              try clear p1
              try clear q1
              try clear hx1
              try clear c2
              try clear p2
              try clear q2
              try clear hx2
              try clear c3
              try clear c4
              try clear c4b0
              try clear c4b1
              try clear c5
              try clear c6
              try clear c6b0
              try clear c6b1
              try clear p6
              try clear c7
              try clear c9
              try clear c9b0
              try clear c9b1
              try clear p12
              try clear q12
              try clear hx12
              try clear c16
              try clear c16b0
              try clear c18
              try clear c19
              try clear c19b0
              try clear c21
              try clear c22
              try clear c22b0
              try clear c23
              try clear c23b0
              try clear c24
              try clear c24b0
              try clear c24b1
              try clear c25
              try clear p26
              try clear q26
              try clear hx26
              try clear hf26
              try clear c31
              try clear c32
              try clear c41
              try clear c42
              try clear c44
              try clear c45
              try clear c48
              try clear c50
              try clear c50b0
              try clear c50b1
              try clear c51
              try clear c55
              try clear c58
              try clear hcz11_0
              try clear hcz11_1
              try clear hcz43_0
              try clear hcz43_1
              try clear hcz46_0
              try clear hcz46_1
              try clear hcz47_0
              try clear hcz47_1
              try clear hcz52_0
              try clear hcz52_1
              try clear hcz56_0
              try clear hcz56_1
              try clear hfz11_0
              try clear hfz11_1
              try clear hfz43_0
              try clear hfz43_1
              try clear hfz46_0
              try clear hfz46_1
              try clear hfz47_0
              try clear hfz47_1
              try clear hfz52_0
              try clear hfz52_1
              try clear hfz56_0
              try clear hfz56_1
              try clear hx125_0
              try clear hx26_0
              try clear p1
              try clear p12
              try clear p125
              try clear p2
              try clear p26
              try clear p6
              try clear q1
              try clear q12
              try clear q125
              try clear q2
              try clear q26
              obtain ⟨kq, x91_53, rfl, HA, HJ53, HO_8, HO_14, BK117, BK139, HB⟩ := hcut
              cases kq with
              | zero => exact absurd HA.out (by simp [laws_FnWideBytes.j4])
              | succ kj53 =>
               have H := HA.out
               clear HA
               simp only [laws_FnWideBytes.j4] at H
               by_cases c60 : x91_53 = true
               ·
                subst c60
                have H1 : (some false) = some r := by rw [if_pos rfl] at H; exact H
                clear H
                have H := H1
                clear H1
                obtain rfl := Option.some.inj H
                go_wp2
                go_ret
                exact ⟨by first | rfl | (simp [errW_none, errW_some] <;> rfl) | (simp [*, errW_none, errW_some] <;> rfl), by repeat (first | (with_reducible first | exact HB.out | apply below_alloc | apply pw_below_drewN | apply below_drew1 | refine below_set ?_ GE117.out | refine below_set ?_ GE139.out) | exact HB.out)⟩
               ·
                replace c60 := Bool.eq_false_iff.mpr c60
                subst c60
                have H1 : (laws_FnWideBytes.l2 kj53 l1 x8_1 t140 (t140.length : Int) 0) = some r := by rw [if_neg (show ¬ (false = true) by decide)] at H; exact H
                clear H
                have H := H1
                clear H1
                have H' := Aside0.mk H
                clear H
                obtain ⟨Ao61, co61, eo61⟩ := Kd.V_slice HO_14.out
                subst eo61
                go_wp2
                go_loopg [94] kj53 (fun kq v94 w' => ∃ (x94_4 : Int), v94 = .int .i64 x94_4 ∧ Aside0 (laws_FnWideBytes.l2 kq l1 x8_1 t140 (t140.length : Int) x94_4 = some r) ∧ Aside0 (kq ≤ kj53) ∧ Aside0 (Kd.R (Kd.int .u8) 5 w' w.heap.size (fun _ => True) (.slice Ao15 x8_1.length co15) x8_1) ∧ Aside0 (Kd.V (Kd.int .u8) 5 w' w.heap.size (fun k_ => some k_ ≠ ((.slice Ao15 x8_1.length co15) : Value).ownBlock ∧ k_ ≠ gb117 ∧ k_ ≠ gb139) (.slice Ao61 t140.length co61) t140) ∧ Aside0 (w'.heap[gb117]? = some (.cells #[.int .u64 a0_0, .int .u64 a0_1] 24 (0, 0))) ∧ Aside0 (w'.heap[gb139]? = some (.cells #[.int .u64 t136, .int .u64 t137] 24 (0, 0))) ∧ Aside0 (Below w.heap.size w w'))
                case atStart => exact ⟨(0), (by first | rfl | (simp; done) | (simp [*]; done)), H', ⟨Nat.le_refl _⟩, ⟨by (try simp only [hl8_1]); (with_reducible repeat (first | apply Kd.R_alloc | apply Kd.R_drewN | apply Kd.R_drew)); exact HO_8.out⟩, ⟨by (try simp only [hl8_1]); (with_reducible repeat (first | apply Kd.V_alloc | apply Kd.V_drewN | apply Kd.V_drew)); exact HO_14.out⟩, ⟨by (try simp only [hl8_1]); (with_reducible repeat (first | refine blk_drewN ?_ _ | refine blk_drew ?_ | refine blk_alloc ?_ _)); exact BK117.out⟩, ⟨by (try simp only [hl8_1]); (with_reducible repeat (first | refine blk_drewN ?_ _ | refine blk_drew ?_ | refine blk_alloc ?_ _)); exact BK139.out⟩, ⟨by repeat (first | (with_reducible first | exact HB.out | apply below_alloc | apply pw_below_drewN | apply below_drew1 | refine below_set ?_ GE117.out | refine below_set ?_ GE139.out) | exact HB.out)⟩⟩
                case round =>
                 clear H'
                 try clear c1
                 try clear p1
                 try clear q1
                 try clear hx1
                 try clear c2
                 try clear p2
                 try clear q2
                 try clear hx2
                 try clear c3
                 try clear c4
                 try clear c4b0
                 try clear c4b1
                 try clear c5
                 try clear c6
                 try clear c6b0
                 try clear c6b1
                 try clear p6
                 try clear c7
                 try clear c9
                 try clear c9b0
                 try clear c9b1
                 try clear p12
                 try clear q12
                 try clear hx12
                 try clear c16
                 try clear c16b0
                 try clear c18
                 try clear c19
                 try clear c19b0
                 try clear c21
                 try clear c22
                 try clear c22b0
                 try clear c23
                 try clear c23b0
                 try clear c24
                 try clear c24b0
                 try clear c24b1
                 try clear c25
                 try clear p26
                 try clear q26
                 try clear hx26
                 try clear hf26
                 try clear c31
                 try clear c32
                 try clear c41
                 try clear c42
                 try clear c44
                 try clear c45
                 try clear c48
                 try clear c50
                 try clear c50b0
                 try clear c50b1
                 try clear c51
                 try clear c55
                 try clear c58
                 try clear c60
                 try clear hcz11_0
                 try clear hcz11_1
                 try clear hcz43_0
                 try clear hcz43_1
                 try clear hcz46_0
                 try clear hcz46_1
                 try clear hcz47_0
                 try clear hcz47_1
                 try clear hcz52_0
                 try clear hcz52_1
                 try clear hcz56_0
                 try clear hcz56_1
                 try clear hfz11_0
                 try clear hfz11_1
                 try clear hfz43_0
                 try clear hfz43_1
                 try clear hfz46_0
                 try clear hfz46_1
                 try clear hfz47_0
                 try clear hfz47_1
                 try clear hfz52_0
                 try clear hfz52_1
                 try clear hfz56_0
                 try clear hfz56_1
                 try clear hx125_0
                 try clear hx26_0
                 try clear p1
                 try clear p12
                 try clear p125
                 try clear p2
                 try clear p26
                 try clear p6
                 try clear q1
                 try clear q12
                 try clear q125
                 try clear q2
                 try clear q26
                 obtain ⟨x94_4, rfl, HA, HK4, HO_8, HO_14, BK117, BK139, HB⟩ := hrel
                 cases gk with
                 | zero => exact absurd HA.out (by simp [laws_FnWideBytes.l2])
                 | succ k4 =>
                  have H := HA.out
                  clear HA
                  simp only [laws_FnWideBytes.l2] at H
                  by_cases c62 : x94_4 < (t140.length : Int)
                  ·
                   rw [if_pos c62] at H
                   have c62b0 : decide (x94_4 < (t140.length : Int)) = true := decide_eq_true c62
                   clear c62
                   by_cases c63 : x94_4 < 16
                   ·
                    rw [if_pos c63] at H
                    have c63b0 : decide (x94_4 < 16) = true := decide_eq_true c63
                    clear c63
                    by_cases c64 : 0 ≤ x94_4
                    ·
                     rw [if_pos c64] at H
                     have c64b0 : decide (0 ≤ x94_4) = true := decide_eq_true c64
                     clear c64
                     by_cases c65 : x94_4 < (t140.length : Int)
                     ·
                      rw [if_pos c65] at H
                      have c65b0 : decide (x94_4 < (t140.length : Int)) = true := decide_eq_true c65
                      clear c65
                      by_cases c66 : x94_4 < (x8_1.length : Int)
                      ·
                       rw [if_pos c66] at H
                       have c66b0 : decide (x94_4 < (x8_1.length : Int)) = true := decide_eq_true c66
                       clear c66
                       by_cases c67 : (rd t140 x94_4) = (rd x8_1 x94_4)
                       ·
                        rw [if_pos c67] at H
                        have c67b0 : ((rd t140 x94_4) == (rd x8_1 x94_4)) = true := beq_iff_eq.mpr c67
                        have c67b1 : ((rd t140 x94_4) != (rd x8_1 x94_4)) = false := bne_eq_false_iff_eq.mpr c67
                        clear c67
                        by_cases c68 : x94_4 ≥ 16
                        ·
                         rw [if_pos c68] at H
                         have c68b0 : decide (16 ≤ x94_4) = true := decide_eq_true c68
                         clear c68
                         by_cases c69 : x94_4 < (l1.length : Int)
                         ·
                          rw [if_pos c69] at H
                          have c69b0 : decide (x94_4 < (l1.length : Int)) = true := decide_eq_true c69
                          clear c69
                          by_cases c70 : (rd t140 x94_4) = (rd l1 x94_4)
                          ·
                           rw [if_pos c70] at H
                           have c70b0 : ((rd t140 x94_4) == (rd l1 x94_4)) = true := beq_iff_eq.mpr c70
                           have c70b1 : ((rd t140 x94_4) != (rd l1 x94_4)) = false := bne_eq_false_iff_eq.mpr c70
                           clear c70
                           have H' := Aside0.mk H
                           clear H
                           try go_wp2
                           have n0_ := Aside0.mk (Kd.R_drew HO_8.out)
                           have n1_ := Aside0.mk (Kd.V_drew HO_14.out)
                           have n2_ := Aside0.mk (blk_drew BK117.out)
                           have n3_ := Aside0.mk (blk_drew BK139.out)
                           have n4_ := Aside0.mk (below_drew1 HB.out)
                           clear HO_8
                           clear HO_14
                           clear BK117
                           clear BK139
                           clear HB
                           have HO_8 := n0_
                           have HO_14 := n1_
                           have BK117 := n2_
                           have BK139 := n3_
                           have HB := n4_
                           clear n0_ n1_ n2_ n3_ n4_
                           have p144 : 0 ≤ (x94_4 : Int) := of_decide_eq_true (by first | (with_reducible assumption) | assumption)
                           have q144 : x94_4 < (t140.length : Int) := of_decide_eq_true (by first | (with_reducible assumption) | assumption)
                           obtain ⟨ad144, e144, hx144_0⟩ := Kd.at_int (Kd.V_reads' HO_14.out).2.2 x94_4 p144 q144
                           cases e144
                           replace p144 := eq_true p144
                           replace q144 := eq_true q144
                           have p145 : 0 ≤ (x94_4 : Int) := of_decide_eq_true (by first | (with_reducible assumption) | assumption)
                           have q145 : x94_4 < (x8_1.length : Int) := of_decide_eq_true (by first | (with_reducible assumption) | assumption)
                           obtain ⟨ad145, e145, hx145_0⟩ := Kd.at_int (Kd.R_reads' HO_8.out).2.2 x94_4 p145 q145
                           cases e145
                           replace p145 := eq_true p145
                           replace q145 := eq_true q145
                           have p146 : 0 ≤ (x94_4 : Int) := of_decide_eq_true (by first | (with_reducible assumption) | assumption)
                           have q146 : x94_4 < (t140.length : Int) := of_decide_eq_true (by first | (with_reducible assumption) | assumption)
                           obtain ⟨ad146, e146, hx146_0⟩ := Kd.at_int (Kd.V_reads' HO_14.out).2.2 x94_4 p146 q146
                           obtain rfl : ad144 = ad146 := (by injection e146)
                           replace p146 := eq_true p146
                           replace q146 := eq_true q146
                           have p147 : 0 ≤ (x94_4 : Int) := of_decide_eq_true (by first | (with_reducible assumption) | assumption)
                           have q147 : x94_4 < (l1.length : Int) := of_decide_eq_true (by first | (with_reducible assumption) | assumption)
                           obtain ⟨ad147, e147, hx147_0⟩ := Kd.at_int HR1.out x94_4 p147 q147
                           have hw147_0 := hx147_0
                           cases e147
                           replace hx147_0 := (HB.out.cell (World.block_lt_of_cell? w _ hx147_0)).trans hx147_0
                           replace p147 := eq_true p147
                           replace q147 := eq_true q147
                           refine start_ (n := 28) (S := fun w' => w'.cell? (ad144.add (x94_4).toNat) = some (.int .u8 (rd t140 x94_4)) ∧ w'.cell? (ad145.add (x94_4).toNat) = some (.int .u8 (rd x8_1 x94_4)) ∧ w'.cell? (ad144.add (x94_4).toNat) = some (.int .u8 (rd t140 x94_4)) ∧ w'.cell? (ad147.add (x94_4).toNat) = some (.int .u8 (rd l1 x94_4))) (ds := []) #[false, false, false, false, false, false, false, false, false, false, false, false, false, false, false, false, false, false, false, false, false, false, false, false, false, false, false, false] (by kernel_rfl) rfl rfl ⟨hx144_0, hx145_0, hx146_0, ((HB.out.cell (World.block_lt_of_cell? w _ hw147_0)).trans hw147_0)⟩ (fun hHeld => ?_); refine with_tabW laws_FnWideBytes.tab31 laws_FnWideBytes.bits31 (fun HT_ HW_ => ?_)
                           generalize wr.drew = w71 at HO_8 HO_14 BK117 BK139 HB hx144_0 hx145_0 hx146_0 hx147_0 hHeld ⊢
                           refine pure_ (i := 0) (N := some 97) (v := ?_) (a' := ?_) #[true, false, false, false, false, false, false, false, false, false, false, false, false, false, false, false, false, false, false, false, false, false, false, false, false, false, false, false] rfl rfl (any_of HT_.out (by kernel_rfl)) (fun _ _ _ h => h) (Or.inl ⟨by rfl, ?_⟩) ?_ ?_
                           rotate_left
                           ·
                            intro w'
                            go_simp
                            with_reducible rfl
                           rotate_left
                           ·
                            simp only [Act.put, List.setIfInBounds_toArray, List.set_cons_zero, List.set_cons_succ, i64_w, i32_w]
                            rfl
                           refine pure_ (i := 1) (N := some 98) (v := ?_) (a' := ?_) #[true, true, false, false, false, false, false, false, false, false, false, false, false, false, false, false, false, false, false, false, false, false, false, false, false, false, false, false] rfl rfl (any_of HT_.out (by kernel_rfl)) (fun _ _ _ h => h) (Or.inl ⟨by rfl, ?_⟩) ?_ ?_
                           rotate_left
                           ·
                            intro w'
                            go_simp
                            with_reducible rfl
                           rotate_left
                           ·
                            simp only [Act.put, List.setIfInBounds_toArray, List.set_cons_zero, List.set_cons_succ, i64_w, i32_w]
                            rfl
                           refine pure_ (i := 2) (N := some 99) (v := ?_) (a' := ?_) #[true, true, true, false, false, false, false, false, false, false, false, false, false, false, false, false, false, false, false, false, false, false, false, false, false, false, false, false] rfl rfl (any_of HT_.out (by kernel_rfl)) (fun _ _ _ h => h) (Or.inl ⟨by rfl, ?_⟩) ?_ ?_
                           rotate_left
                           ·
                            intro w'
                            go_simp
                            with_reducible rfl
                           rotate_left
                           ·
                            simp only [Act.put, List.setIfInBounds_toArray, List.set_cons_zero, List.set_cons_succ, i64_w, i32_w]
                            rfl
                           refine pure_ (i := 3) (N := some 100) (v := ?_) (a' := ?_) #[true, true, true, true, false, false, false, false, false, false, false, false, false, false, false, false, false, false, false, false, false, false, false, false, false, false, false, false] rfl rfl (any_of HT_.out (by kernel_rfl)) (fun _ _ _ h => h) (Or.inl ⟨by rfl, ?_⟩) ?_ ?_
                           rotate_left
                           ·
                            intro w'
                            go_simp
                            with_reducible rfl
                           rotate_left
                           ·
                            simp only [Act.put, List.setIfInBounds_toArray, List.set_cons_zero, List.set_cons_succ, i64_w, i32_w]
                            rfl
                           refine pure_ (i := 4) (N := some 101) (v := ?_) (a' := ?_) #[true, true, true, true, true, false, false, false, false, false, false, false, false, false, false, false, false, false, false, false, false, false, false, false, false, false, false, false] rfl rfl (any_of HT_.out (by kernel_rfl)) (fun _ _ _ h => h) (Or.inl ⟨by rfl, ?_⟩) ?_ ?_
                           rotate_left
                           ·
                            intro w'
                            go_simp
                            with_reducible rfl
                           rotate_left
                           ·
                            simp only [Act.put, List.setIfInBounds_toArray, List.set_cons_zero, List.set_cons_succ, i64_w, i32_w]
                            rfl
                           refine pure_ (i := 5) (N := some 102) (v := ?_) (a' := ?_) #[true, true, true, true, true, true, false, false, false, false, false, false, false, false, false, false, false, false, false, false, false, false, false, false, false, false, false, false] rfl rfl (any_of HT_.out (by kernel_rfl)) (fun _ _ _ h => h) (Or.inl ⟨by rfl, ?_⟩) ?_ ?_
                           rotate_left
                           ·
                            intro w'
                            go_simp
                            with_reducible rfl
                           rotate_left
                           ·
                            simp only [Act.put, List.setIfInBounds_toArray, List.set_cons_zero, List.set_cons_succ, i64_w, i32_w]
                            rfl
                           refine pure_ (i := 7) (N := some 104) (v := ?_) (a' := ?_) #[true, true, true, true, true, true, false, true, false, false, false, false, false, false, false, false, false, false, false, false, false, false, false, false, false, false, false, false] rfl rfl (any_of HT_.out (by kernel_rfl)) (fun _ _ _ h => h) (Or.inl ⟨by rfl, ?_⟩) ?_ ?_
                           rotate_left
                           ·
                            intro w'
                            go_simp
                            with_reducible rfl
                           rotate_left
                           ·
                            simp only [Act.put, List.setIfInBounds_toArray, List.set_cons_zero, List.set_cons_succ, i64_w, i32_w]
                            rfl
                           refine pure_ (i := 8) (N := some 105) (v := ?_) (a' := ?_) #[true, true, true, true, true, true, false, true, true, false, false, false, false, false, false, false, false, false, false, false, false, false, false, false, false, false, false, false] rfl rfl (any_of HT_.out (by kernel_rfl)) (fun _ _ _ h => h) (Or.inl ⟨by rfl, ?_⟩) ?_ ?_
                           rotate_left
                           ·
                            intro w'
                            go_simp
                            with_reducible rfl
                           rotate_left
                           ·
                            simp only [Act.put, List.setIfInBounds_toArray, List.set_cons_zero, List.set_cons_succ, i64_w, i32_w]
                            rfl
                           refine pure_ (i := 9) (N := some 106) (v := ?_) (a' := ?_) #[true, true, true, true, true, true, false, true, true, true, false, false, false, false, false, false, false, false, false, false, false, false, false, false, false, false, false, false] rfl rfl (any_of HT_.out (by kernel_rfl)) (fun _ _ _ h => h) (Or.inl ⟨by rfl, ?_⟩) ?_ ?_
                           rotate_left
                           ·
                            intro w'
                            go_simp
                            with_reducible rfl
                           rotate_left
                           ·
                            simp only [Act.put, List.setIfInBounds_toArray, List.set_cons_zero, List.set_cons_succ, i64_w, i32_w]
                            rfl
                           refine take_ (i := 6) (N := some 103) (v := ?_) (a' := ?_) #[true, true, true, true, true, true, true, true, true, true, false, false, false, false, false, false, false, false, false, false, false, false, false, false, false, false, false, false] rfl rfl (take_ofW HT_.out HW_.out (by kernel_rfl)) (fun _ _ _ h => h) (Or.inl ⟨by rfl, ?_⟩) hHeld ?_ ?_
                           rotate_left
                           ·
                            rintro w' ⟨s0, s1, s2, s3⟩
                            go_simp
                            with_reducible rfl
                           rotate_left
                           ·
                            simp only [Act.put, List.setIfInBounds_toArray, List.set_cons_zero, List.set_cons_succ, i64_w, i32_w]
                            rfl
                           refine take_ (i := 10) (N := some 107) (v := ?_) (a' := ?_) #[true, true, true, true, true, true, true, true, true, true, true, false, false, false, false, false, false, false, false, false, false, false, false, false, false, false, false, false] rfl rfl (take_ofW HT_.out HW_.out (by kernel_rfl)) (fun _ _ _ h => h) (Or.inl ⟨by rfl, ?_⟩) hHeld ?_ ?_
                           rotate_left
                           ·
                            rintro w' ⟨s0, s1, s2, s3⟩
                            go_simp
                            with_reducible rfl
                           rotate_left
                           ·
                            simp only [Act.put, List.setIfInBounds_toArray, List.set_cons_zero, List.set_cons_succ, i64_w, i32_w]
                            rfl
                           refine pure_ (i := 11) (N := some 108) (v := ?_) (a' := ?_) #[true, true, true, true, true, true, true, true, true, true, true, true, false, false, false, false, false, false, false, false, false, false, false, false, false, false, false, false] rfl rfl (any_of HT_.out (by kernel_rfl)) (fun _ _ _ h => h) (Or.inl ⟨by rfl, ?_⟩) ?_ ?_
                           rotate_left
                           ·
                            intro w'
                            go_simp
                            with_reducible rfl
                           rotate_left
                           ·
                            simp only [Act.put, List.setIfInBounds_toArray, List.set_cons_zero, List.set_cons_succ, i64_w, i32_w]
                            rfl
                           refine pure_ (i := 12) (N := some 109) (v := ?_) (a' := ?_) #[true, true, true, true, true, true, true, true, true, true, true, true, true, false, false, false, false, false, false, false, false, false, false, false, false, false, false, false] rfl rfl (any_of HT_.out (by kernel_rfl)) (fun _ _ _ h => h) (Or.inl ⟨by rfl, ?_⟩) ?_ ?_
                           rotate_left
                           ·
                            intro w'
                            go_simp
                            with_reducible rfl
                           rotate_left
                           ·
                            simp only [Act.put, List.setIfInBounds_toArray, List.set_cons_zero, List.set_cons_succ, i64_w, i32_w]
                            rfl
                           refine pure_ (i := 13) (N := some 110) (v := ?_) (a' := ?_) #[true, true, true, true, true, true, true, true, true, true, true, true, true, true, false, false, false, false, false, false, false, false, false, false, false, false, false, false] rfl rfl (any_of HT_.out (by kernel_rfl)) (fun _ _ _ h => h) (Or.inl ⟨by rfl, ?_⟩) ?_ ?_
                           rotate_left
                           ·
                            intro w'
                            go_simp
                            with_reducible rfl
                           rotate_left
                           ·
                            simp only [Act.put, List.setIfInBounds_toArray, List.set_cons_zero, List.set_cons_succ, i64_w, i32_w]
                            rfl
                           refine pure_ (i := 14) (N := some 111) (v := ?_) (a' := ?_) #[true, true, true, true, true, true, true, true, true, true, true, true, true, true, true, false, false, false, false, false, false, false, false, false, false, false, false, false] rfl rfl (any_of HT_.out (by kernel_rfl)) (fun _ _ _ h => h) (Or.inl ⟨by rfl, ?_⟩) ?_ ?_
                           rotate_left
                           ·
                            intro w'
                            go_simp
                            with_reducible rfl
                           rotate_left
                           ·
                            simp only [Act.put, List.setIfInBounds_toArray, List.set_cons_zero, List.set_cons_succ, i64_w, i32_w]
                            rfl
                           refine pure_ (i := 15) (N := some 112) (v := ?_) (a' := ?_) #[true, true, true, true, true, true, true, true, true, true, true, true, true, true, true, true, false, false, false, false, false, false, false, false, false, false, false, false] rfl rfl (any_of HT_.out (by kernel_rfl)) (fun _ _ _ h => h) (Or.inl ⟨by rfl, ?_⟩) ?_ ?_
                           rotate_left
                           ·
                            intro w'
                            go_simp
                            with_reducible rfl
                           rotate_left
                           ·
                            simp only [Act.put, List.setIfInBounds_toArray, List.set_cons_zero, List.set_cons_succ, i64_w, i32_w]
                            rfl
                           refine pure_ (i := 16) (N := some 113) (v := ?_) (a' := ?_) #[true, true, true, true, true, true, true, true, true, true, true, true, true, true, true, true, true, false, false, false, false, false, false, false, false, false, false, false] rfl rfl (any_of HT_.out (by kernel_rfl)) (fun _ _ _ h => h) (Or.inl ⟨by rfl, ?_⟩) ?_ ?_
                           rotate_left
                           ·
                            intro w'
                            go_simp
                            with_reducible rfl
                           rotate_left
                           ·
                            simp only [Act.put, List.setIfInBounds_toArray, List.set_cons_zero, List.set_cons_succ, i64_w, i32_w]
                            rfl
                           refine pure_ (i := 17) (N := some 114) (v := ?_) (a' := ?_) #[true, true, true, true, true, true, true, true, true, true, true, true, true, true, true, true, true, true, false, false, false, false, false, false, false, false, false, false] rfl rfl (any_of HT_.out (by kernel_rfl)) (fun _ _ _ h => h) (Or.inl ⟨by rfl, ?_⟩) ?_ ?_
                           rotate_left
                           ·
                            intro w'
                            go_simp
                            with_reducible rfl
                           rotate_left
                           ·
                            simp only [Act.put, List.setIfInBounds_toArray, List.set_cons_zero, List.set_cons_succ, i64_w, i32_w]
                            rfl
                           refine pure_ (i := 18) (N := some 115) (v := ?_) (a' := ?_) #[true, true, true, true, true, true, true, true, true, true, true, true, true, true, true, true, true, true, true, false, false, false, false, false, false, false, false, false] rfl rfl (any_of HT_.out (by kernel_rfl)) (fun _ _ _ h => h) (Or.inl ⟨by rfl, ?_⟩) ?_ ?_
                           rotate_left
                           ·
                            intro w'
                            go_simp
                            with_reducible rfl
                           rotate_left
                           ·
                            simp only [Act.put, List.setIfInBounds_toArray, List.set_cons_zero, List.set_cons_succ, i64_w, i32_w]
                            rfl
                           refine pure_ (i := 19) (N := some 116) (v := ?_) (a' := ?_) #[true, true, true, true, true, true, true, true, true, true, true, true, true, true, true, true, true, true, true, true, false, false, false, false, false, false, false, false] rfl rfl (any_of HT_.out (by kernel_rfl)) (fun _ _ _ h => h) (Or.inl ⟨by rfl, ?_⟩) ?_ ?_
                           rotate_left
                           ·
                            intro w'
                            go_simp
                            with_reducible rfl
                           rotate_left
                           ·
                            simp only [Act.put, List.setIfInBounds_toArray, List.set_cons_zero, List.set_cons_succ, i64_w, i32_w]
                            rfl
                           refine pure_ (i := 21) (N := some 118) (v := ?_) (a' := ?_) #[true, true, true, true, true, true, true, true, true, true, true, true, true, true, true, true, true, true, true, true, false, true, false, false, false, false, false, false] rfl rfl (any_of HT_.out (by kernel_rfl)) (fun _ _ _ h => h) (Or.inl ⟨by rfl, ?_⟩) ?_ ?_
                           rotate_left
                           ·
                            intro w'
                            go_simp
                            with_reducible rfl
                           rotate_left
                           ·
                            simp only [Act.put, List.setIfInBounds_toArray, List.set_cons_zero, List.set_cons_succ, i64_w, i32_w]
                            rfl
                           refine pure_ (i := 22) (N := some 119) (v := ?_) (a' := ?_) #[true, true, true, true, true, true, true, true, true, true, true, true, true, true, true, true, true, true, true, true, false, true, true, false, false, false, false, false] rfl rfl (any_of HT_.out (by kernel_rfl)) (fun _ _ _ h => h) (Or.inl ⟨by rfl, ?_⟩) ?_ ?_
                           rotate_left
                           ·
                            intro w'
                            go_simp
                            with_reducible rfl
                           rotate_left
                           ·
                            simp only [Act.put, List.setIfInBounds_toArray, List.set_cons_zero, List.set_cons_succ, i64_w, i32_w]
                            rfl
                           refine pure_ (i := 23) (N := some 120) (v := ?_) (a' := ?_) #[true, true, true, true, true, true, true, true, true, true, true, true, true, true, true, true, true, true, true, true, false, true, true, true, false, false, false, false] rfl rfl (any_of HT_.out (by kernel_rfl)) (fun _ _ _ h => h) (Or.inl ⟨by rfl, ?_⟩) ?_ ?_
                           rotate_left
                           ·
                            intro w'
                            go_simp
                            with_reducible rfl
                           rotate_left
                           ·
                            simp only [Act.put, List.setIfInBounds_toArray, List.set_cons_zero, List.set_cons_succ, i64_w, i32_w]
                            rfl
                           refine take_ (i := 20) (N := some 117) (v := ?_) (a' := ?_) #[true, true, true, true, true, true, true, true, true, true, true, true, true, true, true, true, true, true, true, true, true, true, true, true, false, false, false, false] rfl rfl (take_ofW HT_.out HW_.out (by kernel_rfl)) (fun _ _ _ h => h) (Or.inl ⟨by rfl, ?_⟩) hHeld ?_ ?_
                           rotate_left
                           ·
                            rintro w' ⟨s0, s1, s2, s3⟩
                            go_simp
                            with_reducible rfl
                           rotate_left
                           ·
                            simp only [Act.put, List.setIfInBounds_toArray, List.set_cons_zero, List.set_cons_succ, i64_w, i32_w]
                            rfl
                           refine take_ (i := 24) (N := some 121) (v := ?_) (a' := ?_) #[true, true, true, true, true, true, true, true, true, true, true, true, true, true, true, true, true, true, true, true, true, true, true, true, true, false, false, false] rfl rfl (take_ofW HT_.out HW_.out (by kernel_rfl)) (fun _ _ _ h => h) (Or.inl ⟨by rfl, ?_⟩) hHeld ?_ ?_
                           rotate_left
                           ·
                            rintro w' ⟨s0, s1, s2, s3⟩
                            go_simp
                            with_reducible rfl
                           rotate_left
                           ·
                            simp only [Act.put, List.setIfInBounds_toArray, List.set_cons_zero, List.set_cons_succ, i64_w, i32_w]
                            rfl
                           refine pure_ (i := 25) (N := some 122) (v := ?_) (a' := ?_) #[true, true, true, true, true, true, true, true, true, true, true, true, true, true, true, true, true, true, true, true, true, true, true, true, true, true, false, false] rfl rfl (any_of HT_.out (by kernel_rfl)) (fun _ _ _ h => h) (Or.inl ⟨by rfl, ?_⟩) ?_ ?_
                           rotate_left
                           ·
                            intro w'
                            go_simp
                            with_reducible rfl
                           rotate_left
                           ·
                            simp only [Act.put, List.setIfInBounds_toArray, List.set_cons_zero, List.set_cons_succ, i64_w, i32_w]
                            rfl
                           refine pure_ (i := 26) (N := some 123) (v := ?_) (a' := ?_) #[true, true, true, true, true, true, true, true, true, true, true, true, true, true, true, true, true, true, true, true, true, true, true, true, true, true, true, false] rfl rfl (any_of HT_.out (by kernel_rfl)) (fun _ _ _ h => h) (Or.inl ⟨by rfl, ?_⟩) ?_ ?_
                           rotate_left
                           ·
                            intro w'
                            go_simp
                            with_reducible rfl
                           rotate_left
                           ·
                            simp only [Act.put, List.setIfInBounds_toArray, List.set_cons_zero, List.set_cons_succ, i64_w, i32_w]
                            rfl
                           refine pure_ (i := 27) (N := some 124) (v := ?_) (a' := ?_) #[true, true, true, true, true, true, true, true, true, true, true, true, true, true, true, true, true, true, true, true, true, true, true, true, true, true, true, true] rfl rfl (any_of HT_.out (by kernel_rfl)) (fun _ _ _ h => h) (Or.inl ⟨by rfl, ?_⟩) ?_ ?_
                           rotate_left
                           ·
                            intro w'
                            go_simp
                            with_reducible rfl
                           rotate_left
                           ·
                            simp only [Act.put, List.setIfInBounds_toArray, List.set_cons_zero, List.set_cons_succ, i64_w, i32_w]
                            rfl
                           refine done_ (done_of HT_.out (by kernel_rfl)) ?_
                           try go_wp2
                           go_roundg k4
                           case measure => have := HK1.out; have := HJ33.out; have := HJ53.out; have := HK4.out; omega
                           case rel => exact ⟨(wrap64 (x94_4 + 1)), (by first | rfl | (simp; done) | (simp [*]; done)), H', ⟨by have := HK1.out; have := HJ33.out; have := HJ53.out; have := HK4.out; omega⟩, ⟨by (try simp only [hl8_1]); (with_reducible repeat (first | apply Kd.R_alloc | apply Kd.R_drewN | apply Kd.R_drew)); exact HO_8.out⟩, ⟨by (try simp only [hl8_1]); (with_reducible repeat (first | apply Kd.V_alloc | apply Kd.V_drewN | apply Kd.V_drew)); exact HO_14.out⟩, ⟨by (try simp only [hl8_1]); (with_reducible repeat (first | refine blk_drewN ?_ _ | refine blk_drew ?_ | refine blk_alloc ?_ _)); exact BK117.out⟩, ⟨by (try simp only [hl8_1]); (with_reducible repeat (first | refine blk_drewN ?_ _ | refine blk_drew ?_ | refine blk_alloc ?_ _)); exact BK139.out⟩, ⟨by repeat (first | (with_reducible first | exact HB.out | apply below_alloc | apply pw_below_drewN | apply below_drew1 | refine below_set ?_ GE117.out | refine below_set ?_ GE139.out) | exact HB.out)⟩⟩
                          ·
                           rw [if_neg c70] at H
                           have c70b0 : ((rd t140 x94_4) == (rd l1 x94_4)) = false := beq_eq_false_iff_ne.mpr c70
                           have c70b1 : ((rd t140 x94_4) != (rd l1 x94_4)) = true := bne_iff_ne.mpr c70
                           obtain rfl := Option.some.inj H
                           try go_wp2
                           have n0_ := Aside0.mk (Kd.R_drew HO_8.out)
                           have n1_ := Aside0.mk (Kd.V_drew HO_14.out)
                           have n2_ := Aside0.mk (blk_drew BK117.out)
                           have n3_ := Aside0.mk (blk_drew BK139.out)
                           have n4_ := Aside0.mk (below_drew1 HB.out)
                           clear HO_8
                           clear HO_14
                           clear BK117
                           clear BK139
                           clear HB
                           have HO_8 := n0_
                           have HO_14 := n1_
                           have BK117 := n2_
                           have BK139 := n3_
                           have HB := n4_
                           clear n0_ n1_ n2_ n3_ n4_
                           have p144 : 0 ≤ (x94_4 : Int) := of_decide_eq_true (by first | (with_reducible assumption) | assumption)
                           have q144 : x94_4 < (t140.length : Int) := of_decide_eq_true (by first | (with_reducible assumption) | assumption)
                           obtain ⟨ad144, e144, hx144_0⟩ := Kd.at_int (Kd.V_reads' HO_14.out).2.2 x94_4 p144 q144
                           cases e144
                           replace p144 := eq_true p144
                           replace q144 := eq_true q144
                           have p145 : 0 ≤ (x94_4 : Int) := of_decide_eq_true (by first | (with_reducible assumption) | assumption)
                           have q145 : x94_4 < (x8_1.length : Int) := of_decide_eq_true (by first | (with_reducible assumption) | assumption)
                           obtain ⟨ad145, e145, hx145_0⟩ := Kd.at_int (Kd.R_reads' HO_8.out).2.2 x94_4 p145 q145
                           cases e145
                           replace p145 := eq_true p145
                           replace q145 := eq_true q145
                           have p146 : 0 ≤ (x94_4 : Int) := of_decide_eq_true (by first | (with_reducible assumption) | assumption)
                           have q146 : x94_4 < (t140.length : Int) := of_decide_eq_true (by first | (with_reducible assumption) | assumption)
                           obtain ⟨ad146, e146, hx146_0⟩ := Kd.at_int (Kd.V_reads' HO_14.out).2.2 x94_4 p146 q146
                           obtain rfl : ad144 = ad146 := (by injection e146)
                           replace p146 := eq_true p146
                           replace q146 := eq_true q146
                           have p147 : 0 ≤ (x94_4 : Int) := of_decide_eq_true (by first | (with_reducible assumption) | assumption)
                           have q147 : x94_4 < (l1.length : Int) := of_decide_eq_true (by first | (with_reducible assumption) | assumption)
                           obtain ⟨ad147, e147, hx147_0⟩ := Kd.at_int HR1.out x94_4 p147 q147
                           have hw147_0 := hx147_0
                           cases e147
                           replace hx147_0 := (HB.out.cell (World.block_lt_of_cell? w _ hx147_0)).trans hx147_0
                           replace p147 := eq_true p147
                           replace q147 := eq_true q147
                           refine start_ (n := 28) (S := fun w' => w'.cell? (ad144.add (x94_4).toNat) = some (.int .u8 (rd t140 x94_4)) ∧ w'.cell? (ad145.add (x94_4).toNat) = some (.int .u8 (rd x8_1 x94_4)) ∧ w'.cell? (ad144.add (x94_4).toNat) = some (.int .u8 (rd t140 x94_4)) ∧ w'.cell? (ad147.add (x94_4).toNat) = some (.int .u8 (rd l1 x94_4))) (ds := []) #[false, false, false, false, false, false, false, false, false, false, false, false, false, false, false, false, false, false, false, false, false, false, false, false, false, false, false, false] (by kernel_rfl) rfl rfl ⟨hx144_0, hx145_0, hx146_0, ((HB.out.cell (World.block_lt_of_cell? w _ hw147_0)).trans hw147_0)⟩ (fun hHeld => ?_); refine with_tabW laws_FnWideBytes.tab31 laws_FnWideBytes.bits31 (fun HT_ HW_ => ?_)
                           generalize wr.drew = w72 at HO_8 HO_14 BK117 BK139 HB hx144_0 hx145_0 hx146_0 hx147_0 hHeld ⊢
                           refine pure_ (i := 0) (N := some 97) (v := ?_) (a' := ?_) #[true, false, false, false, false, false, false, false, false, false, false, false, false, false, false, false, false, false, false, false, false, false, false, false, false, false, false, false] rfl rfl (any_of HT_.out (by kernel_rfl)) (fun _ _ _ h => h) (Or.inl ⟨by rfl, ?_⟩) ?_ ?_
                           rotate_left
                           ·
                            intro w'
                            go_simp
                            with_reducible rfl
                           rotate_left
                           ·
                            simp only [Act.put, List.setIfInBounds_toArray, List.set_cons_zero, List.set_cons_succ, i64_w, i32_w]
                            rfl
                           refine pure_ (i := 1) (N := some 98) (v := ?_) (a' := ?_) #[true, true, false, false, false, false, false, false, false, false, false, false, false, false, false, false, false, false, false, false, false, false, false, false, false, false, false, false] rfl rfl (any_of HT_.out (by kernel_rfl)) (fun _ _ _ h => h) (Or.inl ⟨by rfl, ?_⟩) ?_ ?_
                           rotate_left
                           ·
                            intro w'
                            go_simp
                            with_reducible rfl
                           rotate_left
                           ·
                            simp only [Act.put, List.setIfInBounds_toArray, List.set_cons_zero, List.set_cons_succ, i64_w, i32_w]
                            rfl
                           refine pure_ (i := 2) (N := some 99) (v := ?_) (a' := ?_) #[true, true, true, false, false, false, false, false, false, false, false, false, false, false, false, false, false, false, false, false, false, false, false, false, false, false, false, false] rfl rfl (any_of HT_.out (by kernel_rfl)) (fun _ _ _ h => h) (Or.inl ⟨by rfl, ?_⟩) ?_ ?_
                           rotate_left
                           ·
                            intro w'
                            go_simp
                            with_reducible rfl
                           rotate_left
                           ·
                            simp only [Act.put, List.setIfInBounds_toArray, List.set_cons_zero, List.set_cons_succ, i64_w, i32_w]
                            rfl
                           refine pure_ (i := 3) (N := some 100) (v := ?_) (a' := ?_) #[true, true, true, true, false, false, false, false, false, false, false, false, false, false, false, false, false, false, false, false, false, false, false, false, false, false, false, false] rfl rfl (any_of HT_.out (by kernel_rfl)) (fun _ _ _ h => h) (Or.inl ⟨by rfl, ?_⟩) ?_ ?_
                           rotate_left
                           ·
                            intro w'
                            go_simp
                            with_reducible rfl
                           rotate_left
                           ·
                            simp only [Act.put, List.setIfInBounds_toArray, List.set_cons_zero, List.set_cons_succ, i64_w, i32_w]
                            rfl
                           refine pure_ (i := 4) (N := some 101) (v := ?_) (a' := ?_) #[true, true, true, true, true, false, false, false, false, false, false, false, false, false, false, false, false, false, false, false, false, false, false, false, false, false, false, false] rfl rfl (any_of HT_.out (by kernel_rfl)) (fun _ _ _ h => h) (Or.inl ⟨by rfl, ?_⟩) ?_ ?_
                           rotate_left
                           ·
                            intro w'
                            go_simp
                            with_reducible rfl
                           rotate_left
                           ·
                            simp only [Act.put, List.setIfInBounds_toArray, List.set_cons_zero, List.set_cons_succ, i64_w, i32_w]
                            rfl
                           refine pure_ (i := 5) (N := some 102) (v := ?_) (a' := ?_) #[true, true, true, true, true, true, false, false, false, false, false, false, false, false, false, false, false, false, false, false, false, false, false, false, false, false, false, false] rfl rfl (any_of HT_.out (by kernel_rfl)) (fun _ _ _ h => h) (Or.inl ⟨by rfl, ?_⟩) ?_ ?_
                           rotate_left
                           ·
                            intro w'
                            go_simp
                            with_reducible rfl
                           rotate_left
                           ·
                            simp only [Act.put, List.setIfInBounds_toArray, List.set_cons_zero, List.set_cons_succ, i64_w, i32_w]
                            rfl
                           refine pure_ (i := 7) (N := some 104) (v := ?_) (a' := ?_) #[true, true, true, true, true, true, false, true, false, false, false, false, false, false, false, false, false, false, false, false, false, false, false, false, false, false, false, false] rfl rfl (any_of HT_.out (by kernel_rfl)) (fun _ _ _ h => h) (Or.inl ⟨by rfl, ?_⟩) ?_ ?_
                           rotate_left
                           ·
                            intro w'
                            go_simp
                            with_reducible rfl
                           rotate_left
                           ·
                            simp only [Act.put, List.setIfInBounds_toArray, List.set_cons_zero, List.set_cons_succ, i64_w, i32_w]
                            rfl
                           refine pure_ (i := 8) (N := some 105) (v := ?_) (a' := ?_) #[true, true, true, true, true, true, false, true, true, false, false, false, false, false, false, false, false, false, false, false, false, false, false, false, false, false, false, false] rfl rfl (any_of HT_.out (by kernel_rfl)) (fun _ _ _ h => h) (Or.inl ⟨by rfl, ?_⟩) ?_ ?_
                           rotate_left
                           ·
                            intro w'
                            go_simp
                            with_reducible rfl
                           rotate_left
                           ·
                            simp only [Act.put, List.setIfInBounds_toArray, List.set_cons_zero, List.set_cons_succ, i64_w, i32_w]
                            rfl
                           refine pure_ (i := 9) (N := some 106) (v := ?_) (a' := ?_) #[true, true, true, true, true, true, false, true, true, true, false, false, false, false, false, false, false, false, false, false, false, false, false, false, false, false, false, false] rfl rfl (any_of HT_.out (by kernel_rfl)) (fun _ _ _ h => h) (Or.inl ⟨by rfl, ?_⟩) ?_ ?_
                           rotate_left
                           ·
                            intro w'
                            go_simp
                            with_reducible rfl
                           rotate_left
                           ·
                            simp only [Act.put, List.setIfInBounds_toArray, List.set_cons_zero, List.set_cons_succ, i64_w, i32_w]
                            rfl
                           refine take_ (i := 6) (N := some 103) (v := ?_) (a' := ?_) #[true, true, true, true, true, true, true, true, true, true, false, false, false, false, false, false, false, false, false, false, false, false, false, false, false, false, false, false] rfl rfl (take_ofW HT_.out HW_.out (by kernel_rfl)) (fun _ _ _ h => h) (Or.inl ⟨by rfl, ?_⟩) hHeld ?_ ?_
                           rotate_left
                           ·
                            rintro w' ⟨s0, s1, s2, s3⟩
                            go_simp
                            with_reducible rfl
                           rotate_left
                           ·
                            simp only [Act.put, List.setIfInBounds_toArray, List.set_cons_zero, List.set_cons_succ, i64_w, i32_w]
                            rfl
                           refine take_ (i := 10) (N := some 107) (v := ?_) (a' := ?_) #[true, true, true, true, true, true, true, true, true, true, true, false, false, false, false, false, false, false, false, false, false, false, false, false, false, false, false, false] rfl rfl (take_ofW HT_.out HW_.out (by kernel_rfl)) (fun _ _ _ h => h) (Or.inl ⟨by rfl, ?_⟩) hHeld ?_ ?_
                           rotate_left
                           ·
                            rintro w' ⟨s0, s1, s2, s3⟩
                            go_simp
                            with_reducible rfl
                           rotate_left
                           ·
                            simp only [Act.put, List.setIfInBounds_toArray, List.set_cons_zero, List.set_cons_succ, i64_w, i32_w]
                            rfl
                           refine pure_ (i := 11) (N := some 108) (v := ?_) (a' := ?_) #[true, true, true, true, true, true, true, true, true, true, true, true, false, false, false, false, false, false, false, false, false, false, false, false, false, false, false, false] rfl rfl (any_of HT_.out (by kernel_rfl)) (fun _ _ _ h => h) (Or.inl ⟨by rfl, ?_⟩) ?_ ?_
                           rotate_left
                           ·
                            intro w'
                            go_simp
                            with_reducible rfl
                           rotate_left
                           ·
                            simp only [Act.put, List.setIfInBounds_toArray, List.set_cons_zero, List.set_cons_succ, i64_w, i32_w]
                            rfl
                           refine pure_ (i := 12) (N := some 109) (v := ?_) (a' := ?_) #[true, true, true, true, true, true, true, true, true, true, true, true, true, false, false, false, false, false, false, false, false, false, false, false, false, false, false, false] rfl rfl (any_of HT_.out (by kernel_rfl)) (fun _ _ _ h => h) (Or.inl ⟨by rfl, ?_⟩) ?_ ?_
                           rotate_left
                           ·
                            intro w'
                            go_simp
                            with_reducible rfl
                           rotate_left
                           ·
                            simp only [Act.put, List.setIfInBounds_toArray, List.set_cons_zero, List.set_cons_succ, i64_w, i32_w]
                            rfl
                           refine pure_ (i := 13) (N := some 110) (v := ?_) (a' := ?_) #[true, true, true, true, true, true, true, true, true, true, true, true, true, true, false, false, false, false, false, false, false, false, false, false, false, false, false, false] rfl rfl (any_of HT_.out (by kernel_rfl)) (fun _ _ _ h => h) (Or.inl ⟨by rfl, ?_⟩) ?_ ?_
                           rotate_left
                           ·
                            intro w'
                            go_simp
                            with_reducible rfl
                           rotate_left
                           ·
                            simp only [Act.put, List.setIfInBounds_toArray, List.set_cons_zero, List.set_cons_succ, i64_w, i32_w]
                            rfl
                           refine pure_ (i := 14) (N := some 111) (v := ?_) (a' := ?_) #[true, true, true, true, true, true, true, true, true, true, true, true, true, true, true, false, false, false, false, false, false, false, false, false, false, false, false, false] rfl rfl (any_of HT_.out (by kernel_rfl)) (fun _ _ _ h => h) (Or.inl ⟨by rfl, ?_⟩) ?_ ?_
                           rotate_left
                           ·
                            intro w'
                            go_simp
                            with_reducible rfl
                           rotate_left
                           ·
                            simp only [Act.put, List.setIfInBounds_toArray, List.set_cons_zero, List.set_cons_succ, i64_w, i32_w]
                            rfl
                           refine pure_ (i := 15) (N := some 112) (v := ?_) (a' := ?_) #[true, true, true, true, true, true, true, true, true, true, true, true, true, true, true, true, false, false, false, false, false, false, false, false, false, false, false, false] rfl rfl (any_of HT_.out (by kernel_rfl)) (fun _ _ _ h => h) (Or.inl ⟨by rfl, ?_⟩) ?_ ?_
                           rotate_left
                           ·
                            intro w'
                            go_simp
                            with_reducible rfl
                           rotate_left
                           ·
                            simp only [Act.put, List.setIfInBounds_toArray, List.set_cons_zero, List.set_cons_succ, i64_w, i32_w]
                            rfl
                           refine pure_ (i := 16) (N := some 113) (v := ?_) (a' := ?_) #[true, true, true, true, true, true, true, true, true, true, true, true, true, true, true, true, true, false, false, false, false, false, false, false, false, false, false, false] rfl rfl (any_of HT_.out (by kernel_rfl)) (fun _ _ _ h => h) (Or.inl ⟨by rfl, ?_⟩) ?_ ?_
                           rotate_left
                           ·
                            intro w'
                            go_simp
                            with_reducible rfl
                           rotate_left
                           ·
                            simp only [Act.put, List.setIfInBounds_toArray, List.set_cons_zero, List.set_cons_succ, i64_w, i32_w]
                            rfl
                           refine pure_ (i := 17) (N := some 114) (v := ?_) (a' := ?_) #[true, true, true, true, true, true, true, true, true, true, true, true, true, true, true, true, true, true, false, false, false, false, false, false, false, false, false, false] rfl rfl (any_of HT_.out (by kernel_rfl)) (fun _ _ _ h => h) (Or.inl ⟨by rfl, ?_⟩) ?_ ?_
                           rotate_left
                           ·
                            intro w'
                            go_simp
                            with_reducible rfl
                           rotate_left
                           ·
                            simp only [Act.put, List.setIfInBounds_toArray, List.set_cons_zero, List.set_cons_succ, i64_w, i32_w]
                            rfl
                           refine pure_ (i := 18) (N := some 115) (v := ?_) (a' := ?_) #[true, true, true, true, true, true, true, true, true, true, true, true, true, true, true, true, true, true, true, false, false, false, false, false, false, false, false, false] rfl rfl (any_of HT_.out (by kernel_rfl)) (fun _ _ _ h => h) (Or.inl ⟨by rfl, ?_⟩) ?_ ?_
                           rotate_left
                           ·
                            intro w'
                            go_simp
                            with_reducible rfl
                           rotate_left
                           ·
                            simp only [Act.put, List.setIfInBounds_toArray, List.set_cons_zero, List.set_cons_succ, i64_w, i32_w]
                            rfl
                           refine pure_ (i := 19) (N := some 116) (v := ?_) (a' := ?_) #[true, true, true, true, true, true, true, true, true, true, true, true, true, true, true, true, true, true, true, true, false, false, false, false, false, false, false, false] rfl rfl (any_of HT_.out (by kernel_rfl)) (fun _ _ _ h => h) (Or.inl ⟨by rfl, ?_⟩) ?_ ?_
                           rotate_left
                           ·
                            intro w'
                            go_simp
                            with_reducible rfl
                           rotate_left
                           ·
                            simp only [Act.put, List.setIfInBounds_toArray, List.set_cons_zero, List.set_cons_succ, i64_w, i32_w]
                            rfl
                           refine pure_ (i := 21) (N := some 118) (v := ?_) (a' := ?_) #[true, true, true, true, true, true, true, true, true, true, true, true, true, true, true, true, true, true, true, true, false, true, false, false, false, false, false, false] rfl rfl (any_of HT_.out (by kernel_rfl)) (fun _ _ _ h => h) (Or.inl ⟨by rfl, ?_⟩) ?_ ?_
                           rotate_left
                           ·
                            intro w'
                            go_simp
                            with_reducible rfl
                           rotate_left
                           ·
                            simp only [Act.put, List.setIfInBounds_toArray, List.set_cons_zero, List.set_cons_succ, i64_w, i32_w]
                            rfl
                           refine pure_ (i := 22) (N := some 119) (v := ?_) (a' := ?_) #[true, true, true, true, true, true, true, true, true, true, true, true, true, true, true, true, true, true, true, true, false, true, true, false, false, false, false, false] rfl rfl (any_of HT_.out (by kernel_rfl)) (fun _ _ _ h => h) (Or.inl ⟨by rfl, ?_⟩) ?_ ?_
                           rotate_left
                           ·
                            intro w'
                            go_simp
                            with_reducible rfl
                           rotate_left
                           ·
                            simp only [Act.put, List.setIfInBounds_toArray, List.set_cons_zero, List.set_cons_succ, i64_w, i32_w]
                            rfl
                           refine pure_ (i := 23) (N := some 120) (v := ?_) (a' := ?_) #[true, true, true, true, true, true, true, true, true, true, true, true, true, true, true, true, true, true, true, true, false, true, true, true, false, false, false, false] rfl rfl (any_of HT_.out (by kernel_rfl)) (fun _ _ _ h => h) (Or.inl ⟨by rfl, ?_⟩) ?_ ?_
                           rotate_left
                           ·
                            intro w'
                            go_simp
                            with_reducible rfl
                           rotate_left
                           ·
                            simp only [Act.put, List.setIfInBounds_toArray, List.set_cons_zero, List.set_cons_succ, i64_w, i32_w]
                            rfl
                           refine take_ (i := 20) (N := some 117) (v := ?_) (a' := ?_) #[true, true, true, true, true, true, true, true, true, true, true, true, true, true, true, true, true, true, true, true, true, true, true, true, false, false, false, false] rfl rfl (take_ofW HT_.out HW_.out (by kernel_rfl)) (fun _ _ _ h => h) (Or.inl ⟨by rfl, ?_⟩) hHeld ?_ ?_
                           rotate_left
                           ·
                            rintro w' ⟨s0, s1, s2, s3⟩
                            go_simp
                            with_reducible rfl
                           rotate_left
                           ·
                            simp only [Act.put, List.setIfInBounds_toArray, List.set_cons_zero, List.set_cons_succ, i64_w, i32_w]
                            rfl
                           refine take_ (i := 24) (N := some 121) (v := ?_) (a' := ?_) #[true, true, true, true, true, true, true, true, true, true, true, true, true, true, true, true, true, true, true, true, true, true, true, true, true, false, false, false] rfl rfl (take_ofW HT_.out HW_.out (by kernel_rfl)) (fun _ _ _ h => h) (Or.inl ⟨by rfl, ?_⟩) hHeld ?_ ?_
                           rotate_left
                           ·
                            rintro w' ⟨s0, s1, s2, s3⟩
                            go_simp
                            with_reducible rfl
                           rotate_left
                           ·
                            simp only [Act.put, List.setIfInBounds_toArray, List.set_cons_zero, List.set_cons_succ, i64_w, i32_w]
                            rfl
                           refine pure_ (i := 25) (N := some 122) (v := ?_) (a' := ?_) #[true, true, true, true, true, true, true, true, true, true, true, true, true, true, true, true, true, true, true, true, true, true, true, true, true, true, false, false] rfl rfl (any_of HT_.out (by kernel_rfl)) (fun _ _ _ h => h) (Or.inl ⟨by rfl, ?_⟩) ?_ ?_
                           rotate_left
                           ·
                            intro w'
                            go_simp
                            with_reducible rfl
                           rotate_left
                           ·
                            simp only [Act.put, List.setIfInBounds_toArray, List.set_cons_zero, List.set_cons_succ, i64_w, i32_w]
                            rfl
                           refine pure_ (i := 26) (N := some 123) (v := ?_) (a' := ?_) #[true, true, true, true, true, true, true, true, true, true, true, true, true, true, true, true, true, true, true, true, true, true, true, true, true, true, true, false] rfl rfl (any_of HT_.out (by kernel_rfl)) (fun _ _ _ h => h) (Or.inl ⟨by rfl, ?_⟩) ?_ ?_
                           rotate_left
                           ·
                            intro w'
                            go_simp
                            with_reducible rfl
                           rotate_left
                           ·
                            simp only [Act.put, List.setIfInBounds_toArray, List.set_cons_zero, List.set_cons_succ, i64_w, i32_w]
                            rfl
                           refine pure_ (i := 27) (N := some 124) (v := ?_) (a' := ?_) #[true, true, true, true, true, true, true, true, true, true, true, true, true, true, true, true, true, true, true, true, true, true, true, true, true, true, true, true] rfl rfl (any_of HT_.out (by kernel_rfl)) (fun _ _ _ h => h) (Or.inl ⟨by rfl, ?_⟩) ?_ ?_
                           rotate_left
                           ·
                            intro w'
                            go_simp
                            with_reducible rfl
                           rotate_left
                           ·
                            simp only [Act.put, List.setIfInBounds_toArray, List.set_cons_zero, List.set_cons_succ, i64_w, i32_w]
                            rfl
                           refine done_ (done_of HT_.out (by kernel_rfl)) ?_
                           try go_wp2
                           go_ret
                           exact ⟨by first | rfl | (simp [errW_none, errW_some] <;> rfl) | (simp [*, errW_none, errW_some] <;> rfl), by repeat (first | (with_reducible first | exact HB.out | apply below_alloc | apply pw_below_drewN | apply below_drew1 | refine below_set ?_ GE117.out | refine below_set ?_ GE139.out) | exact HB.out)⟩
                         ·
                          rw [if_neg c69] at H
                          exact absurd H (by simp)
                        ·
                         rw [if_neg c68] at H
                         have c68b0 : decide (16 ≤ x94_4) = false := decide_eq_false c68
                         clear c68
                         have H' := Aside0.mk H
                         clear H
                         try go_wp2
                         have n0_ := Aside0.mk (Kd.R_drew HO_8.out)
                         have n1_ := Aside0.mk (Kd.V_drew HO_14.out)
                         have n2_ := Aside0.mk (blk_drew BK117.out)
                         have n3_ := Aside0.mk (blk_drew BK139.out)
                         have n4_ := Aside0.mk (below_drew1 HB.out)
                         clear HO_8
                         clear HO_14
                         clear BK117
                         clear BK139
                         clear HB
                         have HO_8 := n0_
                         have HO_14 := n1_
                         have BK117 := n2_
                         have BK139 := n3_
                         have HB := n4_
                         clear n0_ n1_ n2_ n3_ n4_
                         have p144 : 0 ≤ (x94_4 : Int) := of_decide_eq_true (by first | (with_reducible assumption) | assumption)
                         have q144 : x94_4 < (t140.length : Int) := of_decide_eq_true (by first | (with_reducible assumption) | assumption)
                         obtain ⟨ad144, e144, hx144_0⟩ := Kd.at_int (Kd.V_reads' HO_14.out).2.2 x94_4 p144 q144
                         cases e144
                         replace p144 := eq_true p144
                         replace q144 := eq_true q144
                         have p145 : 0 ≤ (x94_4 : Int) := of_decide_eq_true (by first | (with_reducible assumption) | assumption)
                         have q145 : x94_4 < (x8_1.length : Int) := of_decide_eq_true (by first | (with_reducible assumption) | assumption)
                         obtain ⟨ad145, e145, hx145_0⟩ := Kd.at_int (Kd.R_reads' HO_8.out).2.2 x94_4 p145 q145
                         cases e145
                         replace p145 := eq_true p145
                         replace q145 := eq_true q145
                         refine start_ (n := 28) (S := fun w' => w'.cell? (ad144.add (x94_4).toNat) = some (.int .u8 (rd t140 x94_4)) ∧ w'.cell? (ad145.add (x94_4).toNat) = some (.int .u8 (rd x8_1 x94_4))) (ds := []) #[false, false, false, false, false, false, false, false, false, false, false, false, false, false, false, false, false, false, false, false, false, false, false, false, false, false, false, false] (by kernel_rfl) rfl rfl ⟨hx144_0, hx145_0⟩ (fun hHeld => ?_); refine with_tabW laws_FnWideBytes.tab31 laws_FnWideBytes.bits31 (fun HT_ HW_ => ?_)
                         generalize wr.drew = w73 at HO_8 HO_14 BK117 BK139 HB hx144_0 hx145_0 hHeld ⊢
                         refine pure_ (i := 0) (N := some 97) (v := ?_) (a' := ?_) #[true, false, false, false, false, false, false, false, false, false, false, false, false, false, false, false, false, false, false, false, false, false, false, false, false, false, false, false] rfl rfl (any_of HT_.out (by kernel_rfl)) (fun _ _ _ h => h) (Or.inl ⟨by rfl, ?_⟩) ?_ ?_
                         rotate_left
                         ·
                          intro w'
                          go_simp
                          with_reducible rfl
                         rotate_left
                         ·
                          simp only [Act.put, List.setIfInBounds_toArray, List.set_cons_zero, List.set_cons_succ, i64_w, i32_w]
                          rfl
                         refine pure_ (i := 1) (N := some 98) (v := ?_) (a' := ?_) #[true, true, false, false, false, false, false, false, false, false, false, false, false, false, false, false, false, false, false, false, false, false, false, false, false, false, false, false] rfl rfl (any_of HT_.out (by kernel_rfl)) (fun _ _ _ h => h) (Or.inl ⟨by rfl, ?_⟩) ?_ ?_
                         rotate_left
                         ·
                          intro w'
                          go_simp
                          with_reducible rfl
                         rotate_left
                         ·
                          simp only [Act.put, List.setIfInBounds_toArray, List.set_cons_zero, List.set_cons_succ, i64_w, i32_w]
                          rfl
                         refine pure_ (i := 2) (N := some 99) (v := ?_) (a' := ?_) #[true, true, true, false, false, false, false, false, false, false, false, false, false, false, false, false, false, false, false, false, false, false, false, false, false, false, false, false] rfl rfl (any_of HT_.out (by kernel_rfl)) (fun _ _ _ h => h) (Or.inl ⟨by rfl, ?_⟩) ?_ ?_
                         rotate_left
                         ·
                          intro w'
                          go_simp
                          with_reducible rfl
                         rotate_left
                         ·
                          simp only [Act.put, List.setIfInBounds_toArray, List.set_cons_zero, List.set_cons_succ, i64_w, i32_w]
                          rfl
                         refine pure_ (i := 3) (N := some 100) (v := ?_) (a' := ?_) #[true, true, true, true, false, false, false, false, false, false, false, false, false, false, false, false, false, false, false, false, false, false, false, false, false, false, false, false] rfl rfl (any_of HT_.out (by kernel_rfl)) (fun _ _ _ h => h) (Or.inl ⟨by rfl, ?_⟩) ?_ ?_
                         rotate_left
                         ·
                          intro w'
                          go_simp
                          with_reducible rfl
                         rotate_left
                         ·
                          simp only [Act.put, List.setIfInBounds_toArray, List.set_cons_zero, List.set_cons_succ, i64_w, i32_w]
                          rfl
                         refine pure_ (i := 4) (N := some 101) (v := ?_) (a' := ?_) #[true, true, true, true, true, false, false, false, false, false, false, false, false, false, false, false, false, false, false, false, false, false, false, false, false, false, false, false] rfl rfl (any_of HT_.out (by kernel_rfl)) (fun _ _ _ h => h) (Or.inl ⟨by rfl, ?_⟩) ?_ ?_
                         rotate_left
                         ·
                          intro w'
                          go_simp
                          with_reducible rfl
                         rotate_left
                         ·
                          simp only [Act.put, List.setIfInBounds_toArray, List.set_cons_zero, List.set_cons_succ, i64_w, i32_w]
                          rfl
                         refine pure_ (i := 5) (N := some 102) (v := ?_) (a' := ?_) #[true, true, true, true, true, true, false, false, false, false, false, false, false, false, false, false, false, false, false, false, false, false, false, false, false, false, false, false] rfl rfl (any_of HT_.out (by kernel_rfl)) (fun _ _ _ h => h) (Or.inl ⟨by rfl, ?_⟩) ?_ ?_
                         rotate_left
                         ·
                          intro w'
                          go_simp
                          with_reducible rfl
                         rotate_left
                         ·
                          simp only [Act.put, List.setIfInBounds_toArray, List.set_cons_zero, List.set_cons_succ, i64_w, i32_w]
                          rfl
                         refine pure_ (i := 7) (N := some 104) (v := ?_) (a' := ?_) #[true, true, true, true, true, true, false, true, false, false, false, false, false, false, false, false, false, false, false, false, false, false, false, false, false, false, false, false] rfl rfl (any_of HT_.out (by kernel_rfl)) (fun _ _ _ h => h) (Or.inl ⟨by rfl, ?_⟩) ?_ ?_
                         rotate_left
                         ·
                          intro w'
                          go_simp
                          with_reducible rfl
                         rotate_left
                         ·
                          simp only [Act.put, List.setIfInBounds_toArray, List.set_cons_zero, List.set_cons_succ, i64_w, i32_w]
                          rfl
                         refine pure_ (i := 8) (N := some 105) (v := ?_) (a' := ?_) #[true, true, true, true, true, true, false, true, true, false, false, false, false, false, false, false, false, false, false, false, false, false, false, false, false, false, false, false] rfl rfl (any_of HT_.out (by kernel_rfl)) (fun _ _ _ h => h) (Or.inl ⟨by rfl, ?_⟩) ?_ ?_
                         rotate_left
                         ·
                          intro w'
                          go_simp
                          with_reducible rfl
                         rotate_left
                         ·
                          simp only [Act.put, List.setIfInBounds_toArray, List.set_cons_zero, List.set_cons_succ, i64_w, i32_w]
                          rfl
                         refine pure_ (i := 9) (N := some 106) (v := ?_) (a' := ?_) #[true, true, true, true, true, true, false, true, true, true, false, false, false, false, false, false, false, false, false, false, false, false, false, false, false, false, false, false] rfl rfl (any_of HT_.out (by kernel_rfl)) (fun _ _ _ h => h) (Or.inl ⟨by rfl, ?_⟩) ?_ ?_
                         rotate_left
                         ·
                          intro w'
                          go_simp
                          with_reducible rfl
                         rotate_left
                         ·
                          simp only [Act.put, List.setIfInBounds_toArray, List.set_cons_zero, List.set_cons_succ, i64_w, i32_w]
                          rfl
                         refine take_ (i := 6) (N := some 103) (v := ?_) (a' := ?_) #[true, true, true, true, true, true, true, true, true, true, false, false, false, false, false, false, false, false, false, false, false, false, false, false, false, false, false, false] rfl rfl (take_ofW HT_.out HW_.out (by kernel_rfl)) (fun _ _ _ h => h) (Or.inl ⟨by rfl, ?_⟩) hHeld ?_ ?_
                         rotate_left
                         ·
                          rintro w' ⟨s0, s1⟩
                          go_simp
                          with_reducible rfl
                         rotate_left
                         ·
                          simp only [Act.put, List.setIfInBounds_toArray, List.set_cons_zero, List.set_cons_succ, i64_w, i32_w]
                          rfl
                         refine take_ (i := 10) (N := some 107) (v := ?_) (a' := ?_) #[true, true, true, true, true, true, true, true, true, true, true, false, false, false, false, false, false, false, false, false, false, false, false, false, false, false, false, false] rfl rfl (take_ofW HT_.out HW_.out (by kernel_rfl)) (fun _ _ _ h => h) (Or.inl ⟨by rfl, ?_⟩) hHeld ?_ ?_
                         rotate_left
                         ·
                          rintro w' ⟨s0, s1⟩
                          go_simp
                          with_reducible rfl
                         rotate_left
                         ·
                          simp only [Act.put, List.setIfInBounds_toArray, List.set_cons_zero, List.set_cons_succ, i64_w, i32_w]
                          rfl
                         refine pure_ (i := 11) (N := some 108) (v := ?_) (a' := ?_) #[true, true, true, true, true, true, true, true, true, true, true, true, false, false, false, false, false, false, false, false, false, false, false, false, false, false, false, false] rfl rfl (any_of HT_.out (by kernel_rfl)) (fun _ _ _ h => h) (Or.inl ⟨by rfl, ?_⟩) ?_ ?_
                         rotate_left
                         ·
                          intro w'
                          go_simp
                          with_reducible rfl
                         rotate_left
                         ·
                          simp only [Act.put, List.setIfInBounds_toArray, List.set_cons_zero, List.set_cons_succ, i64_w, i32_w]
                          rfl
                         refine pure_ (i := 12) (N := some 109) (v := ?_) (a' := ?_) #[true, true, true, true, true, true, true, true, true, true, true, true, true, false, false, false, false, false, false, false, false, false, false, false, false, false, false, false] rfl rfl (any_of HT_.out (by kernel_rfl)) (fun _ _ _ h => h) (Or.inl ⟨by rfl, ?_⟩) ?_ ?_
                         rotate_left
                         ·
                          intro w'
                          go_simp
                          with_reducible rfl
                         rotate_left
                         ·
                          simp only [Act.put, List.setIfInBounds_toArray, List.set_cons_zero, List.set_cons_succ, i64_w, i32_w]
                          rfl
                         refine pure_ (i := 13) (N := some 110) (v := ?_) (a' := ?_) #[true, true, true, true, true, true, true, true, true, true, true, true, true, true, false, false, false, false, false, false, false, false, false, false, false, false, false, false] rfl rfl (any_of HT_.out (by kernel_rfl)) (fun _ _ _ h => h) (Or.inl ⟨by rfl, ?_⟩) ?_ ?_
                         rotate_left
                         ·
                          intro w'
                          go_simp
                          with_reducible rfl
                         rotate_left
                         ·
                          simp only [Act.put, List.setIfInBounds_toArray, List.set_cons_zero, List.set_cons_succ, i64_w, i32_w]
                          rfl
                         refine pure_ (i := 14) (N := some 111) (v := ?_) (a' := ?_) #[true, true, true, true, true, true, true, true, true, true, true, true, true, true, true, false, false, false, false, false, false, false, false, false, false, false, false, false] rfl rfl (any_of HT_.out (by kernel_rfl)) (fun _ _ _ h => h) (Or.inl ⟨by rfl, ?_⟩) ?_ ?_
                         rotate_left
                         ·
                          intro w'
                          go_simp
                          with_reducible rfl
                         rotate_left
                         ·
                          simp only [Act.put, List.setIfInBounds_toArray, List.set_cons_zero, List.set_cons_succ, i64_w, i32_w]
                          rfl
                         refine pure_ (i := 15) (N := some 112) (v := ?_) (a' := ?_) #[true, true, true, true, true, true, true, true, true, true, true, true, true, true, true, true, false, false, false, false, false, false, false, false, false, false, false, false] rfl rfl (any_of HT_.out (by kernel_rfl)) (fun _ _ _ h => h) (Or.inl ⟨by rfl, ?_⟩) ?_ ?_
                         rotate_left
                         ·
                          intro w'
                          go_simp
                          with_reducible rfl
                         rotate_left
                         ·
                          simp only [Act.put, List.setIfInBounds_toArray, List.set_cons_zero, List.set_cons_succ, i64_w, i32_w]
                          rfl
                         refine pure_ (i := 16) (N := some 113) (v := ?_) (a' := ?_) #[true, true, true, true, true, true, true, true, true, true, true, true, true, true, true, true, true, false, false, false, false, false, false, false, false, false, false, false] rfl rfl (any_of HT_.out (by kernel_rfl)) (fun _ _ _ h => h) (Or.inl ⟨by rfl, ?_⟩) ?_ ?_
                         rotate_left
                         ·
                          intro w'
                          go_simp
                          with_reducible rfl
                         rotate_left
                         ·
                          simp only [Act.put, List.setIfInBounds_toArray, List.set_cons_zero, List.set_cons_succ, i64_w, i32_w]
                          rfl
                         refine pure_ (i := 17) (N := some 114) (v := undef) (a' := ?_) #[true, true, true, true, true, true, true, true, true, true, true, true, true, true, true, true, true, true, false, false, false, false, false, false, false, false, false, false] rfl rfl (any_of HT_.out (by kernel_rfl)) (fun _ _ _ h => h) (Or.inr ⟨by rfl, rfl⟩) ?_ ?_
                         rotate_left
                         ·
                          simp only [Act.put, List.setIfInBounds_toArray, List.set_cons_zero, List.set_cons_succ, i64_w, i32_w]
                          rfl
                         refine pure_ (i := 18) (N := some 115) (v := undef) (a' := ?_) #[true, true, true, true, true, true, true, true, true, true, true, true, true, true, true, true, true, true, true, false, false, false, false, false, false, false, false, false] rfl rfl (any_of HT_.out (by kernel_rfl)) (fun _ _ _ h => h) (Or.inr ⟨by rfl, rfl⟩) ?_ ?_
                         rotate_left
                         ·
                          simp only [Act.put, List.setIfInBounds_toArray, List.set_cons_zero, List.set_cons_succ, i64_w, i32_w]
                          rfl
                         refine pure_ (i := 19) (N := some 116) (v := undef) (a' := ?_) #[true, true, true, true, true, true, true, true, true, true, true, true, true, true, true, true, true, true, true, true, false, false, false, false, false, false, false, false] rfl rfl (any_of HT_.out (by kernel_rfl)) (fun _ _ _ h => h) (Or.inr ⟨by rfl, rfl⟩) ?_ ?_
                         rotate_left
                         ·
                          simp only [Act.put, List.setIfInBounds_toArray, List.set_cons_zero, List.set_cons_succ, i64_w, i32_w]
                          rfl
                         refine pure_ (i := 20) (N := some 117) (v := undef) (a' := ?_) #[true, true, true, true, true, true, true, true, true, true, true, true, true, true, true, true, true, true, true, true, true, false, false, false, false, false, false, false] rfl rfl (any_of HT_.out (by kernel_rfl)) (fun _ _ _ h => h) (Or.inr ⟨by rfl, rfl⟩) ?_ ?_
                         rotate_left
                         ·
                          simp only [Act.put, List.setIfInBounds_toArray, List.set_cons_zero, List.set_cons_succ, i64_w, i32_w]
                          rfl
                         refine pure_ (i := 21) (N := some 118) (v := undef) (a' := ?_) #[true, true, true, true, true, true, true, true, true, true, true, true, true, true, true, true, true, true, true, true, true, true, false, false, false, false, false, false] rfl rfl (any_of HT_.out (by kernel_rfl)) (fun _ _ _ h => h) (Or.inr ⟨by rfl, rfl⟩) ?_ ?_
                         rotate_left
                         ·
                          simp only [Act.put, List.setIfInBounds_toArray, List.set_cons_zero, List.set_cons_succ, i64_w, i32_w]
                          rfl
                         refine pure_ (i := 22) (N := some 119) (v := undef) (a' := ?_) #[true, true, true, true, true, true, true, true, true, true, true, true, true, true, true, true, true, true, true, true, true, true, true, false, false, false, false, false] rfl rfl (any_of HT_.out (by kernel_rfl)) (fun _ _ _ h => h) (Or.inr ⟨by rfl, rfl⟩) ?_ ?_
                         rotate_left
                         ·
                          simp only [Act.put, List.setIfInBounds_toArray, List.set_cons_zero, List.set_cons_succ, i64_w, i32_w]
                          rfl
                         refine pure_ (i := 23) (N := some 120) (v := undef) (a' := ?_) #[true, true, true, true, true, true, true, true, true, true, true, true, true, true, true, true, true, true, true, true, true, true, true, true, false, false, false, false] rfl rfl (any_of HT_.out (by kernel_rfl)) (fun _ _ _ h => h) (Or.inr ⟨by rfl, rfl⟩) ?_ ?_
                         rotate_left
                         ·
                          simp only [Act.put, List.setIfInBounds_toArray, List.set_cons_zero, List.set_cons_succ, i64_w, i32_w]
                          rfl
                         refine pure_ (i := 24) (N := some 121) (v := undef) (a' := ?_) #[true, true, true, true, true, true, true, true, true, true, true, true, true, true, true, true, true, true, true, true, true, true, true, true, true, false, false, false] rfl rfl (any_of HT_.out (by kernel_rfl)) (fun _ _ _ h => h) (Or.inr ⟨by rfl, rfl⟩) ?_ ?_
                         rotate_left
                         ·
                          simp only [Act.put, List.setIfInBounds_toArray, List.set_cons_zero, List.set_cons_succ, i64_w, i32_w]
                          rfl
                         refine pure_ (i := 25) (N := some 122) (v := undef) (a' := ?_) #[true, true, true, true, true, true, true, true, true, true, true, true, true, true, true, true, true, true, true, true, true, true, true, true, true, true, false, false] rfl rfl (any_of HT_.out (by kernel_rfl)) (fun _ _ _ h => h) (Or.inr ⟨by rfl, rfl⟩) ?_ ?_
                         rotate_left
                         ·
                          simp only [Act.put, List.setIfInBounds_toArray, List.set_cons_zero, List.set_cons_succ, i64_w, i32_w]
                          rfl
                         refine pure_ (i := 26) (N := some 123) (v := ?_) (a' := ?_) #[true, true, true, true, true, true, true, true, true, true, true, true, true, true, true, true, true, true, true, true, true, true, true, true, true, true, true, false] rfl rfl (any_of HT_.out (by kernel_rfl)) (fun _ _ _ h => h) (Or.inl ⟨by rfl, ?_⟩) ?_ ?_
                         rotate_left
                         ·
                          intro w'
                          go_simp
                          with_reducible rfl
                         rotate_left
                         ·
                          simp only [Act.put, List.setIfInBounds_toArray, List.set_cons_zero, List.set_cons_succ, i64_w, i32_w]
                          rfl
                         refine pure_ (i := 27) (N := some 124) (v := ?_) (a' := ?_) #[true, true, true, true, true, true, true, true, true, true, true, true, true, true, true, true, true, true, true, true, true, true, true, true, true, true, true, true] rfl rfl (any_of HT_.out (by kernel_rfl)) (fun _ _ _ h => h) (Or.inl ⟨by rfl, ?_⟩) ?_ ?_
                         rotate_left
                         ·
                          intro w'
                          go_simp
                          with_reducible rfl
                         rotate_left
                         ·
                          simp only [Act.put, List.setIfInBounds_toArray, List.set_cons_zero, List.set_cons_succ, i64_w, i32_w]
                          rfl
                         refine done_ (done_of HT_.out (by kernel_rfl)) ?_
                         try go_wp2
                         go_roundg k4
                         case measure => have := HK1.out; have := HJ33.out; have := HJ53.out; have := HK4.out; omega
                         case rel => exact ⟨(wrap64 (x94_4 + 1)), (by first | rfl | (simp; done) | (simp [*]; done)), H', ⟨by have := HK1.out; have := HJ33.out; have := HJ53.out; have := HK4.out; omega⟩, ⟨by (try simp only [hl8_1]); (with_reducible repeat (first | apply Kd.R_alloc | apply Kd.R_drewN | apply Kd.R_drew)); exact HO_8.out⟩, ⟨by (try simp only [hl8_1]); (with_reducible repeat (first | apply Kd.V_alloc | apply Kd.V_drewN | apply Kd.V_drew)); exact HO_14.out⟩, ⟨by (try simp only [hl8_1]); (with_reducible repeat (first | refine blk_drewN ?_ _ | refine blk_drew ?_ | refine blk_alloc ?_ _)); exact BK117.out⟩, ⟨by (try simp only [hl8_1]); (with_reducible repeat (first | refine blk_drewN ?_ _ | refine blk_drew ?_ | refine blk_alloc ?_ _)); exact BK139.out⟩, ⟨by repeat (first | (with_reducible first | exact HB.out | apply below_alloc | apply pw_below_drewN | apply below_drew1 | refine below_set ?_ GE117.out | refine below_set ?_ GE139.out) | exact HB.out)⟩⟩
                       ·
                        rw [if_neg c67] at H
                        have c67b0 : ((rd t140 x94_4) == (rd x8_1 x94_4)) = false := beq_eq_false_iff_ne.mpr c67
                        have c67b1 : ((rd t140 x94_4) != (rd x8_1 x94_4)) = true := bne_iff_ne.mpr c67
                        obtain rfl := Option.some.inj H
                        try go_wp2
                        have n0_ := Aside0.mk (Kd.R_drew HO_8.out)
                        have n1_ := Aside0.mk (Kd.V_drew HO_14.out)
                        have n2_ := Aside0.mk (blk_drew BK117.out)
                        have n3_ := Aside0.mk (blk_drew BK139.out)
                        have n4_ := Aside0.mk (below_drew1 HB.out)
                        clear HO_8
                        clear HO_14
                        clear BK117
                        clear BK139
                        clear HB
                        have HO_8 := n0_
                        have HO_14 := n1_
                        have BK117 := n2_
                        have BK139 := n3_
                        have HB := n4_
                        clear n0_ n1_ n2_ n3_ n4_
                        have p144 : 0 ≤ (x94_4 : Int) := of_decide_eq_true (by first | (with_reducible assumption) | assumption)
                        have q144 : x94_4 < (t140.length : Int) := of_decide_eq_true (by first | (with_reducible assumption) | assumption)
                        obtain ⟨ad144, e144, hx144_0⟩ := Kd.at_int (Kd.V_reads' HO_14.out).2.2 x94_4 p144 q144
                        cases e144
                        replace p144 := eq_true p144
                        replace q144 := eq_true q144
                        have p145 : 0 ≤ (x94_4 : Int) := of_decide_eq_true (by first | (with_reducible assumption) | assumption)
                        have q145 : x94_4 < (x8_1.length : Int) := of_decide_eq_true (by first | (with_reducible assumption) | assumption)
                        obtain ⟨ad145, e145, hx145_0⟩ := Kd.at_int (Kd.R_reads' HO_8.out).2.2 x94_4 p145 q145
                        cases e145
                        replace p145 := eq_true p145
                        replace q145 := eq_true q145
                        refine start_ (n := 28) (S := fun w' => w'.cell? (ad144.add (x94_4).toNat) = some (.int .u8 (rd t140 x94_4)) ∧ w'.cell? (ad145.add (x94_4).toNat) = some (.int .u8 (rd x8_1 x94_4))) (ds := []) #[false, false, false, false, false, false, false, false, false, false, false, false, false, false, false, false, false, false, false, false, false, false, false, false, false, false, false, false] (by kernel_rfl) rfl rfl ⟨hx144_0, hx145_0⟩ (fun hHeld => ?_); refine with_tabW laws_FnWideBytes.tab31 laws_FnWideBytes.bits31 (fun HT_ HW_ => ?_)
                        generalize wr.drew = w74 at HO_8 HO_14 BK117 BK139 HB hx144_0 hx145_0 hHeld ⊢
                        refine pure_ (i := 0) (N := some 97) (v := ?_) (a' := ?_) #[true, false, false, false, false, false, false, false, false, false, false, false, false, false, false, false, false, false, false, false, false, false, false, false, false, false, false, false] rfl rfl (any_of HT_.out (by kernel_rfl)) (fun _ _ _ h => h) (Or.inl ⟨by rfl, ?_⟩) ?_ ?_
                        rotate_left
                        ·
                         intro w'
                         go_simp
                         with_reducible rfl
                        rotate_left
                        ·
                         simp only [Act.put, List.setIfInBounds_toArray, List.set_cons_zero, List.set_cons_succ, i64_w, i32_w]
                         rfl
                        refine pure_ (i := 1) (N := some 98) (v := ?_) (a' := ?_) #[true, true, false, false, false, false, false, false, false, false, false, false, false, false, false, false, false, false, false, false, false, false, false, false, false, false, false, false] rfl rfl (any_of HT_.out (by kernel_rfl)) (fun _ _ _ h => h) (Or.inl ⟨by rfl, ?_⟩) ?_ ?_
                        rotate_left
                        ·
                         intro w'
                         go_simp
                         with_reducible rfl
                        rotate_left
                        ·
                         simp only [Act.put, List.setIfInBounds_toArray, List.set_cons_zero, List.set_cons_succ, i64_w, i32_w]
                         rfl
                        refine pure_ (i := 2) (N := some 99) (v := ?_) (a' := ?_) #[true, true, true, false, false, false, false, false, false, false, false, false, false, false, false, false, false, false, false, false, false, false, false, false, false, false, false, false] rfl rfl (any_of HT_.out (by kernel_rfl)) (fun _ _ _ h => h) (Or.inl ⟨by rfl, ?_⟩) ?_ ?_
                        rotate_left
                        ·
                         intro w'
                         go_simp
                         with_reducible rfl
                        rotate_left
                        ·
                         simp only [Act.put, List.setIfInBounds_toArray, List.set_cons_zero, List.set_cons_succ, i64_w, i32_w]
                         rfl
                        refine pure_ (i := 3) (N := some 100) (v := ?_) (a' := ?_) #[true, true, true, true, false, false, false, false, false, false, false, false, false, false, false, false, false, false, false, false, false, false, false, false, false, false, false, false] rfl rfl (any_of HT_.out (by kernel_rfl)) (fun _ _ _ h => h) (Or.inl ⟨by rfl, ?_⟩) ?_ ?_
                        rotate_left
                        ·
                         intro w'
                         go_simp
                         with_reducible rfl
                        rotate_left
                        ·
                         simp only [Act.put, List.setIfInBounds_toArray, List.set_cons_zero, List.set_cons_succ, i64_w, i32_w]
                         rfl
                        refine pure_ (i := 4) (N := some 101) (v := ?_) (a' := ?_) #[true, true, true, true, true, false, false, false, false, false, false, false, false, false, false, false, false, false, false, false, false, false, false, false, false, false, false, false] rfl rfl (any_of HT_.out (by kernel_rfl)) (fun _ _ _ h => h) (Or.inl ⟨by rfl, ?_⟩) ?_ ?_
                        rotate_left
                        ·
                         intro w'
                         go_simp
                         with_reducible rfl
                        rotate_left
                        ·
                         simp only [Act.put, List.setIfInBounds_toArray, List.set_cons_zero, List.set_cons_succ, i64_w, i32_w]
                         rfl
                        refine pure_ (i := 5) (N := some 102) (v := ?_) (a' := ?_) #[true, true, true, true, true, true, false, false, false, false, false, false, false, false, false, false, false, false, false, false, false, false, false, false, false, false, false, false] rfl rfl (any_of HT_.out (by kernel_rfl)) (fun _ _ _ h => h) (Or.inl ⟨by rfl, ?_⟩) ?_ ?_
                        rotate_left
                        ·
                         intro w'
                         go_simp
                         with_reducible rfl
                        rotate_left
                        ·
                         simp only [Act.put, List.setIfInBounds_toArray, List.set_cons_zero, List.set_cons_succ, i64_w, i32_w]
                         rfl
                        refine pure_ (i := 7) (N := some 104) (v := ?_) (a' := ?_) #[true, true, true, true, true, true, false, true, false, false, false, false, false, false, false, false, false, false, false, false, false, false, false, false, false, false, false, false] rfl rfl (any_of HT_.out (by kernel_rfl)) (fun _ _ _ h => h) (Or.inl ⟨by rfl, ?_⟩) ?_ ?_
                        rotate_left
                        ·
                         intro w'
                         go_simp
                         with_reducible rfl
                        rotate_left
                        ·
                         simp only [Act.put, List.setIfInBounds_toArray, List.set_cons_zero, List.set_cons_succ, i64_w, i32_w]
                         rfl
                        refine pure_ (i := 8) (N := some 105) (v := ?_) (a' := ?_) #[true, true, true, true, true, true, false, true, true, false, false, false, false, false, false, false, false, false, false, false, false, false, false, false, false, false, false, false] rfl rfl (any_of HT_.out (by kernel_rfl)) (fun _ _ _ h => h) (Or.inl ⟨by rfl, ?_⟩) ?_ ?_
                        rotate_left
                        ·
                         intro w'
                         go_simp
                         with_reducible rfl
                        rotate_left
                        ·
                         simp only [Act.put, List.setIfInBounds_toArray, List.set_cons_zero, List.set_cons_succ, i64_w, i32_w]
                         rfl
                        refine pure_ (i := 9) (N := some 106) (v := ?_) (a' := ?_) #[true, true, true, true, true, true, false, true, true, true, false, false, false, false, false, false, false, false, false, false, false, false, false, false, false, false, false, false] rfl rfl (any_of HT_.out (by kernel_rfl)) (fun _ _ _ h => h) (Or.inl ⟨by rfl, ?_⟩) ?_ ?_
                        rotate_left
                        ·
                         intro w'
                         go_simp
                         with_reducible rfl
                        rotate_left
                        ·
                         simp only [Act.put, List.setIfInBounds_toArray, List.set_cons_zero, List.set_cons_succ, i64_w, i32_w]
                         rfl
                        refine take_ (i := 6) (N := some 103) (v := ?_) (a' := ?_) #[true, true, true, true, true, true, true, true, true, true, false, false, false, false, false, false, false, false, false, false, false, false, false, false, false, false, false, false] rfl rfl (take_ofW HT_.out HW_.out (by kernel_rfl)) (fun _ _ _ h => h) (Or.inl ⟨by rfl, ?_⟩) hHeld ?_ ?_
                        rotate_left
                        ·
                         rintro w' ⟨s0, s1⟩
                         go_simp
                         with_reducible rfl
                        rotate_left
                        ·
                         simp only [Act.put, List.setIfInBounds_toArray, List.set_cons_zero, List.set_cons_succ, i64_w, i32_w]
                         rfl
                        refine take_ (i := 10) (N := some 107) (v := ?_) (a' := ?_) #[true, true, true, true, true, true, true, true, true, true, true, false, false, false, false, false, false, false, false, false, false, false, false, false, false, false, false, false] rfl rfl (take_ofW HT_.out HW_.out (by kernel_rfl)) (fun _ _ _ h => h) (Or.inl ⟨by rfl, ?_⟩) hHeld ?_ ?_
                        rotate_left
                        ·
                         rintro w' ⟨s0, s1⟩
                         go_simp
                         with_reducible rfl
                        rotate_left
                        ·
                         simp only [Act.put, List.setIfInBounds_toArray, List.set_cons_zero, List.set_cons_succ, i64_w, i32_w]
                         rfl
                        refine pure_ (i := 11) (N := some 108) (v := ?_) (a' := ?_) #[true, true, true, true, true, true, true, true, true, true, true, true, false, false, false, false, false, false, false, false, false, false, false, false, false, false, false, false] rfl rfl (any_of HT_.out (by kernel_rfl)) (fun _ _ _ h => h) (Or.inl ⟨by rfl, ?_⟩) ?_ ?_
                        rotate_left
                        ·
                         intro w'
                         go_simp
                         with_reducible rfl
                        rotate_left
                        ·
                         simp only [Act.put, List.setIfInBounds_toArray, List.set_cons_zero, List.set_cons_succ, i64_w, i32_w]
                         rfl
                        refine pure_ (i := 12) (N := some 109) (v := ?_) (a' := ?_) #[true, true, true, true, true, true, true, true, true, true, true, true, true, false, false, false, false, false, false, false, false, false, false, false, false, false, false, false] rfl rfl (any_of HT_.out (by kernel_rfl)) (fun _ _ _ h => h) (Or.inl ⟨by rfl, ?_⟩) ?_ ?_
                        rotate_left
                        ·
                         intro w'
                         go_simp
                         with_reducible rfl
                        rotate_left
                        ·
                         simp only [Act.put, List.setIfInBounds_toArray, List.set_cons_zero, List.set_cons_succ, i64_w, i32_w]
                         rfl
                        refine pure_ (i := 13) (N := some 110) (v := ?_) (a' := ?_) #[true, true, true, true, true, true, true, true, true, true, true, true, true, true, false, false, false, false, false, false, false, false, false, false, false, false, false, false] rfl rfl (any_of HT_.out (by kernel_rfl)) (fun _ _ _ h => h) (Or.inl ⟨by rfl, ?_⟩) ?_ ?_
                        rotate_left
                        ·
                         intro w'
                         go_simp
                         with_reducible rfl
                        rotate_left
                        ·
                         simp only [Act.put, List.setIfInBounds_toArray, List.set_cons_zero, List.set_cons_succ, i64_w, i32_w]
                         rfl
                        refine pure_ (i := 14) (N := some 111) (v := undef) (a' := ?_) #[true, true, true, true, true, true, true, true, true, true, true, true, true, true, true, false, false, false, false, false, false, false, false, false, false, false, false, false] rfl rfl (any_of HT_.out (by kernel_rfl)) (fun _ _ _ h => h) (Or.inr ⟨by rfl, rfl⟩) ?_ ?_
                        rotate_left
                        ·
                         simp only [Act.put, List.setIfInBounds_toArray, List.set_cons_zero, List.set_cons_succ, i64_w, i32_w]
                         rfl
                        refine pure_ (i := 15) (N := some 112) (v := undef) (a' := ?_) #[true, true, true, true, true, true, true, true, true, true, true, true, true, true, true, true, false, false, false, false, false, false, false, false, false, false, false, false] rfl rfl (any_of HT_.out (by kernel_rfl)) (fun _ _ _ h => h) (Or.inr ⟨by rfl, rfl⟩) ?_ ?_
                        rotate_left
                        ·
                         simp only [Act.put, List.setIfInBounds_toArray, List.set_cons_zero, List.set_cons_succ, i64_w, i32_w]
                         rfl
                        refine pure_ (i := 16) (N := some 113) (v := undef) (a' := ?_) #[true, true, true, true, true, true, true, true, true, true, true, true, true, true, true, true, true, false, false, false, false, false, false, false, false, false, false, false] rfl rfl (any_of HT_.out (by kernel_rfl)) (fun _ _ _ h => h) (Or.inr ⟨by rfl, rfl⟩) ?_ ?_
                        rotate_left
                        ·
                         simp only [Act.put, List.setIfInBounds_toArray, List.set_cons_zero, List.set_cons_succ, i64_w, i32_w]
                         rfl
                        refine pure_ (i := 17) (N := some 114) (v := undef) (a' := ?_) #[true, true, true, true, true, true, true, true, true, true, true, true, true, true, true, true, true, true, false, false, false, false, false, false, false, false, false, false] rfl rfl (any_of HT_.out (by kernel_rfl)) (fun _ _ _ h => h) (Or.inr ⟨by rfl, rfl⟩) ?_ ?_
                        rotate_left
                        ·
                         simp only [Act.put, List.setIfInBounds_toArray, List.set_cons_zero, List.set_cons_succ, i64_w, i32_w]
                         rfl
                        refine pure_ (i := 18) (N := some 115) (v := undef) (a' := ?_) #[true, true, true, true, true, true, true, true, true, true, true, true, true, true, true, true, true, true, true, false, false, false, false, false, false, false, false, false] rfl rfl (any_of HT_.out (by kernel_rfl)) (fun _ _ _ h => h) (Or.inr ⟨by rfl, rfl⟩) ?_ ?_
                        rotate_left
                        ·
                         simp only [Act.put, List.setIfInBounds_toArray, List.set_cons_zero, List.set_cons_succ, i64_w, i32_w]
                         rfl
                        refine pure_ (i := 19) (N := some 116) (v := undef) (a' := ?_) #[true, true, true, true, true, true, true, true, true, true, true, true, true, true, true, true, true, true, true, true, false, false, false, false, false, false, false, false] rfl rfl (any_of HT_.out (by kernel_rfl)) (fun _ _ _ h => h) (Or.inr ⟨by rfl, rfl⟩) ?_ ?_
                        rotate_left
                        ·
                         simp only [Act.put, List.setIfInBounds_toArray, List.set_cons_zero, List.set_cons_succ, i64_w, i32_w]
                         rfl
                        refine pure_ (i := 20) (N := some 117) (v := undef) (a' := ?_) #[true, true, true, true, true, true, true, true, true, true, true, true, true, true, true, true, true, true, true, true, true, false, false, false, false, false, false, false] rfl rfl (any_of HT_.out (by kernel_rfl)) (fun _ _ _ h => h) (Or.inr ⟨by rfl, rfl⟩) ?_ ?_
                        rotate_left
                        ·
                         simp only [Act.put, List.setIfInBounds_toArray, List.set_cons_zero, List.set_cons_succ, i64_w, i32_w]
                         rfl
                        refine pure_ (i := 21) (N := some 118) (v := undef) (a' := ?_) #[true, true, true, true, true, true, true, true, true, true, true, true, true, true, true, true, true, true, true, true, true, true, false, false, false, false, false, false] rfl rfl (any_of HT_.out (by kernel_rfl)) (fun _ _ _ h => h) (Or.inr ⟨by rfl, rfl⟩) ?_ ?_
                        rotate_left
                        ·
                         simp only [Act.put, List.setIfInBounds_toArray, List.set_cons_zero, List.set_cons_succ, i64_w, i32_w]
                         rfl
                        refine pure_ (i := 22) (N := some 119) (v := undef) (a' := ?_) #[true, true, true, true, true, true, true, true, true, true, true, true, true, true, true, true, true, true, true, true, true, true, true, false, false, false, false, false] rfl rfl (any_of HT_.out (by kernel_rfl)) (fun _ _ _ h => h) (Or.inr ⟨by rfl, rfl⟩) ?_ ?_
                        rotate_left
                        ·
                         simp only [Act.put, List.setIfInBounds_toArray, List.set_cons_zero, List.set_cons_succ, i64_w, i32_w]
                         rfl
                        refine pure_ (i := 23) (N := some 120) (v := undef) (a' := ?_) #[true, true, true, true, true, true, true, true, true, true, true, true, true, true, true, true, true, true, true, true, true, true, true, true, false, false, false, false] rfl rfl (any_of HT_.out (by kernel_rfl)) (fun _ _ _ h => h) (Or.inr ⟨by rfl, rfl⟩) ?_ ?_
                        rotate_left
                        ·
                         simp only [Act.put, List.setIfInBounds_toArray, List.set_cons_zero, List.set_cons_succ, i64_w, i32_w]
                         rfl
                        refine pure_ (i := 24) (N := some 121) (v := undef) (a' := ?_) #[true, true, true, true, true, true, true, true, true, true, true, true, true, true, true, true, true, true, true, true, true, true, true, true, true, false, false, false] rfl rfl (any_of HT_.out (by kernel_rfl)) (fun _ _ _ h => h) (Or.inr ⟨by rfl, rfl⟩) ?_ ?_
                        rotate_left
                        ·
                         simp only [Act.put, List.setIfInBounds_toArray, List.set_cons_zero, List.set_cons_succ, i64_w, i32_w]
                         rfl
                        refine pure_ (i := 25) (N := some 122) (v := undef) (a' := ?_) #[true, true, true, true, true, true, true, true, true, true, true, true, true, true, true, true, true, true, true, true, true, true, true, true, true, true, false, false] rfl rfl (any_of HT_.out (by kernel_rfl)) (fun _ _ _ h => h) (Or.inr ⟨by rfl, rfl⟩) ?_ ?_
                        rotate_left
                        ·
                         simp only [Act.put, List.setIfInBounds_toArray, List.set_cons_zero, List.set_cons_succ, i64_w, i32_w]
                         rfl
                        refine pure_ (i := 26) (N := some 123) (v := undef) (a' := ?_) #[true, true, true, true, true, true, true, true, true, true, true, true, true, true, true, true, true, true, true, true, true, true, true, true, true, true, true, false] rfl rfl (any_of HT_.out (by kernel_rfl)) (fun _ _ _ h => h) (Or.inr ⟨by rfl, rfl⟩) ?_ ?_
                        rotate_left
                        ·
                         simp only [Act.put, List.setIfInBounds_toArray, List.set_cons_zero, List.set_cons_succ, i64_w, i32_w]
                         rfl
                        refine pure_ (i := 27) (N := some 124) (v := ?_) (a' := ?_) #[true, true, true, true, true, true, true, true, true, true, true, true, true, true, true, true, true, true, true, true, true, true, true, true, true, true, true, true] rfl rfl (any_of HT_.out (by kernel_rfl)) (fun _ _ _ h => h) (Or.inl ⟨by rfl, ?_⟩) ?_ ?_
                        rotate_left
                        ·
                         intro w'
                         go_simp
                         with_reducible rfl
                        rotate_left
                        ·
                         simp only [Act.put, List.setIfInBounds_toArray, List.set_cons_zero, List.set_cons_succ, i64_w, i32_w]
                         rfl
                        refine done_ (done_of HT_.out (by kernel_rfl)) ?_
                        try go_wp2
                        go_ret
                        exact ⟨by first | rfl | (simp [errW_none, errW_some] <;> rfl) | (simp [*, errW_none, errW_some] <;> rfl), by repeat (first | (with_reducible first | exact HB.out | apply below_alloc | apply pw_below_drewN | apply below_drew1 | refine below_set ?_ GE117.out | refine below_set ?_ GE139.out) | exact HB.out)⟩
                      ·
                       rw [if_neg c66] at H
                       exact absurd H (by simp)
                     ·
                      rw [if_neg c65] at H
                      exact absurd H (by simp)
                    ·
                     rw [if_neg c64] at H
                     exact absurd H (by simp)
                   ·
                    rw [if_neg c63] at H
                    have c63b0 : decide (x94_4 < 16) = false := decide_eq_false c63
                    clear c63
                    by_cases c75 : x94_4 ≥ 16
                    ·
                     rw [if_pos c75] at H
                     have c75b0 : decide (16 ≤ x94_4) = true := decide_eq_true c75
                     clear c75
                     by_cases c76 : 0 ≤ x94_4
                     ·
                      rw [if_pos c76] at H
                      have c76b0 : decide (0 ≤ x94_4) = true := decide_eq_true c76
                      clear c76
                      by_cases c77 : x94_4 < (t140.length : Int)
                      ·
                       rw [if_pos c77] at H
                       have c77b0 : decide (x94_4 < (t140.length : Int)) = true := decide_eq_true c77
                       clear c77
                       by_cases c78 : x94_4 < (l1.length : Int)
                       ·
                        rw [if_pos c78] at H
                        have c78b0 : decide (x94_4 < (l1.length : Int)) = true := decide_eq_true c78
                        clear c78
                        by_cases c79 : (rd t140 x94_4) = (rd l1 x94_4)
                        ·
                         rw [if_pos c79] at H
                         have c79b0 : ((rd t140 x94_4) == (rd l1 x94_4)) = true := beq_iff_eq.mpr c79
                         have c79b1 : ((rd t140 x94_4) != (rd l1 x94_4)) = false := bne_eq_false_iff_eq.mpr c79
                         clear c79
                         have H' := Aside0.mk H
                         clear H
                         try go_wp2
                         have n0_ := Aside0.mk (Kd.R_drew HO_8.out)
                         have n1_ := Aside0.mk (Kd.V_drew HO_14.out)
                         have n2_ := Aside0.mk (blk_drew BK117.out)
                         have n3_ := Aside0.mk (blk_drew BK139.out)
                         have n4_ := Aside0.mk (below_drew1 HB.out)
                         clear HO_8
                         clear HO_14
                         clear BK117
                         clear BK139
                         clear HB
                         have HO_8 := n0_
                         have HO_14 := n1_
                         have BK117 := n2_
                         have BK139 := n3_
                         have HB := n4_
                         clear n0_ n1_ n2_ n3_ n4_
                         have p148 : 0 ≤ (x94_4 : Int) := of_decide_eq_true (by first | (with_reducible assumption) | assumption)
                         have q148 : x94_4 < (t140.length : Int) := of_decide_eq_true (by first | (with_reducible assumption) | assumption)
                         obtain ⟨ad148, e148, hx148_0⟩ := Kd.at_int (Kd.V_reads' HO_14.out).2.2 x94_4 p148 q148
                         cases e148
                         replace p148 := eq_true p148
                         replace q148 := eq_true q148
                         have p149 : 0 ≤ (x94_4 : Int) := of_decide_eq_true (by first | (with_reducible assumption) | assumption)
                         have q149 : x94_4 < (l1.length : Int) := of_decide_eq_true (by first | (with_reducible assumption) | assumption)
                         obtain ⟨ad149, e149, hx149_0⟩ := Kd.at_int HR1.out x94_4 p149 q149
                         have hw149_0 := hx149_0
                         cases e149
                         replace hx149_0 := (HB.out.cell (World.block_lt_of_cell? w _ hx149_0)).trans hx149_0
                         replace p149 := eq_true p149
                         replace q149 := eq_true q149
                         refine start_ (n := 28) (S := fun w' => w'.cell? (ad148.add (x94_4).toNat) = some (.int .u8 (rd t140 x94_4)) ∧ w'.cell? (ad149.add (x94_4).toNat) = some (.int .u8 (rd l1 x94_4))) (ds := []) #[false, false, false, false, false, false, false, false, false, false, false, false, false, false, false, false, false, false, false, false, false, false, false, false, false, false, false, false] (by kernel_rfl) rfl rfl ⟨hx148_0, ((HB.out.cell (World.block_lt_of_cell? w _ hw149_0)).trans hw149_0)⟩ (fun hHeld => ?_); refine with_tabW laws_FnWideBytes.tab31 laws_FnWideBytes.bits31 (fun HT_ HW_ => ?_)
                         generalize wr.drew = w80 at HO_8 HO_14 BK117 BK139 HB hx148_0 hx149_0 hHeld ⊢
                         refine pure_ (i := 0) (N := some 97) (v := ?_) (a' := ?_) #[true, false, false, false, false, false, false, false, false, false, false, false, false, false, false, false, false, false, false, false, false, false, false, false, false, false, false, false] rfl rfl (any_of HT_.out (by kernel_rfl)) (fun _ _ _ h => h) (Or.inl ⟨by rfl, ?_⟩) ?_ ?_
                         rotate_left
                         ·
                          intro w'
                          go_simp
                          with_reducible rfl
                         rotate_left
                         ·
                          simp only [Act.put, List.setIfInBounds_toArray, List.set_cons_zero, List.set_cons_succ, i64_w, i32_w]
                          rfl
                         refine pure_ (i := 1) (N := some 98) (v := ?_) (a' := ?_) #[true, true, false, false, false, false, false, false, false, false, false, false, false, false, false, false, false, false, false, false, false, false, false, false, false, false, false, false] rfl rfl (any_of HT_.out (by kernel_rfl)) (fun _ _ _ h => h) (Or.inl ⟨by rfl, ?_⟩) ?_ ?_
                         rotate_left
                         ·
                          intro w'
                          go_simp
                          with_reducible rfl
                         rotate_left
                         ·
                          simp only [Act.put, List.setIfInBounds_toArray, List.set_cons_zero, List.set_cons_succ, i64_w, i32_w]
                          rfl
                         refine pure_ (i := 2) (N := some 99) (v := ?_) (a' := ?_) #[true, true, true, false, false, false, false, false, false, false, false, false, false, false, false, false, false, false, false, false, false, false, false, false, false, false, false, false] rfl rfl (any_of HT_.out (by kernel_rfl)) (fun _ _ _ h => h) (Or.inl ⟨by rfl, ?_⟩) ?_ ?_
                         rotate_left
                         ·
                          intro w'
                          go_simp
                          with_reducible rfl
                         rotate_left
                         ·
                          simp only [Act.put, List.setIfInBounds_toArray, List.set_cons_zero, List.set_cons_succ, i64_w, i32_w]
                          rfl
                         refine pure_ (i := 3) (N := some 100) (v := undef) (a' := ?_) #[true, true, true, true, false, false, false, false, false, false, false, false, false, false, false, false, false, false, false, false, false, false, false, false, false, false, false, false] rfl rfl (any_of HT_.out (by kernel_rfl)) (fun _ _ _ h => h) (Or.inr ⟨by rfl, rfl⟩) ?_ ?_
                         rotate_left
                         ·
                          simp only [Act.put, List.setIfInBounds_toArray, List.set_cons_zero, List.set_cons_succ, i64_w, i32_w]
                          rfl
                         refine pure_ (i := 4) (N := some 101) (v := undef) (a' := ?_) #[true, true, true, true, true, false, false, false, false, false, false, false, false, false, false, false, false, false, false, false, false, false, false, false, false, false, false, false] rfl rfl (any_of HT_.out (by kernel_rfl)) (fun _ _ _ h => h) (Or.inr ⟨by rfl, rfl⟩) ?_ ?_
                         rotate_left
                         ·
                          simp only [Act.put, List.setIfInBounds_toArray, List.set_cons_zero, List.set_cons_succ, i64_w, i32_w]
                          rfl
                         refine pure_ (i := 5) (N := some 102) (v := undef) (a' := ?_) #[true, true, true, true, true, true, false, false, false, false, false, false, false, false, false, false, false, false, false, false, false, false, false, false, false, false, false, false] rfl rfl (any_of HT_.out (by kernel_rfl)) (fun _ _ _ h => h) (Or.inr ⟨by rfl, rfl⟩) ?_ ?_
                         rotate_left
                         ·
                          simp only [Act.put, List.setIfInBounds_toArray, List.set_cons_zero, List.set_cons_succ, i64_w, i32_w]
                          rfl
                         refine pure_ (i := 6) (N := some 103) (v := undef) (a' := ?_) #[true, true, true, true, true, true, true, false, false, false, false, false, false, false, false, false, false, false, false, false, false, false, false, false, false, false, false, false] rfl rfl (any_of HT_.out (by kernel_rfl)) (fun _ _ _ h => h) (Or.inr ⟨by rfl, rfl⟩) ?_ ?_
                         rotate_left
                         ·
                          simp only [Act.put, List.setIfInBounds_toArray, List.set_cons_zero, List.set_cons_succ, i64_w, i32_w]
                          rfl
                         refine pure_ (i := 7) (N := some 104) (v := undef) (a' := ?_) #[true, true, true, true, true, true, true, true, false, false, false, false, false, false, false, false, false, false, false, false, false, false, false, false, false, false, false, false] rfl rfl (any_of HT_.out (by kernel_rfl)) (fun _ _ _ h => h) (Or.inr ⟨by rfl, rfl⟩) ?_ ?_
                         rotate_left
                         ·
                          simp only [Act.put, List.setIfInBounds_toArray, List.set_cons_zero, List.set_cons_succ, i64_w, i32_w]
                          rfl
                         refine pure_ (i := 8) (N := some 105) (v := undef) (a' := ?_) #[true, true, true, true, true, true, true, true, true, false, false, false, false, false, false, false, false, false, false, false, false, false, false, false, false, false, false, false] rfl rfl (any_of HT_.out (by kernel_rfl)) (fun _ _ _ h => h) (Or.inr ⟨by rfl, rfl⟩) ?_ ?_
                         rotate_left
                         ·
                          simp only [Act.put, List.setIfInBounds_toArray, List.set_cons_zero, List.set_cons_succ, i64_w, i32_w]
                          rfl
                         refine pure_ (i := 9) (N := some 106) (v := undef) (a' := ?_) #[true, true, true, true, true, true, true, true, true, true, false, false, false, false, false, false, false, false, false, false, false, false, false, false, false, false, false, false] rfl rfl (any_of HT_.out (by kernel_rfl)) (fun _ _ _ h => h) (Or.inr ⟨by rfl, rfl⟩) ?_ ?_
                         rotate_left
                         ·
                          simp only [Act.put, List.setIfInBounds_toArray, List.set_cons_zero, List.set_cons_succ, i64_w, i32_w]
                          rfl
                         refine pure_ (i := 10) (N := some 107) (v := undef) (a' := ?_) #[true, true, true, true, true, true, true, true, true, true, true, false, false, false, false, false, false, false, false, false, false, false, false, false, false, false, false, false] rfl rfl (any_of HT_.out (by kernel_rfl)) (fun _ _ _ h => h) (Or.inr ⟨by rfl, rfl⟩) ?_ ?_
                         rotate_left
                         ·
                          simp only [Act.put, List.setIfInBounds_toArray, List.set_cons_zero, List.set_cons_succ, i64_w, i32_w]
                          rfl
                         refine pure_ (i := 11) (N := some 108) (v := undef) (a' := ?_) #[true, true, true, true, true, true, true, true, true, true, true, true, false, false, false, false, false, false, false, false, false, false, false, false, false, false, false, false] rfl rfl (any_of HT_.out (by kernel_rfl)) (fun _ _ _ h => h) (Or.inr ⟨by rfl, rfl⟩) ?_ ?_
                         rotate_left
                         ·
                          simp only [Act.put, List.setIfInBounds_toArray, List.set_cons_zero, List.set_cons_succ, i64_w, i32_w]
                          rfl
                         refine pure_ (i := 12) (N := some 109) (v := ?_) (a' := ?_) #[true, true, true, true, true, true, true, true, true, true, true, true, true, false, false, false, false, false, false, false, false, false, false, false, false, false, false, false] rfl rfl (any_of HT_.out (by kernel_rfl)) (fun _ _ _ h => h) (Or.inl ⟨by rfl, ?_⟩) ?_ ?_
                         rotate_left
                         ·
                          intro w'
                          go_simp
                          with_reducible rfl
                         rotate_left
                         ·
                          simp only [Act.put, List.setIfInBounds_toArray, List.set_cons_zero, List.set_cons_succ, i64_w, i32_w]
                          rfl
                         refine pure_ (i := 13) (N := some 110) (v := ?_) (a' := ?_) #[true, true, true, true, true, true, true, true, true, true, true, true, true, true, false, false, false, false, false, false, false, false, false, false, false, false, false, false] rfl rfl (any_of HT_.out (by kernel_rfl)) (fun _ _ _ h => h) (Or.inl ⟨by rfl, ?_⟩) ?_ ?_
                         rotate_left
                         ·
                          intro w'
                          go_simp
                          with_reducible rfl
                         rotate_left
                         ·
                          simp only [Act.put, List.setIfInBounds_toArray, List.set_cons_zero, List.set_cons_succ, i64_w, i32_w]
                          rfl
                         refine pure_ (i := 14) (N := some 111) (v := ?_) (a' := ?_) #[true, true, true, true, true, true, true, true, true, true, true, true, true, true, true, false, false, false, false, false, false, false, false, false, false, false, false, false] rfl rfl (any_of HT_.out (by kernel_rfl)) (fun _ _ _ h => h) (Or.inl ⟨by rfl, ?_⟩) ?_ ?_
                         rotate_left
                         ·
                          intro w'
                          go_simp
                          with_reducible rfl
                         rotate_left
                         ·
                          simp only [Act.put, List.setIfInBounds_toArray, List.set_cons_zero, List.set_cons_succ, i64_w, i32_w]
                          rfl
                         refine pure_ (i := 15) (N := some 112) (v := ?_) (a' := ?_) #[true, true, true, true, true, true, true, true, true, true, true, true, true, true, true, true, false, false, false, false, false, false, false, false, false, false, false, false] rfl rfl (any_of HT_.out (by kernel_rfl)) (fun _ _ _ h => h) (Or.inl ⟨by rfl, ?_⟩) ?_ ?_
                         rotate_left
                         ·
                          intro w'
                          go_simp
                          with_reducible rfl
                         rotate_left
                         ·
                          simp only [Act.put, List.setIfInBounds_toArray, List.set_cons_zero, List.set_cons_succ, i64_w, i32_w]
                          rfl
                         refine pure_ (i := 16) (N := some 113) (v := ?_) (a' := ?_) #[true, true, true, true, true, true, true, true, true, true, true, true, true, true, true, true, true, false, false, false, false, false, false, false, false, false, false, false] rfl rfl (any_of HT_.out (by kernel_rfl)) (fun _ _ _ h => h) (Or.inl ⟨by rfl, ?_⟩) ?_ ?_
                         rotate_left
                         ·
                          intro w'
                          go_simp
                          with_reducible rfl
                         rotate_left
                         ·
                          simp only [Act.put, List.setIfInBounds_toArray, List.set_cons_zero, List.set_cons_succ, i64_w, i32_w]
                          rfl
                         refine pure_ (i := 17) (N := some 114) (v := ?_) (a' := ?_) #[true, true, true, true, true, true, true, true, true, true, true, true, true, true, true, true, true, true, false, false, false, false, false, false, false, false, false, false] rfl rfl (any_of HT_.out (by kernel_rfl)) (fun _ _ _ h => h) (Or.inl ⟨by rfl, ?_⟩) ?_ ?_
                         rotate_left
                         ·
                          intro w'
                          go_simp
                          with_reducible rfl
                         rotate_left
                         ·
                          simp only [Act.put, List.setIfInBounds_toArray, List.set_cons_zero, List.set_cons_succ, i64_w, i32_w]
                          rfl
                         refine pure_ (i := 18) (N := some 115) (v := ?_) (a' := ?_) #[true, true, true, true, true, true, true, true, true, true, true, true, true, true, true, true, true, true, true, false, false, false, false, false, false, false, false, false] rfl rfl (any_of HT_.out (by kernel_rfl)) (fun _ _ _ h => h) (Or.inl ⟨by rfl, ?_⟩) ?_ ?_
                         rotate_left
                         ·
                          intro w'
                          go_simp
                          with_reducible rfl
                         rotate_left
                         ·
                          simp only [Act.put, List.setIfInBounds_toArray, List.set_cons_zero, List.set_cons_succ, i64_w, i32_w]
                          rfl
                         refine pure_ (i := 19) (N := some 116) (v := ?_) (a' := ?_) #[true, true, true, true, true, true, true, true, true, true, true, true, true, true, true, true, true, true, true, true, false, false, false, false, false, false, false, false] rfl rfl (any_of HT_.out (by kernel_rfl)) (fun _ _ _ h => h) (Or.inl ⟨by rfl, ?_⟩) ?_ ?_
                         rotate_left
                         ·
                          intro w'
                          go_simp
                          with_reducible rfl
                         rotate_left
                         ·
                          simp only [Act.put, List.setIfInBounds_toArray, List.set_cons_zero, List.set_cons_succ, i64_w, i32_w]
                          rfl
                         refine pure_ (i := 21) (N := some 118) (v := ?_) (a' := ?_) #[true, true, true, true, true, true, true, true, true, true, true, true, true, true, true, true, true, true, true, true, false, true, false, false, false, false, false, false] rfl rfl (any_of HT_.out (by kernel_rfl)) (fun _ _ _ h => h) (Or.inl ⟨by rfl, ?_⟩) ?_ ?_
                         rotate_left
                         ·
                          intro w'
                          go_simp
                          with_reducible rfl
                         rotate_left
                         ·
                          simp only [Act.put, List.setIfInBounds_toArray, List.set_cons_zero, List.set_cons_succ, i64_w, i32_w]
                          rfl
                         refine pure_ (i := 22) (N := some 119) (v := ?_) (a' := ?_) #[true, true, true, true, true, true, true, true, true, true, true, true, true, true, true, true, true, true, true, true, false, true, true, false, false, false, false, false] rfl rfl (any_of HT_.out (by kernel_rfl)) (fun _ _ _ h => h) (Or.inl ⟨by rfl, ?_⟩) ?_ ?_
                         rotate_left
                         ·
                          intro w'
                          go_simp
                          with_reducible rfl
                         rotate_left
                         ·
                          simp only [Act.put, List.setIfInBounds_toArray, List.set_cons_zero, List.set_cons_succ, i64_w, i32_w]
                          rfl
                         refine pure_ (i := 23) (N := some 120) (v := ?_) (a' := ?_) #[true, true, true, true, true, true, true, true, true, true, true, true, true, true, true, true, true, true, true, true, false, true, true, true, false, false, false, false] rfl rfl (any_of HT_.out (by kernel_rfl)) (fun _ _ _ h => h) (Or.inl ⟨by rfl, ?_⟩) ?_ ?_
                         rotate_left
                         ·
                          intro w'
                          go_simp
                          with_reducible rfl
                         rotate_left
                         ·
                          simp only [Act.put, List.setIfInBounds_toArray, List.set_cons_zero, List.set_cons_succ, i64_w, i32_w]
                          rfl
                         refine take_ (i := 20) (N := some 117) (v := ?_) (a' := ?_) #[true, true, true, true, true, true, true, true, true, true, true, true, true, true, true, true, true, true, true, true, true, true, true, true, false, false, false, false] rfl rfl (take_ofW HT_.out HW_.out (by kernel_rfl)) (fun _ _ _ h => h) (Or.inl ⟨by rfl, ?_⟩) hHeld ?_ ?_
                         rotate_left
                         ·
                          rintro w' ⟨s0, s1⟩
                          go_simp
                          with_reducible rfl
                         rotate_left
                         ·
                          simp only [Act.put, List.setIfInBounds_toArray, List.set_cons_zero, List.set_cons_succ, i64_w, i32_w]
                          rfl
                         refine take_ (i := 24) (N := some 121) (v := ?_) (a' := ?_) #[true, true, true, true, true, true, true, true, true, true, true, true, true, true, true, true, true, true, true, true, true, true, true, true, true, false, false, false] rfl rfl (take_ofW HT_.out HW_.out (by kernel_rfl)) (fun _ _ _ h => h) (Or.inl ⟨by rfl, ?_⟩) hHeld ?_ ?_
                         rotate_left
                         ·
                          rintro w' ⟨s0, s1⟩
                          go_simp
                          with_reducible rfl
                         rotate_left
                         ·
                          simp only [Act.put, List.setIfInBounds_toArray, List.set_cons_zero, List.set_cons_succ, i64_w, i32_w]
                          rfl
                         refine pure_ (i := 25) (N := some 122) (v := ?_) (a' := ?_) #[true, true, true, true, true, true, true, true, true, true, true, true, true, true, true, true, true, true, true, true, true, true, true, true, true, true, false, false] rfl rfl (any_of HT_.out (by kernel_rfl)) (fun _ _ _ h => h) (Or.inl ⟨by rfl, ?_⟩) ?_ ?_
                         rotate_left
                         ·
                          intro w'
                          go_simp
                          with_reducible rfl
                         rotate_left
                         ·
                          simp only [Act.put, List.setIfInBounds_toArray, List.set_cons_zero, List.set_cons_succ, i64_w, i32_w]
                          rfl
                         refine pure_ (i := 26) (N := some 123) (v := ?_) (a' := ?_) #[true, true, true, true, true, true, true, true, true, true, true, true, true, true, true, true, true, true, true, true, true, true, true, true, true, true, true, false] rfl rfl (any_of HT_.out (by kernel_rfl)) (fun _ _ _ h => h) (Or.inl ⟨by rfl, ?_⟩) ?_ ?_
                         rotate_left
                         ·
                          intro w'
                          go_simp
                          with_reducible rfl
                         rotate_left
                         ·
                          simp only [Act.put, List.setIfInBounds_toArray, List.set_cons_zero, List.set_cons_succ, i64_w, i32_w]
                          rfl
                         refine pure_ (i := 27) (N := some 124) (v := ?_) (a' := ?_) #[true, true, true, true, true, true, true, true, true, true, true, true, true, true, true, true, true, true, true, true, true, true, true, true, true, true, true, true] rfl rfl (any_of HT_.out (by kernel_rfl)) (fun _ _ _ h => h) (Or.inl ⟨by rfl, ?_⟩) ?_ ?_
                         rotate_left
                         ·
                          intro w'
                          go_simp
                          with_reducible rfl
                         rotate_left
                         ·
                          simp only [Act.put, List.setIfInBounds_toArray, List.set_cons_zero, List.set_cons_succ, i64_w, i32_w]
                          rfl
                         refine done_ (done_of HT_.out (by kernel_rfl)) ?_
                         try go_wp2
                         go_roundg k4
                         case measure => have := HK1.out; have := HJ33.out; have := HJ53.out; have := HK4.out; omega
                         case rel => exact ⟨(wrap64 (x94_4 + 1)), (by first | rfl | (simp; done) | (simp [*]; done)), H', ⟨by have := HK1.out; have := HJ33.out; have := HJ53.out; have := HK4.out; omega⟩, ⟨by (try simp only [hl8_1]); (with_reducible repeat (first | apply Kd.R_alloc | apply Kd.R_drewN | apply Kd.R_drew)); exact HO_8.out⟩, ⟨by (try simp only [hl8_1]); (with_reducible repeat (first | apply Kd.V_alloc | apply Kd.V_drewN | apply Kd.V_drew)); exact HO_14.out⟩, ⟨by (try simp only [hl8_1]); (with_reducible repeat (first | refine blk_drewN ?_ _ | refine blk_drew ?_ | refine blk_alloc ?_ _)); exact BK117.out⟩, ⟨by (try simp only [hl8_1]); (with_reducible repeat (first | refine blk_drewN ?_ _ | refine blk_drew ?_ | refine blk_alloc ?_ _)); exact BK139.out⟩, ⟨by repeat (first | (with_reducible first | exact HB.out | apply below_alloc | apply pw_below_drewN | apply below_drew1 | refine below_set ?_ GE117.out | refine below_set ?_ GE139.out) | exact HB.out)⟩⟩
                        ·
                         rw [if_neg c79] at H
                         have c79b0 : ((rd t140 x94_4) == (rd l1 x94_4)) = false := beq_eq_false_iff_ne.mpr c79
                         have c79b1 : ((rd t140 x94_4) != (rd l1 x94_4)) = true := bne_iff_ne.mpr c79
                         obtain rfl := Option.some.inj H
                         try go_wp2
                         have n0_ := Aside0.mk (Kd.R_drew HO_8.out)
                         have n1_ := Aside0.mk (Kd.V_drew HO_14.out)
                         have n2_ := Aside0.mk (blk_drew BK117.out)
                         have n3_ := Aside0.mk (blk_drew BK139.out)
                         have n4_ := Aside0.mk (below_drew1 HB.out)
                         clear HO_8
                         clear HO_14
                         clear BK117
                         clear BK139
                         clear HB
                         have HO_8 := n0_
                         have HO_14 := n1_
                         have BK117 := n2_
                         have BK139 := n3_
                         have HB := n4_
                         clear n0_ n1_ n2_ n3_ n4_
                         have p148 : 0 ≤ (x94_4 : Int) := of_decide_eq_true (by first | (with_reducible assumption) | assumption)
                         have q148 : x94_4 < (t140.length : Int) := of_decide_eq_true (by first | (with_reducible assumption) | assumption)
                         obtain ⟨ad148, e148, hx148_0⟩ := Kd.at_int (Kd.V_reads' HO_14.out).2.2 x94_4 p148 q148
                         cases e148
                         replace p148 := eq_true p148
                         replace q148 := eq_true q148
                         have p149 : 0 ≤ (x94_4 : Int) := of_decide_eq_true (by first | (with_reducible assumption) | assumption)
                         have q149 : x94_4 < (l1.length : Int) := of_decide_eq_true (by first | (with_reducible assumption) | assumption)
                         obtain ⟨ad149, e149, hx149_0⟩ := Kd.at_int HR1.out x94_4 p149 q149
                         have hw149_0 := hx149_0
                         cases e149
                         replace hx149_0 := (HB.out.cell (World.block_lt_of_cell? w _ hx149_0)).trans hx149_0
                         replace p149 := eq_true p149
                         replace q149 := eq_true q149
                         refine start_ (n := 28) (S := fun w' => w'.cell? (ad148.add (x94_4).toNat) = some (.int .u8 (rd t140 x94_4)) ∧ w'.cell? (ad149.add (x94_4).toNat) = some (.int .u8 (rd l1 x94_4))) (ds := []) #[false, false, false, false, false, false, false, false, false, false, false, false, false, false, false, false, false, false, false, false, false, false, false, false, false, false, false, false] (by kernel_rfl) rfl rfl ⟨hx148_0, ((HB.out.cell (World.block_lt_of_cell? w _ hw149_0)).trans hw149_0)⟩ (fun hHeld => ?_); refine with_tabW laws_FnWideBytes.tab31 laws_FnWideBytes.bits31 (fun HT_ HW_ => ?_)
                         generalize wr.drew = w81 at HO_8 HO_14 BK117 BK139 HB hx148_0 hx149_0 hHeld ⊢
                         refine pure_ (i := 0) (N := some 97) (v := ?_) (a' := ?_) #[true, false, false, false, false, false, false, false, false, false, false, false, false, false, false, false, false, false, false, false, false, false, false, false, false, false, false, false] rfl rfl (any_of HT_.out (by kernel_rfl)) (fun _ _ _ h => h) (Or.inl ⟨by rfl, ?_⟩) ?_ ?_
                         rotate_left
                         ·
                          intro w'
                          go_simp
                          with_reducible rfl
                         rotate_left
                         ·
                          simp only [Act.put, List.setIfInBounds_toArray, List.set_cons_zero, List.set_cons_succ, i64_w, i32_w]
                          rfl
                         refine pure_ (i := 1) (N := some 98) (v := ?_) (a' := ?_) #[true, true, false, false, false, false, false, false, false, false, false, false, false, false, false, false, false, false, false, false, false, false, false, false, false, false, false, false] rfl rfl (any_of HT_.out (by kernel_rfl)) (fun _ _ _ h => h) (Or.inl ⟨by rfl, ?_⟩) ?_ ?_
                         rotate_left
                         ·
                          intro w'
                          go_simp
                          with_reducible rfl
                         rotate_left
                         ·
                          simp only [Act.put, List.setIfInBounds_toArray, List.set_cons_zero, List.set_cons_succ, i64_w, i32_w]
                          rfl
                         refine pure_ (i := 2) (N := some 99) (v := ?_) (a' := ?_) #[true, true, true, false, false, false, false, false, false, false, false, false, false, false, false, false, false, false, false, false, false, false, false, false, false, false, false, false] rfl rfl (any_of HT_.out (by kernel_rfl)) (fun _ _ _ h => h) (Or.inl ⟨by rfl, ?_⟩) ?_ ?_
                         rotate_left
                         ·
                          intro w'
                          go_simp
                          with_reducible rfl
                         rotate_left
                         ·
                          simp only [Act.put, List.setIfInBounds_toArray, List.set_cons_zero, List.set_cons_succ, i64_w, i32_w]
                          rfl
                         refine pure_ (i := 3) (N := some 100) (v := undef) (a' := ?_) #[true, true, true, true, false, false, false, false, false, false, false, false, false, false, false, false, false, false, false, false, false, false, false, false, false, false, false, false] rfl rfl (any_of HT_.out (by kernel_rfl)) (fun _ _ _ h => h) (Or.inr ⟨by rfl, rfl⟩) ?_ ?_
                         rotate_left
                         ·
                          simp only [Act.put, List.setIfInBounds_toArray, List.set_cons_zero, List.set_cons_succ, i64_w, i32_w]
                          rfl
                         refine pure_ (i := 4) (N := some 101) (v := undef) (a' := ?_) #[true, true, true, true, true, false, false, false, false, false, false, false, false, false, false, false, false, false, false, false, false, false, false, false, false, false, false, false] rfl rfl (any_of HT_.out (by kernel_rfl)) (fun _ _ _ h => h) (Or.inr ⟨by rfl, rfl⟩) ?_ ?_
                         rotate_left
                         ·
                          simp only [Act.put, List.setIfInBounds_toArray, List.set_cons_zero, List.set_cons_succ, i64_w, i32_w]
                          rfl
                         refine pure_ (i := 5) (N := some 102) (v := undef) (a' := ?_) #[true, true, true, true, true, true, false, false, false, false, false, false, false, false, false, false, false, false, false, false, false, false, false, false, false, false, false, false] rfl rfl (any_of HT_.out (by kernel_rfl)) (fun _ _ _ h => h) (Or.inr ⟨by rfl, rfl⟩) ?_ ?_
                         rotate_left
                         ·
                          simp only [Act.put, List.setIfInBounds_toArray, List.set_cons_zero, List.set_cons_succ, i64_w, i32_w]
                          rfl
                         refine pure_ (i := 6) (N := some 103) (v := undef) (a' := ?_) #[true, true, true, true, true, true, true, false, false, false, false, false, false, false, false, false, false, false, false, false, false, false, false, false, false, false, false, false] rfl rfl (any_of HT_.out (by kernel_rfl)) (fun _ _ _ h => h) (Or.inr ⟨by rfl, rfl⟩) ?_ ?_
                         rotate_left
                         ·
                          simp only [Act.put, List.setIfInBounds_toArray, List.set_cons_zero, List.set_cons_succ, i64_w, i32_w]
                          rfl
                         refine pure_ (i := 7) (N := some 104) (v := undef) (a' := ?_) #[true, true, true, true, true, true, true, true, false, false, false, false, false, false, false, false, false, false, false, false, false, false, false, false, false, false, false, false] rfl rfl (any_of HT_.out (by kernel_rfl)) (fun _ _ _ h => h) (Or.inr ⟨by rfl, rfl⟩) ?_ ?_
                         rotate_left
                         ·
                          simp only [Act.put, List.setIfInBounds_toArray, List.set_cons_zero, List.set_cons_succ, i64_w, i32_w]
                          rfl
                         refine pure_ (i := 8) (N := some 105) (v := undef) (a' := ?_) #[true, true, true, true, true, true, true, true, true, false, false, false, false, false, false, false, false, false, false, false, false, false, false, false, false, false, false, false] rfl rfl (any_of HT_.out (by kernel_rfl)) (fun _ _ _ h => h) (Or.inr ⟨by rfl, rfl⟩) ?_ ?_
                         rotate_left
                         ·
                          simp only [Act.put, List.setIfInBounds_toArray, List.set_cons_zero, List.set_cons_succ, i64_w, i32_w]
                          rfl
                         refine pure_ (i := 9) (N := some 106) (v := undef) (a' := ?_) #[true, true, true, true, true, true, true, true, true, true, false, false, false, false, false, false, false, false, false, false, false, false, false, false, false, false, false, false] rfl rfl (any_of HT_.out (by kernel_rfl)) (fun _ _ _ h => h) (Or.inr ⟨by rfl, rfl⟩) ?_ ?_
                         rotate_left
                         ·
                          simp only [Act.put, List.setIfInBounds_toArray, List.set_cons_zero, List.set_cons_succ, i64_w, i32_w]
                          rfl
                         refine pure_ (i := 10) (N := some 107) (v := undef) (a' := ?_) #[true, true, true, true, true, true, true, true, true, true, true, false, false, false, false, false, false, false, false, false, false, false, false, false, false, false, false, false] rfl rfl (any_of HT_.out (by kernel_rfl)) (fun _ _ _ h => h) (Or.inr ⟨by rfl, rfl⟩) ?_ ?_
                         rotate_left
                         ·
                          simp only [Act.put, List.setIfInBounds_toArray, List.set_cons_zero, List.set_cons_succ, i64_w, i32_w]
                          rfl
                         refine pure_ (i := 11) (N := some 108) (v := undef) (a' := ?_) #[true, true, true, true, true, true, true, true, true, true, true, true, false, false, false, false, false, false, false, false, false, false, false, false, false, false, false, false] rfl rfl (any_of HT_.out (by kernel_rfl)) (fun _ _ _ h => h) (Or.inr ⟨by rfl, rfl⟩) ?_ ?_
                         rotate_left
                         ·
                          simp only [Act.put, List.setIfInBounds_toArray, List.set_cons_zero, List.set_cons_succ, i64_w, i32_w]
                          rfl
                         refine pure_ (i := 12) (N := some 109) (v := ?_) (a' := ?_) #[true, true, true, true, true, true, true, true, true, true, true, true, true, false, false, false, false, false, false, false, false, false, false, false, false, false, false, false] rfl rfl (any_of HT_.out (by kernel_rfl)) (fun _ _ _ h => h) (Or.inl ⟨by rfl, ?_⟩) ?_ ?_
                         rotate_left
                         ·
                          intro w'
                          go_simp
                          with_reducible rfl
                         rotate_left
                         ·
                          simp only [Act.put, List.setIfInBounds_toArray, List.set_cons_zero, List.set_cons_succ, i64_w, i32_w]
                          rfl
                         refine pure_ (i := 13) (N := some 110) (v := ?_) (a' := ?_) #[true, true, true, true, true, true, true, true, true, true, true, true, true, true, false, false, false, false, false, false, false, false, false, false, false, false, false, false] rfl rfl (any_of HT_.out (by kernel_rfl)) (fun _ _ _ h => h) (Or.inl ⟨by rfl, ?_⟩) ?_ ?_
                         rotate_left
                         ·
                          intro w'
                          go_simp
                          with_reducible rfl
                         rotate_left
                         ·
                          simp only [Act.put, List.setIfInBounds_toArray, List.set_cons_zero, List.set_cons_succ, i64_w, i32_w]
                          rfl
                         refine pure_ (i := 14) (N := some 111) (v := ?_) (a' := ?_) #[true, true, true, true, true, true, true, true, true, true, true, true, true, true, true, false, false, false, false, false, false, false, false, false, false, false, false, false] rfl rfl (any_of HT_.out (by kernel_rfl)) (fun _ _ _ h => h) (Or.inl ⟨by rfl, ?_⟩) ?_ ?_
                         rotate_left
                         ·
                          intro w'
                          go_simp
                          with_reducible rfl
                         rotate_left
                         ·
                          simp only [Act.put, List.setIfInBounds_toArray, List.set_cons_zero, List.set_cons_succ, i64_w, i32_w]
                          rfl
                         refine pure_ (i := 15) (N := some 112) (v := ?_) (a' := ?_) #[true, true, true, true, true, true, true, true, true, true, true, true, true, true, true, true, false, false, false, false, false, false, false, false, false, false, false, false] rfl rfl (any_of HT_.out (by kernel_rfl)) (fun _ _ _ h => h) (Or.inl ⟨by rfl, ?_⟩) ?_ ?_
                         rotate_left
                         ·
                          intro w'
                          go_simp
                          with_reducible rfl
                         rotate_left
                         ·
                          simp only [Act.put, List.setIfInBounds_toArray, List.set_cons_zero, List.set_cons_succ, i64_w, i32_w]
                          rfl
                         refine pure_ (i := 16) (N := some 113) (v := ?_) (a' := ?_) #[true, true, true, true, true, true, true, true, true, true, true, true, true, true, true, true, true, false, false, false, false, false, false, false, false, false, false, false] rfl rfl (any_of HT_.out (by kernel_rfl)) (fun _ _ _ h => h) (Or.inl ⟨by rfl, ?_⟩) ?_ ?_
                         rotate_left
                         ·
                          intro w'
                          go_simp
                          with_reducible rfl
                         rotate_left
                         ·
                          simp only [Act.put, List.setIfInBounds_toArray, List.set_cons_zero, List.set_cons_succ, i64_w, i32_w]
                          rfl
                         refine pure_ (i := 17) (N := some 114) (v := ?_) (a' := ?_) #[true, true, true, true, true, true, true, true, true, true, true, true, true, true, true, true, true, true, false, false, false, false, false, false, false, false, false, false] rfl rfl (any_of HT_.out (by kernel_rfl)) (fun _ _ _ h => h) (Or.inl ⟨by rfl, ?_⟩) ?_ ?_
                         rotate_left
                         ·
                          intro w'
                          go_simp
                          with_reducible rfl
                         rotate_left
                         ·
                          simp only [Act.put, List.setIfInBounds_toArray, List.set_cons_zero, List.set_cons_succ, i64_w, i32_w]
                          rfl
                         refine pure_ (i := 18) (N := some 115) (v := ?_) (a' := ?_) #[true, true, true, true, true, true, true, true, true, true, true, true, true, true, true, true, true, true, true, false, false, false, false, false, false, false, false, false] rfl rfl (any_of HT_.out (by kernel_rfl)) (fun _ _ _ h => h) (Or.inl ⟨by rfl, ?_⟩) ?_ ?_
                         rotate_left
                         ·
                          intro w'
                          go_simp
                          with_reducible rfl
                         rotate_left
                         ·
                          simp only [Act.put, List.setIfInBounds_toArray, List.set_cons_zero, List.set_cons_succ, i64_w, i32_w]
                          rfl
                         refine pure_ (i := 19) (N := some 116) (v := ?_) (a' := ?_) #[true, true, true, true, true, true, true, true, true, true, true, true, true, true, true, true, true, true, true, true, false, false, false, false, false, false, false, false] rfl rfl (any_of HT_.out (by kernel_rfl)) (fun _ _ _ h => h) (Or.inl ⟨by rfl, ?_⟩) ?_ ?_
                         rotate_left
                         ·
                          intro w'
                          go_simp
                          with_reducible rfl
                         rotate_left
                         ·
                          simp only [Act.put, List.setIfInBounds_toArray, List.set_cons_zero, List.set_cons_succ, i64_w, i32_w]
                          rfl
                         refine pure_ (i := 21) (N := some 118) (v := ?_) (a' := ?_) #[true, true, true, true, true, true, true, true, true, true, true, true, true, true, true, true, true, true, true, true, false, true, false, false, false, false, false, false] rfl rfl (any_of HT_.out (by kernel_rfl)) (fun _ _ _ h => h) (Or.inl ⟨by rfl, ?_⟩) ?_ ?_
                         rotate_left
                         ·
                          intro w'
                          go_simp
                          with_reducible rfl
                         rotate_left
                         ·
                          simp only [Act.put, List.setIfInBounds_toArray, List.set_cons_zero, List.set_cons_succ, i64_w, i32_w]
                          rfl
                         refine pure_ (i := 22) (N := some 119) (v := ?_) (a' := ?_) #[true, true, true, true, true, true, true, true, true, true, true, true, true, true, true, true, true, true, true, true, false, true, true, false, false, false, false, false] rfl rfl (any_of HT_.out (by kernel_rfl)) (fun _ _ _ h => h) (Or.inl ⟨by rfl, ?_⟩) ?_ ?_
                         rotate_left
                         ·
                          intro w'
                          go_simp
                          with_reducible rfl
                         rotate_left
                         ·
                          simp only [Act.put, List.setIfInBounds_toArray, List.set_cons_zero, List.set_cons_succ, i64_w, i32_w]
                          rfl
                         refine pure_ (i := 23) (N := some 120) (v := ?_) (a' := ?_) #[true, true, true, true, true, true, true, true, true, true, true, true, true, true, true, true, true, true, true, true, false, true, true, true, false, false, false, false] rfl rfl (any_of HT_.out (by kernel_rfl)) (fun _ _ _ h => h) (Or.inl ⟨by rfl, ?_⟩) ?_ ?_
                         rotate_left
                         ·
                          intro w'
                          go_simp
                          with_reducible rfl
                         rotate_left
                         ·
                          simp only [Act.put, List.setIfInBounds_toArray, List.set_cons_zero, List.set_cons_succ, i64_w, i32_w]
                          rfl
                         refine take_ (i := 20) (N := some 117) (v := ?_) (a' := ?_) #[true, true, true, true, true, true, true, true, true, true, true, true, true, true, true, true, true, true, true, true, true, true, true, true, false, false, false, false] rfl rfl (take_ofW HT_.out HW_.out (by kernel_rfl)) (fun _ _ _ h => h) (Or.inl ⟨by rfl, ?_⟩) hHeld ?_ ?_
                         rotate_left
                         ·
                          rintro w' ⟨s0, s1⟩
                          go_simp
                          with_reducible rfl
                         rotate_left
                         ·
                          simp only [Act.put, List.setIfInBounds_toArray, List.set_cons_zero, List.set_cons_succ, i64_w, i32_w]
                          rfl
                         refine take_ (i := 24) (N := some 121) (v := ?_) (a' := ?_) #[true, true, true, true, true, true, true, true, true, true, true, true, true, true, true, true, true, true, true, true, true, true, true, true, true, false, false, false] rfl rfl (take_ofW HT_.out HW_.out (by kernel_rfl)) (fun _ _ _ h => h) (Or.inl ⟨by rfl, ?_⟩) hHeld ?_ ?_
                         rotate_left
                         ·
                          rintro w' ⟨s0, s1⟩
                          go_simp
                          with_reducible rfl
                         rotate_left
                         ·
                          simp only [Act.put, List.setIfInBounds_toArray, List.set_cons_zero, List.set_cons_succ, i64_w, i32_w]
                          rfl
                         refine pure_ (i := 25) (N := some 122) (v := ?_) (a' := ?_) #[true, true, true, true, true, true, true, true, true, true, true, true, true, true, true, true, true, true, true, true, true, true, true, true, true, true, false, false] rfl rfl (any_of HT_.out (by kernel_rfl)) (fun _ _ _ h => h) (Or.inl ⟨by rfl, ?_⟩) ?_ ?_
                         rotate_left
                         ·
                          intro w'
                          go_simp
                          with_reducible rfl
                         rotate_left
                         ·
                          simp only [Act.put, List.setIfInBounds_toArray, List.set_cons_zero, List.set_cons_succ, i64_w, i32_w]
                          rfl
                         refine pure_ (i := 26) (N := some 123) (v := ?_) (a' := ?_) #[true, true, true, true, true, true, true, true, true, true, true, true, true, true, true, true, true, true, true, true, true, true, true, true, true, true, true, false] rfl rfl (any_of HT_.out (by kernel_rfl)) (fun _ _ _ h => h) (Or.inl ⟨by rfl, ?_⟩) ?_ ?_
                         rotate_left
                         ·
                          intro w'
                          go_simp
                          with_reducible rfl
                         rotate_left
                         ·
                          simp only [Act.put, List.setIfInBounds_toArray, List.set_cons_zero, List.set_cons_succ, i64_w, i32_w]
                          rfl
                         refine pure_ (i := 27) (N := some 124) (v := ?_) (a' := ?_) #[true, true, true, true, true, true, true, true, true, true, true, true, true, true, true, true, true, true, true, true, true, true, true, true, true, true, true, true] rfl rfl (any_of HT_.out (by kernel_rfl)) (fun _ _ _ h => h) (Or.inl ⟨by rfl, ?_⟩) ?_ ?_
                         rotate_left
                         ·
                          intro w'
                          go_simp
                          with_reducible rfl
                         rotate_left
                         ·
                          simp only [Act.put, List.setIfInBounds_toArray, List.set_cons_zero, List.set_cons_succ, i64_w, i32_w]
                          rfl
                         refine done_ (done_of HT_.out (by kernel_rfl)) ?_
                         try go_wp2
                         go_ret
                         exact ⟨by first | rfl | (simp [errW_none, errW_some] <;> rfl) | (simp [*, errW_none, errW_some] <;> rfl), by repeat (first | (with_reducible first | exact HB.out | apply below_alloc | apply pw_below_drewN | apply below_drew1 | refine below_set ?_ GE117.out | refine below_set ?_ GE139.out) | exact HB.out)⟩
                       ·
                        rw [if_neg c78] at H
                        exact absurd H (by simp)
                      ·
                       rw [if_neg c77] at H
                       exact absurd H (by simp)
                     ·
                      rw [if_neg c76] at H
                      exact absurd H (by simp)
                    ·
                     rw [if_neg c75] at H
                     have c75b0 : decide (16 ≤ x94_4) = false := decide_eq_false c75
                     clear c75
                     have H' := Aside0.mk H
                     clear H
                     try go_wp2
                     have n0_ := Aside0.mk (Kd.R_drew HO_8.out)
                     have n1_ := Aside0.mk (Kd.V_drew HO_14.out)
                     have n2_ := Aside0.mk (blk_drew BK117.out)
                     have n3_ := Aside0.mk (blk_drew BK139.out)
                     have n4_ := Aside0.mk (below_drew1 HB.out)
                     clear HO_8
                     clear HO_14
                     clear BK117
                     clear BK139
                     clear HB
                     have HO_8 := n0_
                     have HO_14 := n1_
                     have BK117 := n2_
                     have BK139 := n3_
                     have HB := n4_
                     clear n0_ n1_ n2_ n3_ n4_
                     refine start_ (n := 28) (S := fun w' => True) (ds := []) #[false, false, false, false, false, false, false, false, false, false, false, false, false, false, false, false, false, false, false, false, false, false, false, false, false, false, false, false] (by kernel_rfl) rfl rfl trivial (fun hHeld => ?_); refine with_tabW laws_FnWideBytes.tab31 laws_FnWideBytes.bits31 (fun HT_ HW_ => ?_)
                     generalize wr.drew = w82 at HO_8 HO_14 BK117 BK139 HB hHeld ⊢
                     refine pure_ (i := 0) (N := some 97) (v := ?_) (a' := ?_) #[true, false, false, false, false, false, false, false, false, false, false, false, false, false, false, false, false, false, false, false, false, false, false, false, false, false, false, false] rfl rfl (any_of HT_.out (by kernel_rfl)) (fun _ _ _ h => h) (Or.inl ⟨by rfl, ?_⟩) ?_ ?_
                     rotate_left
                     ·
                      intro w'
                      go_simp
                      with_reducible rfl
                     rotate_left
                     ·
                      simp only [Act.put, List.setIfInBounds_toArray, List.set_cons_zero, List.set_cons_succ, i64_w, i32_w]
                      rfl
                     refine pure_ (i := 1) (N := some 98) (v := ?_) (a' := ?_) #[true, true, false, false, false, false, false, false, false, false, false, false, false, false, false, false, false, false, false, false, false, false, false, false, false, false, false, false] rfl rfl (any_of HT_.out (by kernel_rfl)) (fun _ _ _ h => h) (Or.inl ⟨by rfl, ?_⟩) ?_ ?_
                     rotate_left
                     ·
                      intro w'
                      go_simp
                      with_reducible rfl
                     rotate_left
                     ·
                      simp only [Act.put, List.setIfInBounds_toArray, List.set_cons_zero, List.set_cons_succ, i64_w, i32_w]
                      rfl
                     refine pure_ (i := 2) (N := some 99) (v := ?_) (a' := ?_) #[true, true, true, false, false, false, false, false, false, false, false, false, false, false, false, false, false, false, false, false, false, false, false, false, false, false, false, false] rfl rfl (any_of HT_.out (by kernel_rfl)) (fun _ _ _ h => h) (Or.inl ⟨by rfl, ?_⟩) ?_ ?_
                     rotate_left
                     ·
                      intro w'
                      go_simp
                      with_reducible rfl
                     rotate_left
                     ·
                      simp only [Act.put, List.setIfInBounds_toArray, List.set_cons_zero, List.set_cons_succ, i64_w, i32_w]
                      rfl
                     refine pure_ (i := 3) (N := some 100) (v := undef) (a' := ?_) #[true, true, true, true, false, false, false, false, false, false, false, false, false, false, false, false, false, false, false, false, false, false, false, false, false, false, false, false] rfl rfl (any_of HT_.out (by kernel_rfl)) (fun _ _ _ h => h) (Or.inr ⟨by rfl, rfl⟩) ?_ ?_
                     rotate_left
                     ·
                      simp only [Act.put, List.setIfInBounds_toArray, List.set_cons_zero, List.set_cons_succ, i64_w, i32_w]
                      rfl
                     refine pure_ (i := 4) (N := some 101) (v := undef) (a' := ?_) #[true, true, true, true, true, false, false, false, false, false, false, false, false, false, false, false, false, false, false, false, false, false, false, false, false, false, false, false] rfl rfl (any_of HT_.out (by kernel_rfl)) (fun _ _ _ h => h) (Or.inr ⟨by rfl, rfl⟩) ?_ ?_
                     rotate_left
                     ·
                      simp only [Act.put, List.setIfInBounds_toArray, List.set_cons_zero, List.set_cons_succ, i64_w, i32_w]
                      rfl
                     refine pure_ (i := 5) (N := some 102) (v := undef) (a' := ?_) #[true, true, true, true, true, true, false, false, false, false, false, false, false, false, false, false, false, false, false, false, false, false, false, false, false, false, false, false] rfl rfl (any_of HT_.out (by kernel_rfl)) (fun _ _ _ h => h) (Or.inr ⟨by rfl, rfl⟩) ?_ ?_
                     rotate_left
                     ·
                      simp only [Act.put, List.setIfInBounds_toArray, List.set_cons_zero, List.set_cons_succ, i64_w, i32_w]
                      rfl
                     refine pure_ (i := 6) (N := some 103) (v := undef) (a' := ?_) #[true, true, true, true, true, true, true, false, false, false, false, false, false, false, false, false, false, false, false, false, false, false, false, false, false, false, false, false] rfl rfl (any_of HT_.out (by kernel_rfl)) (fun _ _ _ h => h) (Or.inr ⟨by rfl, rfl⟩) ?_ ?_
                     rotate_left
                     ·
                      simp only [Act.put, List.setIfInBounds_toArray, List.set_cons_zero, List.set_cons_succ, i64_w, i32_w]
                      rfl
                     refine pure_ (i := 7) (N := some 104) (v := undef) (a' := ?_) #[true, true, true, true, true, true, true, true, false, false, false, false, false, false, false, false, false, false, false, false, false, false, false, false, false, false, false, false] rfl rfl (any_of HT_.out (by kernel_rfl)) (fun _ _ _ h => h) (Or.inr ⟨by rfl, rfl⟩) ?_ ?_
                     rotate_left
                     ·
                      simp only [Act.put, List.setIfInBounds_toArray, List.set_cons_zero, List.set_cons_succ, i64_w, i32_w]
                      rfl
                     refine pure_ (i := 8) (N := some 105) (v := undef) (a' := ?_) #[true, true, true, true, true, true, true, true, true, false, false, false, false, false, false, false, false, false, false, false, false, false, false, false, false, false, false, false] rfl rfl (any_of HT_.out (by kernel_rfl)) (fun _ _ _ h => h) (Or.inr ⟨by rfl, rfl⟩) ?_ ?_
                     rotate_left
                     ·
                      simp only [Act.put, List.setIfInBounds_toArray, List.set_cons_zero, List.set_cons_succ, i64_w, i32_w]
                      rfl
                     refine pure_ (i := 9) (N := some 106) (v := undef) (a' := ?_) #[true, true, true, true, true, true, true, true, true, true, false, false, false, false, false, false, false, false, false, false, false, false, false, false, false, false, false, false] rfl rfl (any_of HT_.out (by kernel_rfl)) (fun _ _ _ h => h) (Or.inr ⟨by rfl, rfl⟩) ?_ ?_
                     rotate_left
                     ·
                      simp only [Act.put, List.setIfInBounds_toArray, List.set_cons_zero, List.set_cons_succ, i64_w, i32_w]
                      rfl
                     refine pure_ (i := 10) (N := some 107) (v := undef) (a' := ?_) #[true, true, true, true, true, true, true, true, true, true, true, false, false, false, false, false, false, false, false, false, false, false, false, false, false, false, false, false] rfl rfl (any_of HT_.out (by kernel_rfl)) (fun _ _ _ h => h) (Or.inr ⟨by rfl, rfl⟩) ?_ ?_
                     rotate_left
                     ·
                      simp only [Act.put, List.setIfInBounds_toArray, List.set_cons_zero, List.set_cons_succ, i64_w, i32_w]
                      rfl
                     refine pure_ (i := 11) (N := some 108) (v := undef) (a' := ?_) #[true, true, true, true, true, true, true, true, true, true, true, true, false, false, false, false, false, false, false, false, false, false, false, false, false, false, false, false] rfl rfl (any_of HT_.out (by kernel_rfl)) (fun _ _ _ h => h) (Or.inr ⟨by rfl, rfl⟩) ?_ ?_
                     rotate_left
                     ·
                      simp only [Act.put, List.setIfInBounds_toArray, List.set_cons_zero, List.set_cons_succ, i64_w, i32_w]
                      rfl
                     refine pure_ (i := 12) (N := some 109) (v := ?_) (a' := ?_) #[true, true, true, true, true, true, true, true, true, true, true, true, true, false, false, false, false, false, false, false, false, false, false, false, false, false, false, false] rfl rfl (any_of HT_.out (by kernel_rfl)) (fun _ _ _ h => h) (Or.inl ⟨by rfl, ?_⟩) ?_ ?_
                     rotate_left
                     ·
                      intro w'
                      go_simp
                      with_reducible rfl
                     rotate_left
                     ·
                      simp only [Act.put, List.setIfInBounds_toArray, List.set_cons_zero, List.set_cons_succ, i64_w, i32_w]
                      rfl
                     refine pure_ (i := 13) (N := some 110) (v := ?_) (a' := ?_) #[true, true, true, true, true, true, true, true, true, true, true, true, true, true, false, false, false, false, false, false, false, false, false, false, false, false, false, false] rfl rfl (any_of HT_.out (by kernel_rfl)) (fun _ _ _ h => h) (Or.inl ⟨by rfl, ?_⟩) ?_ ?_
                     rotate_left
                     ·
                      intro w'
                      go_simp
                      with_reducible rfl
                     rotate_left
                     ·
                      simp only [Act.put, List.setIfInBounds_toArray, List.set_cons_zero, List.set_cons_succ, i64_w, i32_w]
                      rfl
                     refine pure_ (i := 14) (N := some 111) (v := ?_) (a' := ?_) #[true, true, true, true, true, true, true, true, true, true, true, true, true, true, true, false, false, false, false, false, false, false, false, false, false, false, false, false] rfl rfl (any_of HT_.out (by kernel_rfl)) (fun _ _ _ h => h) (Or.inl ⟨by rfl, ?_⟩) ?_ ?_
                     rotate_left
                     ·
                      intro w'
                      go_simp
                      with_reducible rfl
                     rotate_left
                     ·
                      simp only [Act.put, List.setIfInBounds_toArray, List.set_cons_zero, List.set_cons_succ, i64_w, i32_w]
                      rfl
                     refine pure_ (i := 15) (N := some 112) (v := ?_) (a' := ?_) #[true, true, true, true, true, true, true, true, true, true, true, true, true, true, true, true, false, false, false, false, false, false, false, false, false, false, false, false] rfl rfl (any_of HT_.out (by kernel_rfl)) (fun _ _ _ h => h) (Or.inl ⟨by rfl, ?_⟩) ?_ ?_
                     rotate_left
                     ·
                      intro w'
                      go_simp
                      with_reducible rfl
                     rotate_left
                     ·
                      simp only [Act.put, List.setIfInBounds_toArray, List.set_cons_zero, List.set_cons_succ, i64_w, i32_w]
                      rfl
                     refine pure_ (i := 16) (N := some 113) (v := ?_) (a' := ?_) #[true, true, true, true, true, true, true, true, true, true, true, true, true, true, true, true, true, false, false, false, false, false, false, false, false, false, false, false] rfl rfl (any_of HT_.out (by kernel_rfl)) (fun _ _ _ h => h) (Or.inl ⟨by rfl, ?_⟩) ?_ ?_
                     rotate_left
                     ·
                      intro w'
                      go_simp
                      with_reducible rfl
                     rotate_left
                     ·
                      simp only [Act.put, List.setIfInBounds_toArray, List.set_cons_zero, List.set_cons_succ, i64_w, i32_w]
                      rfl
                     refine pure_ (i := 17) (N := some 114) (v := undef) (a' := ?_) #[true, true, true, true, true, true, true, true, true, true, true, true, true, true, true, true, true, true, false, false, false, false, false, false, false, false, false, false] rfl rfl (any_of HT_.out (by kernel_rfl)) (fun _ _ _ h => h) (Or.inr ⟨by rfl, rfl⟩) ?_ ?_
                     rotate_left
                     ·
                      simp only [Act.put, List.setIfInBounds_toArray, List.set_cons_zero, List.set_cons_succ, i64_w, i32_w]
                      rfl
                     refine pure_ (i := 18) (N := some 115) (v := undef) (a' := ?_) #[true, true, true, true, true, true, true, true, true, true, true, true, true, true, true, true, true, true, true, false, false, false, false, false, false, false, false, false] rfl rfl (any_of HT_.out (by kernel_rfl)) (fun _ _ _ h => h) (Or.inr ⟨by rfl, rfl⟩) ?_ ?_
                     rotate_left
                     ·
                      simp only [Act.put, List.setIfInBounds_toArray, List.set_cons_zero, List.set_cons_succ, i64_w, i32_w]
                      rfl
                     refine pure_ (i := 19) (N := some 116) (v := undef) (a' := ?_) #[true, true, true, true, true, true, true, true, true, true, true, true, true, true, true, true, true, true, true, true, false, false, false, false, false, false, false, false] rfl rfl (any_of HT_.out (by kernel_rfl)) (fun _ _ _ h => h) (Or.inr ⟨by rfl, rfl⟩) ?_ ?_
                     rotate_left
                     ·
                      simp only [Act.put, List.setIfInBounds_toArray, List.set_cons_zero, List.set_cons_succ, i64_w, i32_w]
                      rfl
                     refine pure_ (i := 20) (N := some 117) (v := undef) (a' := ?_) #[true, true, true, true, true, true, true, true, true, true, true, true, true, true, true, true, true, true, true, true, true, false, false, false, false, false, false, false] rfl rfl (any_of HT_.out (by kernel_rfl)) (fun _ _ _ h => h) (Or.inr ⟨by rfl, rfl⟩) ?_ ?_
                     rotate_left
                     ·
                      simp only [Act.put, List.setIfInBounds_toArray, List.set_cons_zero, List.set_cons_succ, i64_w, i32_w]
                      rfl
                     refine pure_ (i := 21) (N := some 118) (v := undef) (a' := ?_) #[true, true, true, true, true, true, true, true, true, true, true, true, true, true, true, true, true, true, true, true, true, true, false, false, false, false, false, false] rfl rfl (any_of HT_.out (by kernel_rfl)) (fun _ _ _ h => h) (Or.inr ⟨by rfl, rfl⟩) ?_ ?_
                     rotate_left
                     ·
                      simp only [Act.put, List.setIfInBounds_toArray, List.set_cons_zero, List.set_cons_succ, i64_w, i32_w]
                      rfl
                     refine pure_ (i := 22) (N := some 119) (v := undef) (a' := ?_) #[true, true, true, true, true, true, true, true, true, true, true, true, true, true, true, true, true, true, true, true, true, true, true, false, false, false, false, false] rfl rfl (any_of HT_.out (by kernel_rfl)) (fun _ _ _ h => h) (Or.inr ⟨by rfl, rfl⟩) ?_ ?_
                     rotate_left
                     ·
                      simp only [Act.put, List.setIfInBounds_toArray, List.set_cons_zero, List.set_cons_succ, i64_w, i32_w]
                      rfl
                     refine pure_ (i := 23) (N := some 120) (v := undef) (a' := ?_) #[true, true, true, true, true, true, true, true, true, true, true, true, true, true, true, true, true, true, true, true, true, true, true, true, false, false, false, false] rfl rfl (any_of HT_.out (by kernel_rfl)) (fun _ _ _ h => h) (Or.inr ⟨by rfl, rfl⟩) ?_ ?_
                     rotate_left
                     ·
                      simp only [Act.put, List.setIfInBounds_toArray, List.set_cons_zero, List.set_cons_succ, i64_w, i32_w]
                      rfl
                     refine pure_ (i := 24) (N := some 121) (v := undef) (a' := ?_) #[true, true, true, true, true, true, true, true, true, true, true, true, true, true, true, true, true, true, true, true, true, true, true, true, true, false, false, false] rfl rfl (any_of HT_.out (by kernel_rfl)) (fun _ _ _ h => h) (Or.inr ⟨by rfl, rfl⟩) ?_ ?_
                     rotate_left
                     ·
                      simp only [Act.put, List.setIfInBounds_toArray, List.set_cons_zero, List.set_cons_succ, i64_w, i32_w]
                      rfl
                     refine pure_ (i := 25) (N := some 122) (v := undef) (a' := ?_) #[true, true, true, true, true, true, true, true, true, true, true, true, true, true, true, true, true, true, true, true, true, true, true, true, true, true, false, false] rfl rfl (any_of HT_.out (by kernel_rfl)) (fun _ _ _ h => h) (Or.inr ⟨by rfl, rfl⟩) ?_ ?_
                     rotate_left
                     ·
                      simp only [Act.put, List.setIfInBounds_toArray, List.set_cons_zero, List.set_cons_succ, i64_w, i32_w]
                      rfl
                     refine pure_ (i := 26) (N := some 123) (v := ?_) (a' := ?_) #[true, true, true, true, true, true, true, true, true, true, true, true, true, true, true, true, true, true, true, true, true, true, true, true, true, true, true, false] rfl rfl (any_of HT_.out (by kernel_rfl)) (fun _ _ _ h => h) (Or.inl ⟨by rfl, ?_⟩) ?_ ?_
                     rotate_left
                     ·
                      intro w'
                      go_simp
                      with_reducible rfl
                     rotate_left
                     ·
                      simp only [Act.put, List.setIfInBounds_toArray, List.set_cons_zero, List.set_cons_succ, i64_w, i32_w]
                      rfl
                     refine pure_ (i := 27) (N := some 124) (v := ?_) (a' := ?_) #[true, true, true, true, true, true, true, true, true, true, true, true, true, true, true, true, true, true, true, true, true, true, true, true, true, true, true, true] rfl rfl (any_of HT_.out (by kernel_rfl)) (fun _ _ _ h => h) (Or.inl ⟨by rfl, ?_⟩) ?_ ?_
                     rotate_left
                     ·
                      intro w'
                      go_simp
                      with_reducible rfl
                     rotate_left
                     ·
                      simp only [Act.put, List.setIfInBounds_toArray, List.set_cons_zero, List.set_cons_succ, i64_w, i32_w]
                      rfl
                     refine done_ (done_of HT_.out (by kernel_rfl)) ?_
                     try go_wp2
                     go_roundg k4
                     case measure => have := HK1.out; have := HJ33.out; have := HJ53.out; have := HK4.out; omega
                     case rel => exact ⟨(wrap64 (x94_4 + 1)), (by first | rfl | (simp; done) | (simp [*]; done)), H', ⟨by have := HK1.out; have := HJ33.out; have := HJ53.out; have := HK4.out; omega⟩, ⟨by (try simp only [hl8_1]); (with_reducible repeat (first | apply Kd.R_alloc | apply Kd.R_drewN | apply Kd.R_drew)); exact HO_8.out⟩, ⟨by (try simp only [hl8_1]); (with_reducible repeat (first | apply Kd.V_alloc | apply Kd.V_drewN | apply Kd.V_drew)); exact HO_14.out⟩, ⟨by (try simp only [hl8_1]); (with_reducible repeat (first | refine blk_drewN ?_ _ | refine blk_drew ?_ | refine blk_alloc ?_ _)); exact BK117.out⟩, ⟨by (try simp only [hl8_1]); (with_reducible repeat (first | refine blk_drewN ?_ _ | refine blk_drew ?_ | refine blk_alloc ?_ _)); exact BK139.out⟩, ⟨by repeat (first | (with_reducible first | exact HB.out | apply below_alloc | apply pw_below_drewN | apply below_drew1 | refine below_set ?_ GE117.out | refine below_set ?_ GE139.out) | exact HB.out)⟩⟩
                  ·
                   rw [if_neg c62] at H
                   have c62b0 : decide (x94_4 < (t140.length : Int)) = false := decide_eq_false c62
                   clear c62
                   obtain rfl := Option.some.inj H
                   go_wp2
                   go_ret
                   exact ⟨by first | rfl | (simp [errW_none, errW_some] <;> rfl) | (simp [*, errW_none, errW_some] <;> rfl), by repeat (first | (with_reducible first | exact HB.out | apply below_alloc | apply pw_below_drewN | apply below_drew1 | refine below_set ?_ GE117.out | refine below_set ?_ GE139.out) | exact HB.out)⟩
        ·
         rw [if_neg c32] at H
         exact absurd H (by simp)
       ·
        rw [if_neg c31] at H
        exact absurd H (by simp)
   ·
    rw [if_neg c9] at H
    exact absurd H (by simp)
end Go.Proofs.Ytiifnofghicnaaa.BAll
