/- FnHalfFacts. Walked by hand (the printed walk is too long). -/
import Derived.Test.YtdepcnaiobfpkaaHBase
import Derived.Test.YtdepcnaiobfpkaaPAllx1
import Derived.Lib.Hide
namespace Go.Proofs.Ytdepcnaiobfpkaa.PAll
open Go.RowKit Go.Proofs.YtdepcnaiobfpkaaW.PrintWords Go.Proofs.YtdepcnaiobfpkaaW.PrintLast Go.Proofs.YtdepcnaiobfpkaaW.PrintMore
theorem facts_box (w : World) (o : Obj) : (w.alloc o).heap[w.heap.size]? = some o ∧ Below w.heap.size w (w.alloc o) :=
  ⟨(MapKept.heap_alloc w _).1, (Below.refl _ _).alloc (Nat.le_refl _) _⟩
set_option maxHeartbeats 2000000 in
set_option maxRecDepth 100000 in
theorem facts_2 (a0 a1 : Int) (m q : Bool) (w : World) (HF : Hid (impl_HalfFacts.f a0 a1 = some (true, q, false, false, false, m, a0))) (HK : Hid (spec_HalfKind.f a0 = some 2))
    (t1 : (a0 / 32768 == 1) = m) (t2 : (Go.bits .and .u16 (a0 / 512) 1 == 1) = q) :
    Calls Try.prog 4 #[.int .u16 a0, .int .i64 a1] w fun e w' => e = .returned (.bool true) ∧ Below w.heap.size w w' := by
  have hu27 := Try.underlying27
  go_enter Try.func4, Try.ntmps4
  go_wp2_with fail
  refine (impl_HalfFacts.calls a0 a1 _ _ _ _ _ _ _ w HF).mono ?_
  rintro e w1 ⟨rfl, hb1⟩
  go_wp2_with fail
  refine (spec_HalfKind.calls a0 _ _ HK).mono ?_
  obtain ⟨z1, z2⟩ := facts_box w1 (Obj.cells #[.bool true, .bool q, .bool false, .bool false, .bool false, .bool m, .int .u16 a0] 27)
  rintro e w2 ⟨rfl, hb2⟩
  have k1 := (hb2.below.block _ (blk_lt z1)).trans z1
  have BW := Lib.hid ((hb1.trans (z2.mono hb1.size)).trans (hb2.below.mono (Nat.le_trans hb1.size z2.size)))
  clear hb1 hb2 z1 z2
  have c0 : w2.cell? ⟨w1.heap.size, 0, none⟩ = some (.bool true) := (blk_cell k1 0).trans rfl
  have c1 : w2.cell? ⟨w1.heap.size, 1, none⟩ = some (.bool q) := (blk_cell k1 1).trans rfl
  have c2 : w2.cell? ⟨w1.heap.size, 2, none⟩ = some (.bool false) := (blk_cell k1 2).trans rfl
  have c3 : w2.cell? ⟨w1.heap.size, 3, none⟩ = some (.bool false) := (blk_cell k1 3).trans rfl
  have c4 : w2.cell? ⟨w1.heap.size, 4, none⟩ = some (.bool false) := (blk_cell k1 4).trans rfl
  have c5 : w2.cell? ⟨w1.heap.size, 5, none⟩ = some (.bool m) := (blk_cell k1 5).trans rfl
  have c6 : w2.cell? ⟨w1.heap.size, 6, none⟩ = some (.int .u16 a0) := (blk_cell k1 6).trans rfl
  clear k1 HF HK
  generalize w1.heap.size = gg at *
  clear w1
  cases m <;> cases q
  all_goals
    go_wp2
    go_ret
    exact ⟨rfl, BW⟩
set_option maxHeartbeats 2000000 in
set_option maxRecDepth 100000 in
theorem facts_0 (a0 a1 : Int) (m z : Bool) (w : World) (HF : Hid (impl_HalfFacts.f a0 a1 = some (false, false, false, true, z, m, a0))) (HK : Hid (spec_HalfKind.f a0 = some 0))
    (t1 : (a0 / 32768 == 1) = m) (t2 : (Go.bits .and .u16 a0 31744 != 0) = z) :
    Calls Try.prog 4 #[.int .u16 a0, .int .i64 a1] w fun e w' => e = .returned (.bool true) ∧ Below w.heap.size w w' := by
  have hu27 := Try.underlying27
  go_enter Try.func4, Try.ntmps4
  go_wp2_with fail
  refine (impl_HalfFacts.calls a0 a1 _ _ _ _ _ _ _ w HF).mono ?_
  rintro e w1 ⟨rfl, hb1⟩
  go_wp2_with fail
  refine (spec_HalfKind.calls a0 _ _ HK).mono ?_
  obtain ⟨z1, z2⟩ := facts_box w1 (Obj.cells #[.bool false, .bool false, .bool false, .bool true, .bool z, .bool m, .int .u16 a0] 27)
  rintro e w2 ⟨rfl, hb2⟩
  have k1 := (hb2.below.block _ (blk_lt z1)).trans z1
  have BW := Lib.hid ((hb1.trans (z2.mono hb1.size)).trans (hb2.below.mono (Nat.le_trans hb1.size z2.size)))
  clear hb1 hb2 z1 z2
  have c0 : w2.cell? ⟨w1.heap.size, 0, none⟩ = some (.bool false) := (blk_cell k1 0).trans rfl
  have c1 : w2.cell? ⟨w1.heap.size, 1, none⟩ = some (.bool false) := (blk_cell k1 1).trans rfl
  have c2 : w2.cell? ⟨w1.heap.size, 2, none⟩ = some (.bool false) := (blk_cell k1 2).trans rfl
  have c3 : w2.cell? ⟨w1.heap.size, 3, none⟩ = some (.bool true) := (blk_cell k1 3).trans rfl
  have c4 : w2.cell? ⟨w1.heap.size, 4, none⟩ = some (.bool z) := (blk_cell k1 4).trans rfl
  have c5 : w2.cell? ⟨w1.heap.size, 5, none⟩ = some (.bool m) := (blk_cell k1 5).trans rfl
  have c6 : w2.cell? ⟨w1.heap.size, 6, none⟩ = some (.int .u16 a0) := (blk_cell k1 6).trans rfl
  clear k1 HF HK
  generalize w1.heap.size = gg at *
  clear w1
  cases m <;> cases z
  all_goals
    go_wp2
    go_ret
    exact ⟨rfl, BW⟩
set_option maxHeartbeats 2000000 in
set_option maxRecDepth 100000 in
theorem facts_1z (a0 a1 : Int) (m : Bool) (w : World) (HF : Hid (impl_HalfFacts.f a0 a1 = some (false, false, true, false, false, m, a0))) (HK : Hid (spec_HalfKind.f a0 = some 1))
    (t1 : (a0 / 32768 == 1) = m) (s0 : (a1 == 0) = true) :
    Calls Try.prog 4 #[.int .u16 a0, .int .i64 a1] w fun e w' => e = .returned (.bool true) ∧ Below w.heap.size w w' := by
  have hu27 := Try.underlying27
  go_enter Try.func4, Try.ntmps4
  go_wp2_with fail
  refine (impl_HalfFacts.calls a0 a1 _ _ _ _ _ _ _ w HF).mono ?_
  rintro e w1 ⟨rfl, hb1⟩
  go_wp2_with fail
  refine (spec_HalfKind.calls a0 _ _ HK).mono ?_
  obtain ⟨z1, z2⟩ := facts_box w1 (Obj.cells #[.bool false, .bool false, .bool true, .bool false, .bool false, .bool m, .int .u16 a0] 27)
  rintro e w2 ⟨rfl, hb2⟩
  have k1 := (hb2.below.block _ (blk_lt z1)).trans z1
  have BW := Lib.hid ((hb1.trans (z2.mono hb1.size)).trans (hb2.below.mono (Nat.le_trans hb1.size z2.size)))
  clear hb1 hb2 z1 z2
  have c0 : w2.cell? ⟨w1.heap.size, 0, none⟩ = some (.bool false) := (blk_cell k1 0).trans rfl
  have c1 : w2.cell? ⟨w1.heap.size, 1, none⟩ = some (.bool false) := (blk_cell k1 1).trans rfl
  have c2 : w2.cell? ⟨w1.heap.size, 2, none⟩ = some (.bool true) := (blk_cell k1 2).trans rfl
  have c3 : w2.cell? ⟨w1.heap.size, 3, none⟩ = some (.bool false) := (blk_cell k1 3).trans rfl
  have c4 : w2.cell? ⟨w1.heap.size, 4, none⟩ = some (.bool false) := (blk_cell k1 4).trans rfl
  have c5 : w2.cell? ⟨w1.heap.size, 5, none⟩ = some (.bool m) := (blk_cell k1 5).trans rfl
  have c6 : w2.cell? ⟨w1.heap.size, 6, none⟩ = some (.int .u16 a0) := (blk_cell k1 6).trans rfl
  clear k1 HF HK
  generalize w1.heap.size = gg at *
  clear w1
  cases m
  all_goals
    go_wp2
    go_ret
    exact ⟨rfl, BW⟩
set_option maxHeartbeats 2000000 in
set_option maxRecDepth 100000 in
theorem facts_1p (a0 a1 : Int) (m : Bool) (w : World) (HF : Hid (impl_HalfFacts.f a0 a1 = some (false, false, !m, false, false, m, a0))) (HK : Hid (spec_HalfKind.f a0 = some 1))
    (t1 : (a0 / 32768 == 1) = m) (s0 : (a1 == 0) = false) (s1 : decide (0 < a1) = true) (s2 : decide (a1 < 0) = false) :
    Calls Try.prog 4 #[.int .u16 a0, .int .i64 a1] w fun e w' => e = .returned (.bool true) ∧ Below w.heap.size w w' := by
  have hu27 := Try.underlying27
  go_enter Try.func4, Try.ntmps4
  go_wp2_with fail
  refine (impl_HalfFacts.calls a0 a1 _ _ _ _ _ _ _ w HF).mono ?_
  rintro e w1 ⟨rfl, hb1⟩
  go_wp2_with fail
  refine (spec_HalfKind.calls a0 _ _ HK).mono ?_
  obtain ⟨z1, z2⟩ := facts_box w1 (Obj.cells #[.bool false, .bool false, .bool !m, .bool false, .bool false, .bool m, .int .u16 a0] 27)
  rintro e w2 ⟨rfl, hb2⟩
  have k1 := (hb2.below.block _ (blk_lt z1)).trans z1
  have BW := Lib.hid ((hb1.trans (z2.mono hb1.size)).trans (hb2.below.mono (Nat.le_trans hb1.size z2.size)))
  clear hb1 hb2 z1 z2
  have c0 : w2.cell? ⟨w1.heap.size, 0, none⟩ = some (.bool false) := (blk_cell k1 0).trans rfl
  have c1 : w2.cell? ⟨w1.heap.size, 1, none⟩ = some (.bool false) := (blk_cell k1 1).trans rfl
  have c2 : w2.cell? ⟨w1.heap.size, 2, none⟩ = some (.bool !m) := (blk_cell k1 2).trans rfl
  have c3 : w2.cell? ⟨w1.heap.size, 3, none⟩ = some (.bool false) := (blk_cell k1 3).trans rfl
  have c4 : w2.cell? ⟨w1.heap.size, 4, none⟩ = some (.bool false) := (blk_cell k1 4).trans rfl
  have c5 : w2.cell? ⟨w1.heap.size, 5, none⟩ = some (.bool m) := (blk_cell k1 5).trans rfl
  have c6 : w2.cell? ⟨w1.heap.size, 6, none⟩ = some (.int .u16 a0) := (blk_cell k1 6).trans rfl
  clear k1 HF HK
  generalize w1.heap.size = gg at *
  clear w1
  cases m
  all_goals simp only [Bool.not_true, Bool.not_false] at *
  all_goals
    go_wp2
    go_ret
    exact ⟨rfl, BW⟩
set_option maxHeartbeats 2000000 in
set_option maxRecDepth 100000 in
theorem facts_1n (a0 a1 : Int) (m : Bool) (w : World) (HF : Hid (impl_HalfFacts.f a0 a1 = some (false, false, m, false, false, m, a0))) (HK : Hid (spec_HalfKind.f a0 = some 1))
    (t1 : (a0 / 32768 == 1) = m) (s0 : (a1 == 0) = false) (s1 : decide (0 < a1) = false) (s2 : decide (a1 < 0) = true) :
    Calls Try.prog 4 #[.int .u16 a0, .int .i64 a1] w fun e w' => e = .returned (.bool true) ∧ Below w.heap.size w w' := by
  have hu27 := Try.underlying27
  go_enter Try.func4, Try.ntmps4
  go_wp2_with fail
  refine (impl_HalfFacts.calls a0 a1 _ _ _ _ _ _ _ w HF).mono ?_
  rintro e w1 ⟨rfl, hb1⟩
  go_wp2_with fail
  refine (spec_HalfKind.calls a0 _ _ HK).mono ?_
  obtain ⟨z1, z2⟩ := facts_box w1 (Obj.cells #[.bool false, .bool false, .bool m, .bool false, .bool false, .bool m, .int .u16 a0] 27)
  rintro e w2 ⟨rfl, hb2⟩
  have k1 := (hb2.below.block _ (blk_lt z1)).trans z1
  have BW := Lib.hid ((hb1.trans (z2.mono hb1.size)).trans (hb2.below.mono (Nat.le_trans hb1.size z2.size)))
  clear hb1 hb2 z1 z2
  have c0 : w2.cell? ⟨w1.heap.size, 0, none⟩ = some (.bool false) := (blk_cell k1 0).trans rfl
  have c1 : w2.cell? ⟨w1.heap.size, 1, none⟩ = some (.bool false) := (blk_cell k1 1).trans rfl
  have c2 : w2.cell? ⟨w1.heap.size, 2, none⟩ = some (.bool m) := (blk_cell k1 2).trans rfl
  have c3 : w2.cell? ⟨w1.heap.size, 3, none⟩ = some (.bool false) := (blk_cell k1 3).trans rfl
  have c4 : w2.cell? ⟨w1.heap.size, 4, none⟩ = some (.bool false) := (blk_cell k1 4).trans rfl
  have c5 : w2.cell? ⟨w1.heap.size, 5, none⟩ = some (.bool m) := (blk_cell k1 5).trans rfl
  have c6 : w2.cell? ⟨w1.heap.size, 6, none⟩ = some (.int .u16 a0) := (blk_cell k1 6).trans rfl
  clear k1 HF HK
  generalize w1.heap.size = gg at *
  clear w1
  cases m
  all_goals
    go_wp2
    go_ret
    exact ⟨rfl, BW⟩
end Go.Proofs.Ytdepcnaiobfpkaa.PAll
