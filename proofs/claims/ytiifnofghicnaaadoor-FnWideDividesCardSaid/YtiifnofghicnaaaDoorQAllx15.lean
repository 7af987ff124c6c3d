/- Printed by the kit's print.py, called for several laws at once: functions as plain Lean, and the walks' contracts. -/
import Derived.Test.YtiifnofghicnaaaDoorQAllx0
import Derived.Test.YtiifnofghicnaaaDoorQAllx1
namespace Go.Proofs.YtiifnofghicnaaaDoor.PAll
open Go.RowKit Go.Proofs.YtiifnofghicnaaaDoorW.PrintWords Go.Proofs.YtiifnofghicnaaaDoorW.PrintLast Go.Proofs.YtiifnofghicnaaaDoorW.PrintMore
attribute [local go_sem] max2_int min2_int max_two min_two max_three min_three max_four min_four   -- for this text's walks alone
set_option linter.unusedVariables false
set_option linter.unusedSimpArgs false

/-! ### spec_Two: function 17 -/
def spec_Two.f (a0 : Int) : Option (List Int) := if a0 = 128 then some (Dig.dg 340282366920938463463374607431768211456) else none
theorem dg_two128 : Dig.dg 340282366920938463463374607431768211456 = [0, 0, 0, 0, 0, 0, 0, 0, 1] := by decide +kernel
set_option maxHeartbeats 1000000 in
set_option maxRecDepth 100000 in
theorem two_any (w : World) : Calls Tryd.prog 17 #[.int .i64 128] w fun e w' => e = .returned (.slice (some ⟨w.heap.size, 0, none⟩) 9 9) ∧
    w' = w.alloc (.cells #[.int .i64 0,.int .i64 0,.int .i64 0,.int .i64 0,.int .i64 0,.int .i64 0,.int .i64 0,.int .i64 0,.int .i64 1] 3) := by
  have hmk : ∀ w, (Instr.makeSlice 30 (.int .i64 9) (.int .i64 9)).run Tryd.prog w = .ok (.slice (some ⟨w.heap.size, 0, none⟩) 9 9) (w.alloc (.cells #[.int .i64 0,.int .i64 0,.int .i64 0,.int .i64 0,.int .i64 0,.int .i64 0,.int .i64 0,.int .i64 0,.int .i64 0] 3)) := fun _ => by kernel_rfl
  go_enter Tryd.func17, Tryd.ntmps17
  go_wp2
  go_ret
  exact ⟨rfl, rfl⟩
theorem spec_Two.calls (a0 : Int) (r : List Int) (w : World) (h : spec_Two.f a0 = some r) :
    Calls Tryd.prog 17 #[.int .i64 a0] w fun e w' => ∃ v0_ : Value, e = .returned (v0_) ∧ Kd.V (Kd.int .i64) 3 w' w.heap.size (fun k_ => (w.heap.size ≤ k_)) v0_ r ∧ Below w.heap.size w w' := by
  unfold spec_Two.f at h
  split at h
  case isFalse => cases h
  rename_i hb
  subst hb
  obtain rfl := Option.some.inj h
  refine (two_any w).mono ?_
  rintro e w' ⟨rfl, rfl⟩
  refine ⟨_, rfl, ?_, (Below.refl _ _).alloc (Nat.le_refl _) _⟩
  rw [dg_two128]
  exact Kd.V_mono (row_V (k := .i64) (xs := [0, 0, 0, 0, 0, 0, 0, 0, 1]) (MapKept.heap_alloc w _).1 (by decide)) (fun q hq => by subst hq; exact Nat.le_refl _)

end Go.Proofs.YtiifnofghicnaaaDoor.PAll
