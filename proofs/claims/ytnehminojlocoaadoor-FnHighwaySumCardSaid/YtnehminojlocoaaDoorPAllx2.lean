/- Printed by the kit's print.py, called for several laws at once: functions as plain Lean, and the walks' contracts. -/
import Derived.Test.YtnehminojlocoaaDoorPAllx0
import Derived.Test.YtnehminojlocoaaDoorPAllx1
namespace Go.Proofs.YtnehminojlocoaaDoor.PAll
open Go.RowKit Go.Proofs.YtnehminojlocoaaDoorW.PrintWords Go.Proofs.YtnehminojlocoaaDoorW.PrintLast Go.Proofs.YtnehminojlocoaaDoorW.PrintMore
attribute [local go_sem] max2_int min2_int max_two min_two max_three min_three max_four min_four   -- for this text's walks alone
set_option linter.unusedVariables false
set_option linter.unusedSimpArgs false

/-! ### highwayhash_reduceMod: function 52 -/
def highwayhash_reduceMod.f (a0 : Int) (a1 : Int) (a2 : Int) (a3 : Int) : Option (Int × Int) := some (Go.bits .xor .u64 (IntKind.u64.wrap (a2 * 4)) (Go.bits .xor .u64 a0 (IntKind.u64.wrap (a2 * 2))), Go.bits .xor .u64 (Go.bits .or .u64 (IntKind.u64.wrap ((Go.bits .and .u64 a3 4611686018427387903) * 4)) (a2 / 4611686018427387904)) (Go.bits .xor .u64 a1 (Go.bits .or .u64 (IntKind.u64.wrap ((Go.bits .and .u64 a3 4611686018427387903) * 2)) (a2 / 9223372036854775808))))
set_option maxHeartbeats 8000000 in
set_option maxRecDepth 100000 in
theorem highwayhash_reduceMod.calls (a0 : Int) (a1 : Int) (a2 : Int) (a3 : Int) (r1 : Int) (r2 : Int) (w : World) (h : highwayhash_reduceMod.f a0 a1 a2 a3 = some (r1, r2)) :
    Calls Tryd.prog 52 #[.int .u64 a0, .int .u64 a1, .int .u64 a2, .int .u64 a3] w fun e w' => e = .returned (.tuple #[.int .u64 r1, .int .u64 r2]) ∧ Drawn0 w w' := by
  have H : (some (Go.bits .xor .u64 (IntKind.u64.wrap (a2 * 4)) (Go.bits .xor .u64 a0 (IntKind.u64.wrap (a2 * 2))), Go.bits .xor .u64 (Go.bits .or .u64 (IntKind.u64.wrap ((Go.bits .and .u64 a3 4611686018427387903) * 4)) (a2 / 4611686018427387904)) (Go.bits .xor .u64 a1 (Go.bits .or .u64 (IntKind.u64.wrap ((Go.bits .and .u64 a3 4611686018427387903) * 2)) (a2 / 9223372036854775808))))) = some (r1, r2) := h
  clear h
  simp only [Option.some.injEq, Prod.mk.injEq] at H
  obtain ⟨rfl, rfl⟩ := H
  go_enter Tryd.func52, Tryd.ntmps52
  go_wp2
  go_ret2
  exact ⟨by first | rfl | (simp; done) | (simp [*]; done), by repeat (first | exact Drawn0.refl _ | apply Drawn0.step)⟩


end Go.Proofs.YtnehminojlocoaaDoor.PAll
