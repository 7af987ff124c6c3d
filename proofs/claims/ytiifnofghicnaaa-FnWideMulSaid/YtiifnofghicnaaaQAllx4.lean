/- Printed by the kit's print.py, called for several laws at once: functions as plain Lean, and the walks' contracts. -/
import Derived.Test.YtiifnofghicnaaaQAllx0
namespace Go.Proofs.Ytiifnofghicnaaa.PAll
open Go.RowKit Go.Proofs.YtiifnofghicnaaaW.PrintWords Go.Proofs.YtiifnofghicnaaaW.PrintLast Go.Proofs.YtiifnofghicnaaaW.PrintMore
attribute [local go_sem] max2_int min2_int max_two min_two max_three min_three max_four min_four   -- for this text's walks alone
set_option linter.unusedVariables false
set_option linter.unusedSimpArgs false

/-! ### bits_Sub64: function 127 -/
def sLo (x y b : Nat) : Nat := (x + 18446744073709551616 - y - b) % 18446744073709551616
def sHi (x y b : Nat) : Nat := if x < y + b then 1 else 0
theorem sHi_le {x y b : Nat} : sHi x y b ≤ 1 := by unfold sHi; split <;> omega
theorem run_sub64_c0 (x y : Nat) (w : World) : (callFunc 127 #[.int .u64 (x : Int), .int .u64 (y : Int), .int .u64 ((0 : Nat) : Int)]).run Try.prog w = .ok (.value (.tuple #[.int .u64 (sLo x y 0 : Int), .int .u64 (sHi x y 0 : Int)])) w := by kernel_rfl
theorem run_sub64_c1 (x y : Nat) (w : World) : (callFunc 127 #[.int .u64 (x : Int), .int .u64 (y : Int), .int .u64 ((1 : Nat) : Int)]).run Try.prog w = .ok (.value (.tuple #[.int .u64 (sLo x y 1 : Int), .int .u64 (sHi x y 1 : Int)])) w := by kernel_rfl
theorem run_sub64 (x y b : Nat) (h : b ≤ 1) (w : World) : (callFunc 127 #[.int .u64 (x : Int), .int .u64 (y : Int), .int .u64 (b : Int)]).run Try.prog w = .ok (.value (.tuple #[.int .u64 (sLo x y b : Int), .int .u64 (sHi x y b : Int)])) w := by
  have : b = 0 ∨ b = 1 := by omega
  rcases this with rfl | rfl
  · exact run_sub64_c0 x y w
  · exact run_sub64_c1 x y w
theorem run_sub64_0 (x y : Nat) (w : World) : (callFunc 127 #[.int .u64 (x : Int), .int .u64 (y : Int), .int .u64 0]).run Try.prog w = .ok (.value (.tuple #[.int .u64 (sLo x y 0 : Int), .int .u64 (sHi x y 0 : Int)])) w := run_sub64_c0 x y w
theorem run_sub64_zb (x b : Nat) (h : b ≤ 1) (w : World) : (callFunc 127 #[.int .u64 (x : Int), .int .u64 0, .int .u64 (b : Int)]).run Try.prog w = .ok (.value (.tuple #[.int .u64 (sLo x 0 b : Int), .int .u64 (sHi x 0 b : Int)])) w := run_sub64 x 0 b h w

end Go.Proofs.Ytiifnofghicnaaa.PAll
