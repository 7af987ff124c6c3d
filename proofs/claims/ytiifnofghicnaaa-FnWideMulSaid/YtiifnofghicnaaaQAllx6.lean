/- Printed by the kit's print.py, called for several laws at once: functions as plain Lean, and the walks' contracts. -/
import Derived.Test.YtiifnofghicnaaaQAllx0
namespace Go.Proofs.Ytiifnofghicnaaa.PAll
open Go.RowKit Go.Proofs.YtiifnofghicnaaaW.PrintWords Go.Proofs.YtiifnofghicnaaaW.PrintLast Go.Proofs.YtiifnofghicnaaaW.PrintMore
attribute [local go_sem] max2_int min2_int max_two min_two max_three min_three max_four min_four   -- for this text's walks alone
set_option linter.unusedVariables false
set_option linter.unusedSimpArgs false

/-! ### bits_Add64: function 128 -/
def aLo (x y c : Nat) : Nat := (x + y + c) % 18446744073709551616
def aHi (x y c : Nat) : Nat := (x + y + c) / 18446744073709551616
theorem aHi_le {x y c : Nat} (hx : x < 18446744073709551616) (hy : y < 18446744073709551616) (hc : c ≤ 1) : aHi x y c ≤ 1 := by unfold aHi; omega
theorem run_add64_c0 (x y : Nat) (w : World) : (callFunc 128 #[.int .u64 (x : Int), .int .u64 (y : Int), .int .u64 ((0 : Nat) : Int)]).run Try.prog w = .ok (.value (.tuple #[.int .u64 (aLo x y 0 : Int), .int .u64 (aHi x y 0 : Int)])) w := by kernel_rfl
theorem run_add64_c1 (x y : Nat) (w : World) : (callFunc 128 #[.int .u64 (x : Int), .int .u64 (y : Int), .int .u64 ((1 : Nat) : Int)]).run Try.prog w = .ok (.value (.tuple #[.int .u64 (aLo x y 1 : Int), .int .u64 (aHi x y 1 : Int)])) w := by kernel_rfl
theorem run_add64 (x y c : Nat) (h : c ≤ 1) (w : World) : (callFunc 128 #[.int .u64 (x : Int), .int .u64 (y : Int), .int .u64 (c : Int)]).run Try.prog w = .ok (.value (.tuple #[.int .u64 (aLo x y c : Int), .int .u64 (aHi x y c : Int)])) w := by
  have : c = 0 ∨ c = 1 := by omega
  rcases this with rfl | rfl
  · exact run_add64_c0 x y w
  · exact run_add64_c1 x y w
theorem run_add64_0 (x y : Nat) (w : World) : (callFunc 128 #[.int .u64 (x : Int), .int .u64 (y : Int), .int .u64 0]).run Try.prog w = .ok (.value (.tuple #[.int .u64 (aLo x y 0 : Int), .int .u64 (aHi x y 0 : Int)])) w := run_add64_c0 x y w
theorem run_add64_zc (x c : Nat) (h : c ≤ 1) (w : World) : (callFunc 128 #[.int .u64 (x : Int), .int .u64 0, .int .u64 (c : Int)]).run Try.prog w = .ok (.value (.tuple #[.int .u64 (aLo x 0 c : Int), .int .u64 (aHi x 0 c : Int)])) w := run_add64 x 0 c h w

end Go.Proofs.Ytiifnofghicnaaa.PAll
