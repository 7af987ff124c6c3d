/- Words for the laws of uint128's QuoRem. -/
import Derived.Test.YtiifnofghicnaaaDoorBase
namespace Go.Proofs.YtiifnofghicnaaaDoor.PAll
open Go.RowKit Go.Proofs.YtiifnofghicnaaaDoorW.PrintWords Go.Proofs.YtiifnofghicnaaaDoorW.PrintLast Go.Proofs.YtiifnofghicnaaaDoorW.PrintMore
theorem n128 (a b : Nat) : N128 (a : Int) (b : Int) = a + b * 18446744073709551616 := by
  unfold N128
  rw [Int.toNat_natCast, Int.toNat_natCast]
theorem dg_len0 (m : Nat) : ((Dig.dg m).length : Int) = 0 ↔ m = 0 := by
  rw [Dig.dg_len]
  constructor
  · intro h
    have hn : Dig.nd m = 0 := by omega
    have := Dig.lt_nd m
    rw [hn] at this
    simpa using this
  · intro h
    subst h
    decide +kernel
theorem u64_nat {a : Nat} (h : a < 18446744073709551616) : U64 (a : Int) := ⟨by omega, by omega⟩
end Go.Proofs.YtiifnofghicnaaaDoor.PAll
