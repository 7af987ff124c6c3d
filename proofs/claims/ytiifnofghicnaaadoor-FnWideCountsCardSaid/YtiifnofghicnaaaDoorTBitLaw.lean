/- spec.Big's Bit, Halves, Length, Fits and wideIs as whole numbers have them: plain laws on the printed functions. -/
import Derived.Test.YtiifnofghicnaaaDoorTBase
import Derived.Test.YtiifnofghicnaaaDoorTAllx1
namespace Go.Proofs.YtiifnofghicnaaaDoor.TAll
open Go.Proofs.YtiifnofghicnaaaDoor.PAll (U64 N128 halves)
open Go.RowKit Go.Proofs.YtiifnofghicnaaaDoorW.PrintWords Go.Proofs.YtiifnofghicnaaaDoorW.PrintLast Go.Proofs.YtiifnofghicnaaaDoorW.PrintMore
theorem rd_dg (m i : Nat) : rd (Dig.dg m) (i : Int) = ((m / 65536 ^ i % 65536 : Nat) : Int) := by
  unfold rd
  rw [Int.toNat_natCast, Dig.dg_getD]
theorem and1_i64 (d : Nat) (h : d < 65536) : Go.bits .and .i64 (d : Int) 1 = ((d % 2 : Nat) : Int) := by
  have := (bits_nat .i64 16 (by decide) (fun n h0 h1 => by rw [IntKind.wrap_i64]; omega) d 1 (by omega) (by decide)).1
  rw [Nat.and_one_is_mod] at this
  exact this
theorem bit_law (m i : Nat) (hi : i < 4611686018427387904) : spec_Big_Bit.f (Dig.dg m) (i : Int) = some (m.testBit i) := by
  have e1 : wrap64 (Int.tdiv (i : Int) 16) = ((i / 16 : Nat) : Int) := by
    have : Int.tdiv (i : Int) 16 = ((i / 16 : Nat) : Int) := by rw [Int.tdiv_eq_ediv_of_nonneg (by omega)]; omega
    rw [this]
    unfold wrap64
    omega
  have e2 : Int.tmod (i : Int) 16 = ((i % 16 : Nat) : Int) := by rw [Int.tmod_eq_emod_of_nonneg (by omega)]; omega
  unfold spec_Big_Bit.f
  rw [if_pos (by omega), e1, e2, Dig.dg_len]
  by_cases h : i / 16 < Dig.nd m
  · rw [if_pos (by omega), if_pos (by omega), if_pos (by omega), rd_dg]
    congr 1
    have hb := Dig.bit_dig m i
    generalize hd : m / 65536 ^ (i / 16) % 65536 = d at hb ⊢
    have hlt : d < 65536 := by omega
    have e3 : shr .i64 (d : Int) ((i % 16 : Nat) : Int) = ((d / 2 ^ (i % 16) : Nat) : Int) := by
      unfold shr
      rw [Int.toNat_natCast, Nat.min_eq_left (by simp [IntKind.bits]; omega)]
      simp
    rw [e3, and1_i64 _ (Nat.lt_of_le_of_lt (Nat.div_le_self _ _) hlt), hb]
    cases m.testBit i <;> rfl
  · rw [if_neg (by omega)]
    congr 1
    symm
    apply Nat.testBit_lt_two_pow
    refine Nat.lt_of_lt_of_le (Dig.lt_nd m) ?_
    rw [Dig.p16]
    exact Nat.pow_le_pow_right (by decide) (by omega)
end Go.Proofs.YtiifnofghicnaaaDoor.TAll
