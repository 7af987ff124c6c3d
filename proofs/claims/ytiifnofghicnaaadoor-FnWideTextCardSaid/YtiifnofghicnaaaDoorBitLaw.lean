/- spec.Big's Bit, Halves, Length, Fits and wideIs as whole numbers have them: plain laws on the printed functions. -/
import Derived.Test.YtiifnofghicnaaaDoorBase
import Derived.Test.YtiifnofghicnaaaDoorQAllx1
import Derived.Test.YtiifnofghicnaaaDoorQAllx3
import Derived.Test.YtiifnofghicnaaaDoorQAllx4
namespace Go.Proofs.YtiifnofghicnaaaDoor.PAll
open Go.RowKit Go.Proofs.YtiifnofghicnaaaDoorW.PrintWords Go.Proofs.YtiifnofghicnaaaDoorW.PrintLast Go.Proofs.YtiifnofghicnaaaDoorW.PrintMore
theorem rd_dg (m i : Nat) : rd (Dig.dg m) (i : Int) = ((m / 65536 ^ i % 65536 : Nat) : Int) := by
  unfold rd
  rw [Int.toNat_natCast, Dig.dg_getD]
theorem and1_i64 (d : Nat) (h : d < 65536) : Go.bits .and .i64 (d : Int) 1 = ((d % 2 : Nat) : Int) := by
  have := (bits_nat .i64 16 (by decide) (fun n h0 h1 => by rw [IntKind.wrap_i64]; omega) d 1 (by omega) (by decide)).1
  rw [Nat.and_one_is_mod] at this
  exact this
theorem bit_law (m i : Nat) (hi : i < 4611686018427387904) : spec_Big_Bit.f (Dig.dg m) (i : Int) = some (m.testBit i) := by
  have e1 : wrap64 (Int.tdiv (i : Int) 16) = ((i / 16 : Nat) : Int) := by
    have : Int.tdiv (i : Int) 16 = ((i / 16 : Nat) : Int) := by rw [Int.tdiv_eq_ediv_of_nonneg (by omega)]; omega
    rw [this]
    unfold wrap64
    omega
  have e2 : Int.tmod (i : Int) 16 = ((i % 16 : Nat) : Int) := by rw [Int.tmod_eq_emod_of_nonneg (by omega)]; omega
  unfold spec_Big_Bit.f
  rw [if_pos (by omega), e1, e2, Dig.dg_len]
  by_cases h : i / 16 < Dig.nd m
  · rw [if_pos (by omega), if_pos (by omega), if_pos (by omega), rd_dg]
    congr 1
    have hb := Dig.bit_dig m i
    generalize hd : m / 65536 ^ (i / 16) % 65536 = d at hb ⊢
    have hlt : d < 65536 := by omega
    have e3 : shr .i64 (d : Int) ((i % 16 : Nat) : Int) = ((d / 2 ^ (i % 16) : Nat) : Int) := by
      unfold shr
      rw [Int.toNat_natCast, Nat.min_eq_left (by simp [IntKind.bits]; omega)]
      simp
    rw [e3, and1_i64 _ (Nat.lt_of_le_of_lt (Nat.div_le_self _ _) hlt), hb]
    cases m.testBit i <;> rfl
  · rw [if_neg (by omega)]
    congr 1
    symm
    apply Nat.testBit_lt_two_pow
    refine Nat.lt_of_lt_of_le (Dig.lt_nd m) ?_
    rw [Dig.p16]
    exact Nat.pow_le_pow_right (by decide) (by omega)
theorem u64_or_bit (d e : Nat) (he : e < 64) (hd : d < 2 ^ e) : Go.bits .or .u64 (d : Int) (shl .u64 1 (e : Int)) = ((d + 2 ^ e : Nat) : Int) := by
  have h2 : (2 : Nat) ^ e ≤ 2 ^ 63 := Nat.pow_le_pow_right (by decide) (by omega)
  have h3 : shl .u64 1 (e : Int) = ((2 ^ e : Nat) : Int) := by
    unfold shl
    rw [Int.toNat_natCast, Nat.min_eq_left (by simp [IntKind.bits]; omega), IntKind.wrap_u64, Int.one_mul]
    have : ((2 : Int) ^ e) = ((2 ^ e : Nat) : Int) := by simp
    rw [this]
    omega
  rw [h3, u64_or_nat d (2 ^ e) (by omega) (by omega), Dig.or_add hd]
/-- The first i bits of a number. -/
theorem ofb_succ (m i : Nat) : Dig.ofb m.testBit (i + 1) = Dig.ofb m.testBit i + if m.testBit i then 2 ^ i else 0 := rfl
theorem halves_loop (m : Nat) (d : Nat) : ∀ (i k : Nat), 64 - i = d → i ≤ 64 → d < k →
    spec_Halves.l0 k (Dig.dg m) (Dig.ofb m.testBit i : Int) (Dig.ofb (m / 18446744073709551616).testBit i : Int) (i : Int) = some (halves m) := by
  have fin : ∀ k, spec_Halves.l0 (k + 1) (Dig.dg m) (Dig.ofb m.testBit 64 : Int) (Dig.ofb (m / 18446744073709551616).testBit 64 : Int) ((64 : Nat) : Int) = some (halves m) := by
    intro k
    simp only [spec_Halves.l0]
    rw [if_neg (by omega), Dig.ofb_testBit, Dig.ofb_testBit]
    rfl
  induction d with
  | zero =>
    intro i k hd hi hk
    obtain rfl : i = 64 := by omega
    obtain ⟨k, rfl⟩ : ∃ q, k = q + 1 := ⟨k - 1, by omega⟩
    exact fin k
  | succ d ih =>
    intro i k hd hi hk
    obtain ⟨k, rfl⟩ : ∃ q, k = q + 1 := ⟨k - 1, by omega⟩
    have hlt : i < 64 := by omega
    have e1 : wrap64 (64 + (i : Int)) = ((i + 64 : Nat) : Int) := by unfold wrap64; omega
    have e2 : wrap64 ((i : Int) + 1) = ((i + 1 : Nat) : Int) := by unfold wrap64; omega
    have b1 := bit_law m i (by omega)
    have b2 := bit_law m (i + 64) (by omega)
    have b3 : m.testBit (i + 64) = (m / 18446744073709551616).testBit i := by
      rw [show (18446744073709551616 : Nat) = 2 ^ 64 from rfl, Nat.testBit_div_two_pow]
    rw [b3] at b2
    have o1 := u64_or_bit (Dig.ofb m.testBit i) i hlt (Dig.ofb_lt _ _)
    have o2 := u64_or_bit (Dig.ofb (m / 18446744073709551616).testBit i) i hlt (Dig.ofb_lt _ _)
    have g := ih (i + 1) k (by omega) (by omega) (by omega)
    rw [ofb_succ, ofb_succ] at g
    simp only [spec_Halves.l0, e1, e2, o1, o2]
    rw [if_pos (by omega), bnd b1]
    cases h1 : m.testBit i <;> cases h2 : (m / 18446744073709551616).testBit i <;> rw [h2] at b2 <;> rw [h1, h2] at g
    · rw [if_neg (by simp), bnd b2, if_neg (by simp)]; exact g
    · rw [if_neg (by simp), bnd b2, if_pos rfl, if_pos (by omega)]; exact g
    · rw [if_pos rfl, if_pos (by omega), bnd b2, if_neg (by simp)]; exact g
    · rw [if_pos rfl, if_pos (by omega), bnd b2, if_pos rfl]; exact g
theorem halves_law (m k : Nat) (hk : 64 < k) : spec_Halves.f k (Dig.dg m) = some (halves m) := by
  unfold spec_Halves.f
  exact halves_loop m 64 0 k rfl (by omega) hk
theorem is_law (m k : Nat) (a b : Int) (hk : 64 < k) : laws_wideIs.f k a b (Dig.dg m) = some (a == (halves m).1 && (b == (halves m).2)) := by
  unfold laws_wideIs.f
  rw [bnd (halves_law m k hk)]
theorem is_self (m k : Nat) (hk : 64 < k) : laws_wideIs.f k (halves m).1 (halves m).2 (Dig.dg m) = some true := by
  rw [is_law m k _ _ hk]
  simp
end Go.Proofs.YtiifnofghicnaaaDoor.PAll
