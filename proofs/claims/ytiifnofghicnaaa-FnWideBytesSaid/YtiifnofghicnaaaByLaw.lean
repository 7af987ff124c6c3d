/- FnWideBytes: the law's function answers true. Printed by gen/bylaw.py. -/
import Derived.Test.YtiifnofghicnaaaBAllx
import Derived.Test.YtiifnofghicnaaaDig
namespace Go.Proofs.Ytiifnofghicnaaa.BAll
open Go.RowKit Go.Proofs.YtiifnofghicnaaaW.PrintWords Go.Proofs.YtiifnofghicnaaaW.PrintLast Go.Proofs.YtiifnofghicnaaaW.PrintMore
set_option linter.unusedVariables false
def U64 (x : Int) : Prop := 0 ≤ x ∧ x < 18446744073709551616
def N128 (a b : Int) : Nat := a.toNat + b.toNat * 18446744073709551616
/-- A step whose answer is known. (Not by simp: the kernel would compare what is bound by unfolding it.) -/
theorem bnd {α β : Type} {o : Option α} {x : α} (h : o = some x) (f : α → Option β) : o.bind f = f x := by
  subst h
  rfl
theorem U64.of {x : Int} (h : 0 ≤ x ∧ x ≤ 18446744073709551615) : U64 x := ⟨h.1, by have := h.2; omega⟩
theorem N128_lt {a b : Int} (ha : U64 a) (hb : U64 b) : N128 a b < 340282366920938463463374607431768211456 := by
  obtain ⟨h1, h2⟩ := ha
  obtain ⟨h3, h4⟩ := hb
  unfold N128
  omega
theorem whole_law {a b : Int} (ha : U64 a) (hb : U64 b) : laws_wideWhole.f a b = some (Dig.dg (N128 a b)) := by
  unfold laws_wideWhole.f spec_Whole.f
  rw [if_pos ⟨ha.1, ha.2, hb.1, hb.2⟩]
  rfl
theorem rd_dg (m i : Nat) : rd (Dig.dg m) (i : Int) = ((m / 65536 ^ i % 65536 : Nat) : Int) := by
  unfold rd
  rw [Int.toNat_natCast, Dig.dg_getD]
theorem and1_i64 (d : Nat) (h : d < 65536) : Go.bits .and .i64 (d : Int) 1 = ((d % 2 : Nat) : Int) := by
  have := (bits_nat .i64 16 (by decide) (fun n h0 h1 => by rw [IntKind.wrap_i64]; omega) d 1 (by omega) (by decide)).1
  rw [Nat.and_one_is_mod] at this
  exact this
theorem bit_law (m i : Nat) (hi : i < 4611686018427387904) : spec_Big_Bit.f (Dig.dg m) (i : Int) = some (m.testBit i) := by
  have e1 : wrap64 (Int.tdiv (i : Int) 16) = ((i / 16 : Nat) : Int) := by
    have : Int.tdiv (i : Int) 16 = ((i / 16 : Nat) : Int) := by rw [Int.tdiv_eq_ediv_of_nonneg (by omega)]; omega
    rw [this]
    unfold wrap64
    omega
  have e2 : Int.tmod (i : Int) 16 = ((i % 16 : Nat) : Int) := by rw [Int.tmod_eq_emod_of_nonneg (by omega)]; omega
  unfold spec_Big_Bit.f
  rw [if_pos (by omega), e1, e2, Dig.dg_len]
  by_cases h : i / 16 < Dig.nd m
  · rw [if_pos (by omega), if_pos (by omega), if_pos (by omega), rd_dg]
    congr 1
    have hb := Dig.bit_dig m i
    generalize hd : m / 65536 ^ (i / 16) % 65536 = d at hb ⊢
    have hlt : d < 65536 := by omega
    have e3 : shr .i64 (d : Int) ((i % 16 : Nat) : Int) = ((d / 2 ^ (i % 16) : Nat) : Int) := by
      unfold shr
      rw [Int.toNat_natCast, Nat.min_eq_left (by simp [IntKind.bits]; omega)]
      simp
    rw [e3, and1_i64 _ (Nat.lt_of_le_of_lt (Nat.div_le_self _ _) hlt), hb]
    cases m.testBit i <;> rfl
  · rw [if_neg (by omega)]
    congr 1
    symm
    apply Nat.testBit_lt_two_pow
    refine Nat.lt_of_lt_of_le (Dig.lt_nd m) ?_
    rw [Dig.p16]
    exact Nat.pow_le_pow_right (by decide) (by omega)
theorem u8_or_bit (d e : Nat) (he : e < 8) (hd : d < 2 ^ e) : Go.bits .or .u8 (d : Int) (shl .u8 1 (e : Int)) = ((d + 2 ^ e : Nat) : Int) := by
  have h2 : (2 : Nat) ^ e ≤ 2 ^ 7 := Nat.pow_le_pow_right (by decide) (by omega)
  have h3 : shl .u8 1 (e : Int) = ((2 ^ e : Nat) : Int) := by
    unfold shl
    rw [Int.toNat_natCast, Nat.min_eq_left (by simp [IntKind.bits]; omega), IntKind.wrap_u8, Int.one_mul]
    have : ((2 : Int) ^ e) = ((2 ^ e : Nat) : Int) := by simp
    rw [this]
    omega
  rw [h3, (bits_nat .u8 8 (by decide) (fun n h0 h1 => by rw [IntKind.wrap_u8]; omega) d (2 ^ e) (by omega) (by omega)).2, Dig.or_add hd]
theorem or_step (n s x : Nat) (hs : s < 2 ^ n) (hx : x < 256) (hn : n ≤ 56) : Go.bits .or .u64 (s : Int) (IntKind.u64.wrap (IntKind.u64.wrap (x : Int) * ((2 ^ n : Nat) : Int))) = ((s + x * 2 ^ n : Nat) : Int) := by
  have h2 : 2 ^ n ≤ 2 ^ 56 := Nat.pow_le_pow_right (by decide) hn
  have h3 : x * 2 ^ n ≤ 255 * 2 ^ 56 := Nat.mul_le_mul (by omega) h2
  have h4 : IntKind.u64.wrap (x : Int) = (x : Int) := by rw [IntKind.wrap_u64]; omega
  have h5 : IntKind.u64.wrap ((x : Int) * ((2 ^ n : Nat) : Int)) = ((x * 2 ^ n : Nat) : Int) := by
    rw [show (x : Int) * ((2 ^ n : Nat) : Int) = ((x * 2 ^ n : Nat) : Int) by rw [Int.natCast_mul], IntKind.wrap_u64]
    omega
  rw [h4, h5, (bits_nat .u64 64 (by decide) (fun n h0 h1 => by rw [IntKind.wrap_u64]; omega) s (x * 2 ^ n) (by omega) (by omega)).2]
  have h6 := Nat.two_pow_add_eq_or_of_lt hs x
  rw [Nat.or_comm, Nat.mul_comm x, ← h6, Nat.add_comm]
theorem or8_law (x0 x1 x2 x3 x4 x5 x6 x7 : Nat) (h0 : x0 < 256) (h1 : x1 < 256) (h2 : x2 < 256) (h3 : x3 < 256) (h4 : x4 < 256) (h5 : x5 < 256) (h6 : x6 < 256) (h7 : x7 < 256) :
    or8 x0 x1 x2 x3 x4 x5 x6 x7 = ((x0 + x1 * 256 + x2 * 65536 + x3 * 16777216 + x4 * 4294967296 + x5 * 1099511627776 + x6 * 281474976710656 + x7 * 72057594037927936 : Nat) : Int) := by
  unfold or8
  have w0 : IntKind.u64.wrap (x0 : Int) = (x0 : Int) := by rw [IntKind.wrap_u64]; omega
  have s1 := or_step 8 x0 x1 (by omega) h1 (by decide)
  have s2 := or_step 16 (x0 + x1 * 2 ^ 8) x2 (by omega) h2 (by decide)
  have s3 := or_step 24 (x0 + x1 * 2 ^ 8 + x2 * 2 ^ 16) x3 (by omega) h3 (by decide)
  have s4 := or_step 32 (x0 + x1 * 2 ^ 8 + x2 * 2 ^ 16 + x3 * 2 ^ 24) x4 (by omega) h4 (by decide)
  have s5 := or_step 40 (x0 + x1 * 2 ^ 8 + x2 * 2 ^ 16 + x3 * 2 ^ 24 + x4 * 2 ^ 32) x5 (by omega) h5 (by decide)
  have s6 := or_step 48 (x0 + x1 * 2 ^ 8 + x2 * 2 ^ 16 + x3 * 2 ^ 24 + x4 * 2 ^ 32 + x5 * 2 ^ 40) x6 (by omega) h6 (by decide)
  have s7 := or_step 56 (x0 + x1 * 2 ^ 8 + x2 * 2 ^ 16 + x3 * 2 ^ 24 + x4 * 2 ^ 32 + x5 * 2 ^ 40 + x6 * 2 ^ 48) x7 (by omega) h7 (by decide)
  rw [w0]
  exact (congrArg (fun z => Go.bits .or .u64 z _) ((congrArg (fun z => Go.bits .or .u64 z _) ((congrArg (fun z => Go.bits .or .u64 z _) ((congrArg (fun z => Go.bits .or .u64 z _) ((congrArg (fun z => Go.bits .or .u64 z _) ((congrArg (fun z => Go.bits .or .u64 z _) s1).trans s2)).trans s3)).trans s4)).trans s5)).trans s6)).trans s7
theorem oct_get (big : Bool) (x y i : Nat) (hx : x < 18446744073709551616) (hy : y < 18446744073709551616) (hi : i < 16) : (oct16 big (x : Int) (y : Int))[i]? = some (((x + y * 18446744073709551616) / 256 ^ (if big = true then 15 - i else i) % 256 : Nat) : Int) := by
  cases big
  · rw [if_neg (by decide)]
    obtain rfl | rfl | rfl | rfl | rfl | rfl | rfl | rfl | rfl | rfl | rfl | rfl | rfl | rfl | rfl | rfl : i = 0 ∨ i = 1 ∨ i = 2 ∨ i = 3 ∨ i = 4 ∨ i = 5 ∨ i = 6 ∨ i = 7 ∨ i = 8 ∨ i = 9 ∨ i = 10 ∨ i = 11 ∨ i = 12 ∨ i = 13 ∨ i = 14 ∨ i = 15 := by omega
    · show some _ = some _
      rw [show (256 : Nat) ^ 0 = 1 from rfl]
      congr 1
      omega
    · show some _ = some _
      rw [show (256 : Nat) ^ 1 = 256 from rfl]
      congr 1
      omega
    · show some _ = some _
      rw [show (256 : Nat) ^ 2 = 65536 from rfl]
      congr 1
      omega
    · show some _ = some _
      rw [show (256 : Nat) ^ 3 = 16777216 from rfl]
      congr 1
      omega
    · show some _ = some _
      rw [show (256 : Nat) ^ 4 = 4294967296 from rfl]
      congr 1
      omega
    · show some _ = some _
      rw [show (256 : Nat) ^ 5 = 1099511627776 from rfl]
      congr 1
      omega
    · show some _ = some _
      rw [show (256 : Nat) ^ 6 = 281474976710656 from rfl]
      congr 1
      omega
    · show some _ = some _
      rw [show (256 : Nat) ^ 7 = 72057594037927936 from rfl]
      congr 1
      omega
    · show some _ = some _
      rw [show (256 : Nat) ^ 8 = 18446744073709551616 from rfl]
      congr 1
      omega
    · show some _ = some _
      rw [show (256 : Nat) ^ 9 = 4722366482869645213696 from rfl]
      congr 1
      omega
    · show some _ = some _
      rw [show (256 : Nat) ^ 10 = 1208925819614629174706176 from rfl]
      congr 1
      omega
    · show some _ = some _
      rw [show (256 : Nat) ^ 11 = 309485009821345068724781056 from rfl]
      congr 1
      omega
    · show some _ = some _
      rw [show (256 : Nat) ^ 12 = 79228162514264337593543950336 from rfl]
      congr 1
      omega
    · show some _ = some _
      rw [show (256 : Nat) ^ 13 = 20282409603651670423947251286016 from rfl]
      congr 1
      omega
    · show some _ = some _
      rw [show (256 : Nat) ^ 14 = 5192296858534827628530496329220096 from rfl]
      congr 1
      omega
    · show some _ = some _
      rw [show (256 : Nat) ^ 15 = 1329227995784915872903807060280344576 from rfl]
      congr 1
      omega
  · rw [if_pos rfl]
    obtain rfl | rfl | rfl | rfl | rfl | rfl | rfl | rfl | rfl | rfl | rfl | rfl | rfl | rfl | rfl | rfl : i = 0 ∨ i = 1 ∨ i = 2 ∨ i = 3 ∨ i = 4 ∨ i = 5 ∨ i = 6 ∨ i = 7 ∨ i = 8 ∨ i = 9 ∨ i = 10 ∨ i = 11 ∨ i = 12 ∨ i = 13 ∨ i = 14 ∨ i = 15 := by omega
    · show some _ = some _
      rw [show (256 : Nat) ^ (15 - 0) = 1329227995784915872903807060280344576 from rfl]
      congr 1
      omega
    · show some _ = some _
      rw [show (256 : Nat) ^ (15 - 1) = 5192296858534827628530496329220096 from rfl]
      congr 1
      omega
    · show some _ = some _
      rw [show (256 : Nat) ^ (15 - 2) = 20282409603651670423947251286016 from rfl]
      congr 1
      omega
    · show some _ = some _
      rw [show (256 : Nat) ^ (15 - 3) = 79228162514264337593543950336 from rfl]
      congr 1
      omega
    · show some _ = some _
      rw [show (256 : Nat) ^ (15 - 4) = 309485009821345068724781056 from rfl]
      congr 1
      omega
    · show some _ = some _
      rw [show (256 : Nat) ^ (15 - 5) = 1208925819614629174706176 from rfl]
      congr 1
      omega
    · show some _ = some _
      rw [show (256 : Nat) ^ (15 - 6) = 4722366482869645213696 from rfl]
      congr 1
      omega
    · show some _ = some _
      rw [show (256 : Nat) ^ (15 - 7) = 18446744073709551616 from rfl]
      congr 1
      omega
    · show some _ = some _
      rw [show (256 : Nat) ^ (15 - 8) = 72057594037927936 from rfl]
      congr 1
      omega
    · show some _ = some _
      rw [show (256 : Nat) ^ (15 - 9) = 281474976710656 from rfl]
      congr 1
      omega
    · show some _ = some _
      rw [show (256 : Nat) ^ (15 - 10) = 1099511627776 from rfl]
      congr 1
      omega
    · show some _ = some _
      rw [show (256 : Nat) ^ (15 - 11) = 4294967296 from rfl]
      congr 1
      omega
    · show some _ = some _
      rw [show (256 : Nat) ^ (15 - 12) = 16777216 from rfl]
      congr 1
      omega
    · show some _ = some _
      rw [show (256 : Nat) ^ (15 - 13) = 65536 from rfl]
      congr 1
      omega
    · show some _ = some _
      rw [show (256 : Nat) ^ (15 - 14) = 256 from rfl]
      congr 1
      omega
    · show some _ = some _
      rw [show (256 : Nat) ^ (15 - 15) = 1 from rfl]
      congr 1
      omega
/-- What the law has told of the octets behind i rounds. -/
def part (W : List Int) (i : Nat) : List Int := W.take i ++ List.replicate (16 - i) 0
theorem part_len (W : List Int) (hW : W.length = 16) (i : Nat) (hi : i ≤ 16) : (part W i).length = 16 := by
  unfold part
  rw [List.length_append, List.length_take, List.length_replicate]
  omega
theorem part_get (W : List Int) (hW : W.length = 16) (i : Nat) (hi : i < 16) : (part W i).getD i 0 = 0 := by
  unfold part
  rw [List.getD_eq_getElem?_getD, List.getElem?_append_right (by rw [List.length_take]; omega), List.length_take, Nat.min_eq_left (by omega), Nat.sub_self, List.getElem?_replicate, if_pos (by omega)]
  rfl
theorem part_set (W : List Int) (hW : W.length = 16) (i : Nat) (hi : i < 16) (v : Int) (hv : W[i]? = some v) : (part W i).set i v = part W (i + 1) := by
  apply List.ext_getElem?
  intro j
  rw [List.getElem?_set, part_len W hW i (by omega)]
  unfold part
  by_cases h : i = j
  · subst h
    rw [if_pos rfl, if_pos hi, List.getElem?_append_left (by rw [List.length_take]; omega), List.getElem?_take_of_lt (by omega), hv]
  · rw [if_neg h]
    rcases Nat.lt_or_ge j i with h1 | h1
    · rw [List.getElem?_append_left (by rw [List.length_take]; omega), List.getElem?_append_left (by rw [List.length_take]; omega), List.getElem?_take_of_lt h1, List.getElem?_take_of_lt (by omega)]
    · rw [List.getElem?_append_right (by rw [List.length_take]; omega), List.getElem?_append_right (by rw [List.length_take]; omega), List.length_take, List.length_take, Nat.min_eq_left (by omega), Nat.min_eq_left (by omega), List.getElem?_replicate, List.getElem?_replicate]
      by_cases h2 : j < 16
      · rw [if_pos (by omega), if_pos (by omega)]
      · rw [if_neg (by omega), if_neg (by omega)]
theorem part_end (W : List Int) (hW : W.length = 16) : part W 16 = W := by
  unfold part
  rw [List.take_of_length_le (by omega)]
  simp
end Go.Proofs.Ytiifnofghicnaaa.BAll
