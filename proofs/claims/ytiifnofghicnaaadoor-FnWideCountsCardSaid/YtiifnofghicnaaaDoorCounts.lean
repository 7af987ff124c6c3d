/- FnWideCounts: the law's function answers true, if math/bits.deBruijn64tab holds what its text lays. -/
import Derived.Test.YtiifnofghicnaaaDoorTLenLaw
import Derived.Test.YtiifnofghicnaaaDoorTAllx2
import Derived.Test.YtiifnofghicnaaaDoorRows
import Derived.LaidLaws
import Derived.Lib.LaidTab
import Derived.MakeChecks
namespace Go.Proofs.YtiifnofghicnaaaDoor.TAll
open Go.Proofs.YtiifnofghicnaaaDoor.PAll (U64 N128 halves)
open Go.RowKit Go.Proofs.YtiifnofghicnaaaDoorW.PrintWords Go.Proofs.YtiifnofghicnaaaDoorW.PrintLast Go.Proofs.YtiifnofghicnaaaDoorW.PrintMore
/-- The least of the first n of which f is true; t if there is none. -/
def lowf (f : Nat → Bool) : Nat → Nat → Nat
  | 0, t => t
  | n + 1, t => lowf f n (if f n = true then n else t)
theorem lowf_none (f : Nat → Bool) : ∀ n t, (∀ i, i < n → f i = false) → lowf f n t = t
  | 0, _, _ => rfl
  | n + 1, t, h => by
    rw [lowf, h n (by omega), if_neg (by decide)]
    exact lowf_none f n t (fun i hi => h i (by omega))
theorem lowf_is (f : Nat → Bool) (i : Nat) (hi : f i = true) (hj : ∀ j, j < i → f j = false) : ∀ n t, i < n → lowf f n t = i
  | 0, _, h => absurd h (by omega)
  | n + 1, t, h => by
    rw [lowf]
    by_cases e : i = n
    · subst e
      rw [hi, if_pos rfl]
      exact lowf_none f i i hj
    · exact lowf_is f i hi hj n _ (by omega)
theorem counts_l0 (k : Nat) (x3 : List Int) (x4 x5 x6 a b : Int) : laws_FnWideCounts.l0 (k + 1) x3 x4 x5 x6 a b = if x6 ≥ 0 then ((spec_Big_Bit.f x3 x6).bind fun t147 => (if t147 = true then (laws_FnWideCounts.l0 k x3 (wrap64 (x4 + 1)) x6 (wrap64 (x6 - 1)) a b) else (laws_FnWideCounts.l0 k x3 x4 x5 (wrap64 (x6 - 1)) a b))) else ((impl_WideLeading.f a b).bind fun t148 => ((spec_Big_Length.f k x3).bind fun t149 => (if t148 = (wrap64 (128 - t149)) then ((impl_WideTrailing.f a b).bind fun t150 => (if t150 = x5 then ((impl_WideOnes.f a b).bind fun t151 => (if t151 = x4 then ((impl_WideLen.f a b).bind fun t152 => ((spec_Big_Length.f k x3).bind fun t153 => (some (t152 == t153)))) else (some false))) else (some false))) else (some false)))) := by
  rw [laws_FnWideCounts.l0]
theorem wk (n : Int) (h : -9223372036854775808 ≤ n ∧ n < 9223372036854775808) : wrap64 n = n := by
  unfold wrap64
  omega
theorem counts_loop (N : Nat) (a b : Int) : ∀ (n k o t : Nat), n ≤ 128 → o + n ≤ 1000 →
    laws_FnWideCounts.l0 (k + n + 1) (Dig.dg N) (o : Int) (t : Int) ((n : Int) - 1) a b = laws_FnWideCounts.l0 (k + 1) (Dig.dg N) ((o + cnt N.testBit n : Nat) : Int) ((lowf N.testBit n t : Nat) : Int) (-1) a b
  | 0, k, o, t, _, _ => rfl
  | n + 1, k, o, t, h, h2 => by
    have e1 : (((n + 1 : Nat) : Int) - 1) = (n : Int) := by omega
    have e2 : wrap64 ((n : Int) - 1) = (n : Int) - 1 := wk _ (by omega)
    have e3 : wrap64 ((o : Int) + 1) = ((o + 1 : Nat) : Int) := by rw [wk _ (by omega)]; omega
    rw [show k + (n + 1) + 1 = (k + n + 1) + 1 by omega, counts_l0, e1, if_pos (by omega), bnd (bit_law N n (by omega)), e2, e3, cnt, lowf]
    cases hb : N.testBit n
    · rw [if_neg (by decide), if_neg (by decide), counts_loop N a b n k o t (by omega) (by omega)]
      rfl
    · rw [if_pos rfl, if_pos rfl, counts_loop N a b n k (o + 1) n (by omega) (by omega)]
      congr 2
      simp only [Bool.toNat_true]
      omega
theorem len_is (x : Nat) (hx : x < 18446744073709551616) : bits_Len64.f (x : Int) = some ((lenN x : Nat) : Int) := by
  unfold bits_Len64.f
  rw [if_pos (by omega), Int.toNat_natCast]
theorem tz_is (x : Nat) (hx : x < 18446744073709551616) : bits_TrailingZeros64.f (x : Int) = some ((tzN x : Nat) : Int) := by
  unfold bits_TrailingZeros64.f
  rw [if_pos (by omega), Int.toNat_natCast]
theorem pop_is (x : Nat) (hx : x < 18446744073709551616) : bits_OnesCount64.f (x : Int) = some ((popN x : Nat) : Int) := by
  unfold bits_OnesCount64.f
  rw [if_pos (by omega), Int.toNat_natCast]
theorem lenN_le {x k : Nat} (h : x < 2 ^ k) : lenN x ≤ k := by
  unfold lenN
  split
  · omega
  · rename_i h0
    have := (Nat.log2_lt h0 (k := k)).mpr h
    omega
theorem blen_len (x : Nat) : blen x = lenN x := rfl
theorem lenN_two (a b : Nat) (ha : a < 18446744073709551616) : lenN (a + b * 18446744073709551616) = if b = 0 then lenN a else 64 + lenN b := by
  split
  · rename_i h
    rw [h, Nat.zero_mul, Nat.add_zero]
  · rename_i h
    rw [lenN_div _ 64 (by omega), show (2 : Nat) ^ 64 = 18446744073709551616 from rfl]
    congr 2
    omega
theorem lead_is (a b : Nat) (ha : a < 18446744073709551616) (hb : b < 18446744073709551616) : uint128_Uint128_LeadingZeros.f (a : Int) (b : Int) = some ((128 - lenN (a + b * 18446744073709551616) : Nat) : Int) := by
  have la := lenN_le (x := a) (k := 64) ha
  have lb := lenN_le (x := b) (k := 64) hb
  rw [lenN_two a b ha]
  unfold uint128_Uint128_LeadingZeros.f bits_LeadingZeros64.f
  by_cases h : b = 0
  · subst h
    rw [if_neg (by decide), if_pos rfl, bnd (len_is a ha)]
    show some (wrap64 (64 + wrap64 (64 - ((lenN a : Nat) : Int)))) = _
    rw [wk (64 - ((lenN a : Nat) : Int)) (by omega), wk _ (by omega)]
    congr 1
    omega
  · rw [if_pos (by omega), if_neg h, bnd (len_is b hb)]
    show some (wrap64 (64 - ((lenN b : Nat) : Int))) = _
    rw [wk _ (by omega)]
    congr 1
    omega
theorem tzN_le (x : Nat) (hx : x < 18446744073709551616) : tzN x ≤ 64 := by
  by_cases h : x = 0
  · subst h
    decide
  · have := (tz_pow x hx h).1
    omega
theorem trail_is (a b : Nat) (ha : a < 18446744073709551616) (hb : b < 18446744073709551616) : uint128_Uint128_TrailingZeros.f (a : Int) (b : Int) = some ((lowf (a + b * 18446744073709551616).testBit 128 128 : Nat) : Int) := by
  unfold uint128_Uint128_TrailingZeros.f
  have bit := whole_bit a b
  by_cases h : a = 0
  · rw [if_neg (by omega), bnd (tz_is b hb)]
    have lb := tzN_le b hb
    rw [wk _ (by omega)]
    by_cases h2 : b = 0
    · rw [lowf_none _ _ _ (fun i _ => by rw [h, h2]; simp), h2]
      rfl
    · obtain ⟨t1, _, t3, t4⟩ := tz_pow b hb h2
      rw [lowf_is _ (64 + tzN b) (by rw [bit _ ha, if_neg (by omega), show 64 + tzN b - 64 = tzN b by omega, t4]) (fun j hj => by
        rw [bit _ ha]
        split
        · rw [h]; simp
        · exact t3 _ (by omega)) 128 128 (by omega)]
      congr 1
  · rw [if_pos (by omega), bnd (tz_is a ha)]
    obtain ⟨t1, _, t3, t4⟩ := tz_pow a ha h
    rw [lowf_is _ (tzN a) (by rw [bit _ ha, if_pos t1, t4]) (fun j hj => by rw [bit _ ha, if_pos (by omega), t3 j hj]) 128 128 (by omega)]
theorem pop_le (x : Nat) : popN x ≤ 64 := by
  have : ∀ (f : Nat → Bool) n, cnt f n ≤ n := by
    intro f n
    induction n with
    | zero => exact Nat.le_refl _
    | succ n ih =>
      rw [cnt]
      have : (f n).toNat ≤ 1 := Bool.toNat_le _
      omega
  exact this _ 64
theorem ones_is (a b : Nat) (ha : a < 18446744073709551616) (hb : b < 18446744073709551616) : uint128_Uint128_OnesCount.f (a : Int) (b : Int) = some ((cnt (a + b * 18446744073709551616).testBit 128 : Nat) : Int) := by
  unfold uint128_Uint128_OnesCount.f
  have l1 := pop_le a
  have l2 := pop_le b
  rw [bnd (pop_is b hb), bnd (pop_is a ha), wk _ (by omega), show 128 = 64 + 64 from rfl, cnt_add]
  have e1 : cnt (a + b * 18446744073709551616).testBit 64 = popN a := cnt_congr 64 fun i hi => by rw [whole_bit a b i ha, if_pos hi]
  have e2 : cnt (fun i => (a + b * 18446744073709551616).testBit (64 + i)) 64 = popN b := cnt_congr 64 fun i hi => by rw [whole_bit a b _ ha, if_neg (by omega), show 64 + i - 64 = i by omega]
  rw [e1, e2]
  congr 1
  omega
theorem ones_open (x y : Int) : impl_WideOnes.f x y = uint128_Uint128_OnesCount.f x y := by
  show (uint128_Uint128_OnesCount.f x y).bind (fun t => some t) = _
  generalize uint128_Uint128_OnesCount.f x y = o
  cases o <;> rfl
theorem ones_wide (a b : Nat) (ha : a < 18446744073709551616) (hb : b < 18446744073709551616) : impl_WideOnes.f (a : Int) (b : Int) = some ((cnt (a + b * 18446744073709551616).testBit 128 : Nat) : Int) := by
  rw [ones_open]
  exact ones_is a b ha hb
theorem sub128 (n : Nat) (h : n ≤ 128) : wrap64 (128 - ((128 - n : Nat) : Int)) = (n : Int) := by
  rw [wk _ (by omega)]
  omega
theorem sub128' (n : Nat) (h : n ≤ 128) : ((128 - n : Nat) : Int) = wrap64 (128 - (n : Int)) := by
  rw [wk _ (by omega)]
  omega
theorem counts_law (a b : Nat) (ha : a < 18446744073709551616) (hb : b < 18446744073709551616) : laws_FnWideCounts.f 400 (a : Int) (b : Int) = some true := by
  have ua : U64 (a : Int) := ⟨by omega, by omega⟩
  have ub : U64 (b : Int) := ⟨by omega, by omega⟩
  have nN : N128 (a : Int) (b : Int) = a + b * 18446744073709551616 := by
    unfold N128
    rw [Int.toNat_natCast, Int.toNat_natCast]
  have lt := N128_lt ua ub
  have nd := nd_128 lt
  rw [nN] at lt nd
  unfold laws_FnWideCounts.f
  rw [bnd (whole_law ua ub), nN]
  have lo := counts_loop (a + b * 18446744073709551616) (a : Int) (b : Int) 128 271 0 128 (by decide) (by decide)
  rw [show 271 + 128 + 1 = 400 from rfl, show (((128 : Nat) : Int) - 1) = 127 from rfl, show ((128 : Nat) : Int) = 128 from rfl, show ((0 : Nat) : Int) = 0 from rfl, Nat.zero_add] at lo
  have le := lenN_le (x := a + b * 18446744073709551616) (k := 128) (by omega)
  have ll := length_law (a + b * 18446744073709551616) 271 (by omega) (by omega)
  rw [blen_len] at ll
  have u : impl_Wide_u.f (a : Int) (b : Int) = some ((a : Int), (b : Int)) := rfl
  have i1 : impl_WideLeading.f (a : Int) (b : Int) = some ((128 - lenN (a + b * 18446744073709551616) : Nat) : Int) := by
    unfold impl_WideLeading.f
    rw [bnd u]
    exact bnd (lead_is a b ha hb) (fun t => some t)
  have i2 : impl_WideTrailing.f (a : Int) (b : Int) = some ((lowf (a + b * 18446744073709551616).testBit 128 128 : Nat) : Int) := by
    unfold impl_WideTrailing.f
    rw [bnd u]
    exact bnd (trail_is a b ha hb) (fun t => some t)
  have i3 := ones_wide a b ha hb
  have i5 : uint128_Uint128_Len.f (a : Int) (b : Int) = some ((lenN (a + b * 18446744073709551616) : Nat) : Int) := by
    unfold uint128_Uint128_Len.f
    rw [bnd (lead_is a b ha hb)]
    exact congrArg some (sub128 _ le)
  have i4 : impl_WideLen.f (a : Int) (b : Int) = some ((lenN (a + b * 18446744073709551616) : Nat) : Int) := by
    unfold impl_WideLen.f
    rw [bnd u]
    exact bnd i5 (fun t => some t)
  rw [lo, counts_l0, if_neg (by decide), bnd i1, bnd ll, if_pos (sub128' _ le), bnd i2, if_pos rfl, bnd i3, if_pos rfl, bnd i4, bnd ll]
  simp
theorem gTab : Tryd.prog.globalNamed "math/bits.deBruijn64tab" = some 2 := by kernel_rfl
theorem tTab : (Tryd.prog.globals[2]?).map (·.type) = some 101 := by kernel_rfl
theorem cTab : Tryd.prog.cellsOf 101 = 64 := by kernel_rfl
set_option maxRecDepth 100000 in
theorem globT_of {W : World} (h : laidMetH Tryd.prog Rows.fnWideCountsRow.laid W) : GlobT W := by
  rw [MakeChecks.laidMetH_plain _ _ _ (by kernel_rfl)] at h
  have h2 : laidMet Tryd.prog [("math/bits.deBruijn64tab", Lib.tabData .u8 (tabZ.map fun (n : Nat) => (n : Int)))] W := h
  have t := Lib.tabIs_of_head gTab tTab Tryd.underlying101 (by kernel_rfl) (by kernel_rfl) cTab h2
  intro i hi
  have c := t.cell gTab i (by simpa [tabZ] using hi)
  rw [c]
  congr 2
  rw [List.getD_eq_getElem?_getD, List.getD_eq_getElem?_getD, List.getElem?_map]
  cases tabZ[i]? <;> rfl
theorem counts_walk (a b : Int) (ha : 0 ≤ a ∧ a ≤ 18446744073709551615) (hb : 0 ≤ b ∧ b ≤ 18446744073709551615) (w : World) (hL : laidMetH Tryd.prog Rows.fnWideCountsRow.laid w) :
    Calls Tryd.prog 4 #[.agg #[.int .u64 a, .int .u64 b]] w fun e w' => e = .returned (.bool true) ∧ Below w.heap.size w w' := by
  obtain ⟨x, rfl⟩ := Int.eq_ofNat_of_zero_le ha.1
  obtain ⟨y, rfl⟩ := Int.eq_ofNat_of_zero_le hb.1
  exact laws_FnWideCounts.calls 400 _ _ true w (counts_law x y (by omega) (by omega)) (globT_of hL)
end Go.Proofs.YtiifnofghicnaaaDoor.TAll
