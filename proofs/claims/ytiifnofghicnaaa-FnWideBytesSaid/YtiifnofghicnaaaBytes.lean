/- FnWideBytes: the law's function answers true. -/
import Derived.Test.YtiifnofghicnaaaByLaw
namespace Go.Proofs.Ytiifnofghicnaaa.BAll
open Go.RowKit Go.Proofs.YtiifnofghicnaaaW.PrintWords Go.Proofs.YtiifnofghicnaaaW.PrintLast Go.Proofs.YtiifnofghicnaaaW.PrintMore
set_option linter.unusedVariables false
theorem rd_nat (l : List Int) (i : Nat) : rd l (i : Int) = l.getD i 0 := by
  unfold rd
  rw [Int.toNat_natCast]
theorem bit_up (o j : Nat) : o % 2 ^ (j + 1) = o % 2 ^ j + (if o.testBit j = true then 2 ^ j else 0) := by
  rw [Nat.mod_pow_succ, Nat.testBit_eq_decide_div_mod_eq]
  by_cases h : o / 2 ^ j % 2 = 1
  · rw [if_pos (decide_eq_true h), h, Nat.mul_one]
  · rw [if_neg (by rw [decide_eq_true_eq]; exact h), show o / 2 ^ j % 2 = 0 by omega, Nat.mul_zero]
theorem oct_bit (X p j : Nat) (hj : j < 8) : (X / 256 ^ p % 256).testBit j = X.testBit (8 * p + j) := by
  rw [show (256 : Nat) = 2 ^ 8 from rfl, ← Nat.pow_mul, Nat.testBit_mod_two_pow, Nat.testBit_div_two_pow, decide_eq_true hj, Bool.true_and]
  rw [Nat.add_comm]
theorem inner_loop (l : List Int) (big : Bool) (X p i : Nat) (hp : p < 16) (hi : i < 16) (a b : Int) (k : Nat) : ∀ (d j : Nat) (L : List Int), j + d = 8 → L.length = 16 → L.getD i 0 = ((X / 256 ^ p % 256 % 2 ^ j : Nat) : Int) →
    laws_FnWideBytes.l1 (k + d + 1) l big (Dig.dg X) L (i : Int) (p : Int) 16 (i : Int) (j : Int) a b = laws_FnWideBytes.l0 k l big (Dig.dg X) (L.set i ((X / 256 ^ p % 256 : Nat) : Int)) 16 ((i + 1 : Nat) : Int) a b
  | 0, j, L, hd, hL, hg => by
    obtain rfl : j = 8 := by omega
    have ho : X / 256 ^ p % 256 % 2 ^ 8 = X / 256 ^ p % 256 := Nat.mod_eq_of_lt (Nat.mod_lt _ (by decide))
    rw [ho] at hg
    have hs : L.set i ((X / 256 ^ p % 256 : Nat) : Int) = L := by
      apply List.ext_getElem?
      intro t
      rw [List.getElem?_set]
      by_cases h : i = t
      · subst h
        rw [if_pos rfl, if_pos (by omega), ← hg, List.getD_eq_getElem?_getD, List.getElem?_eq_getElem (by omega)]
        rfl
      · rw [if_neg h]
    have hw : wrap64 ((i : Int) + 1) = ((i + 1 : Nat) : Int) := by unfold wrap64; omega
    rw [hs]
    show (if ((8 : Nat) : Int) < 8 then _ else laws_FnWideBytes.l0 k l big (Dig.dg X) L 16 (wrap64 ((i : Int) + 1)) a b) = _
    rw [if_neg (by decide), hw]
  | d + 1, j, L, hd, hL, hg => by
    have hj : j < 8 := by omega
    have hw1 : wrap64 ((wrap64 (8 * (p : Int))) + (j : Int)) = ((8 * p + j : Nat) : Int) := by unfold wrap64; omega
    have hw2 : wrap64 ((j : Int) + 1) = ((j + 1 : Nat) : Int) := by unfold wrap64; omega
    have hb := bit_law X (8 * p + j) (by omega)
    rw [show k + (d + 1) + 1 = (k + d + 1) + 1 by omega, laws_FnWideBytes.l1, if_pos (by omega), hw1, bnd hb, hw2]
    have hup := bit_up (X / 256 ^ p % 256) j
    rw [oct_bit X p j hj] at hup
    by_cases ht : X.testBit (8 * p + j) = true
    · rw [if_pos ht, if_pos (by omega), if_pos (by omega), if_pos (by omega), rd_nat, hg, Int.toNat_natCast, u8_or_bit _ _ hj (Nat.mod_lt _ (Nat.two_pow_pos _))]
      rw [if_pos ht] at hup
      rw [← hup, inner_loop l big X p i hp hi a b k d (j + 1) (L.set i _) (by omega) (by rw [List.length_set]; exact hL) (by rw [List.getD_eq_getElem?_getD, List.getElem?_set, if_pos rfl, if_pos (by omega)]; rfl), List.set_set]
    · rw [if_neg ht]
      rw [if_neg ht, Nat.add_zero] at hup
      exact inner_loop l big X p i hp hi a b k d (j + 1) L (by omega) hL (by rw [hg, hup]; rfl)
theorem outer_loop (l : List Int) (big : Bool) (X : Nat) (W : List Int) (hW : W.length = 16) (hX : ∀ i, i < 16 → W[i]? = some ((X / 256 ^ (if big = true then 15 - i else i) % 256 : Nat) : Int)) (a b : Int) (k : Nat) : ∀ (d i : Nat), i + d = 16 →
    laws_FnWideBytes.l0 (k + 11 * d) l big (Dig.dg X) (part W i) 16 (i : Int) a b = laws_FnWideBytes.l0 k l big (Dig.dg X) (part W 16) 16 ((16 : Nat) : Int) a b
  | 0, i, hd => by
    obtain rfl : i = 16 := by omega
    rfl
  | d + 1, i, hd => by
    have hi : i < 16 := by omega
    have hz : (part W i).getD i 0 = ((X / 256 ^ (if big = true then 15 - i else i) % 256 % 2 ^ 0 : Nat) : Int) := by rw [part_get W hW i hi, Nat.pow_zero, Nat.mod_one]; rfl
    have hw : wrap64 (15 - (i : Int)) = ((15 - i : Nat) : Int) := by unfold wrap64; omega
    rw [show k + 11 * (d + 1) = (k + 11 * d + 8 + 1) + 1 + 1 by omega, laws_FnWideBytes.l0, if_pos (by omega), hw, laws_FnWideBytes.j1, laws_FnWideBytes.j1]
    have hend := outer_loop l big X W hW hX a b k d (i + 1) (by omega)
    cases big
    · rw [if_neg (by decide)] at hz ⊢
      have h := inner_loop l false X i i hi hi a b (k + 11 * d) 8 0 (part W i) rfl (part_len W hW i (by omega)) hz
      have hv := hX i hi
      rw [if_neg (by decide)] at hv
      rw [part_set W hW i hi _ hv] at h
      exact h.trans hend
    · rw [if_pos rfl] at hz ⊢
      have h := inner_loop l true X (15 - i) i (by omega) hi a b (k + 11 * d) 8 0 (part W i) rfl (part_len W hW i (by omega)) hz
      have hv := hX i hi
      rw [if_pos rfl] at hv
      rw [part_set W hW i hi _ hv] at h
      exact h.trans hend
theorem getD_of {l : List Int} {i : Nat} {v : Int} (h : l[i]? = some v) : l.getD i 0 = v := by
  rw [List.getD_eq_getElem?_getD, h]
  rfl
theorem read_back (big : Bool) (x y : Nat) (hx : x < 18446744073709551616) (hy : y < 18446744073709551616) (l : List Int) (hl : l.length ≤ 1000) :
    impl_WideFromBytes.f (([] ++ oct16 big (x : Int) (y : Int)) ++ l) big = some ((x : Int), (y : Int), true) := by
  have hW := oct16_len big (x : Int) (y : Int)
  have hlen : ([] ++ oct16 big (x : Int) (y : Int) ++ l).length = 16 + l.length := by rw [List.nil_append, List.length_append, hW]
  have g : ∀ i, i < 16 → ([] ++ oct16 big (x : Int) (y : Int) ++ l).getD i 0 = (((x + y * 18446744073709551616) / 256 ^ (if big = true then 15 - i else i) % 256 : Nat) : Int) := fun i hi => by
    refine getD_of ?_
    rw [List.nil_append, List.getElem?_append_left (by rw [hW]; exact hi)]
    exact oct_get big x y i hx hy hi
  unfold impl_WideFromBytes.f wfb
  rw [if_neg (by rw [hlen]; omega), if_neg (by rw [hlen]; omega)]
  rw [g 0 (by decide), g 1 (by decide), g 2 (by decide), g 3 (by decide), g 4 (by decide), g 5 (by decide), g 6 (by decide), g 7 (by decide), g 8 (by decide), g 9 (by decide), g 10 (by decide), g 11 (by decide), g 12 (by decide), g 13 (by decide), g 14 (by decide), g 15 (by decide)]
  have hm : ∀ n : Nat, n % 256 < 256 := fun n => Nat.mod_lt _ (by decide)
  have e1 : ∀ q : Nat, q = x + y * 18446744073709551616 → q / 256 ^ 0 % 256 + q / 256 ^ 1 % 256 * 256 + q / 256 ^ 2 % 256 * 65536 + q / 256 ^ 3 % 256 * 16777216 + q / 256 ^ 4 % 256 * 4294967296 + q / 256 ^ 5 % 256 * 1099511627776 + q / 256 ^ 6 % 256 * 281474976710656 + q / 256 ^ 7 % 256 * 72057594037927936 = x := fun q hq => by
    rw [show (256 : Nat) ^ 0 = 1 from rfl, show (256 : Nat) ^ 1 = 256 from rfl, show (256 : Nat) ^ 2 = 65536 from rfl, show (256 : Nat) ^ 3 = 16777216 from rfl, show (256 : Nat) ^ 4 = 4294967296 from rfl, show (256 : Nat) ^ 5 = 1099511627776 from rfl, show (256 : Nat) ^ 6 = 281474976710656 from rfl, show (256 : Nat) ^ 7 = 72057594037927936 from rfl]
    omega
  have e2 : ∀ q : Nat, q = x + y * 18446744073709551616 → q / 256 ^ 8 % 256 + q / 256 ^ 9 % 256 * 256 + q / 256 ^ 10 % 256 * 65536 + q / 256 ^ 11 % 256 * 16777216 + q / 256 ^ 12 % 256 * 4294967296 + q / 256 ^ 13 % 256 * 1099511627776 + q / 256 ^ 14 % 256 * 281474976710656 + q / 256 ^ 15 % 256 * 72057594037927936 = y := fun q hq => by
    have h8 : q / 18446744073709551616 = y := by omega
    rw [show (256 : Nat) ^ 8 = 18446744073709551616 from rfl, show (256 : Nat) ^ 9 = 18446744073709551616 * 256 from rfl, show (256 : Nat) ^ 10 = 18446744073709551616 * 65536 from rfl, show (256 : Nat) ^ 11 = 18446744073709551616 * 16777216 from rfl, show (256 : Nat) ^ 12 = 18446744073709551616 * 4294967296 from rfl, show (256 : Nat) ^ 13 = 18446744073709551616 * 1099511627776 from rfl, show (256 : Nat) ^ 14 = 18446744073709551616 * 281474976710656 from rfl, show (256 : Nat) ^ 15 = 18446744073709551616 * 72057594037927936 from rfl]
    simp only [← Nat.div_div_eq_div_mul, h8]
    omega
  cases big
  · rw [if_neg (by decide)]
    simp only [if_neg (show ¬ (false = true) by decide)]
    rw [or8_law _ _ _ _ _ _ _ _ (hm _) (hm _) (hm _) (hm _) (hm _) (hm _) (hm _) (hm _), or8_law _ _ _ _ _ _ _ _ (hm _) (hm _) (hm _) (hm _) (hm _) (hm _) (hm _) (hm _), e1 _ rfl, e2 _ rfl]
  · rw [if_pos rfl]
    simp only [if_true]
    rw [or8_law _ _ _ _ _ _ _ _ (hm _) (hm _) (hm _) (hm _) (hm _) (hm _) (hm _) (hm _), or8_law _ _ _ _ _ _ _ _ (hm _) (hm _) (hm _) (hm _) (hm _) (hm _) (hm _) (hm _)]
    rw [show 15 - 15 = 0 from rfl, show 15 - 14 = 1 from rfl, show 15 - 13 = 2 from rfl, show 15 - 12 = 3 from rfl, show 15 - 11 = 4 from rfl, show 15 - 10 = 5 from rfl, show 15 - 9 = 6 from rfl, show 15 - 8 = 7 from rfl, show 15 - 7 = 8 from rfl, show 15 - 6 = 9 from rfl, show 15 - 5 = 10 from rfl, show 15 - 4 = 11 from rfl, show 15 - 3 = 12 from rfl, show 15 - 2 = 13 from rfl, show 15 - 1 = 14 from rfl, show 15 - 0 = 15 from rfl]
    rw [e1 _ rfl, e2 _ rfl]
theorem cmp_loop (W l : List Int) (hW : W.length = 16) (h16 : 16 ≤ l.length) (hl : l.length ≤ 1000) (k : Nat) : ∀ (d i : Nat), i + d = l.length →
    laws_FnWideBytes.l2 (k + d + 1) l W (W ++ l.drop 16) (l.length : Int) (i : Int) = some true
  | 0, i, hd => by
    rw [show k + 0 + 1 = k + 1 from rfl, laws_FnWideBytes.l2, if_neg (by omega)]
  | d + 1, i, hd => by
    have hlen : (W ++ l.drop 16).length = l.length := by rw [List.length_append, hW, List.length_drop]; omega
    have hw : wrap64 ((i : Int) + 1) = ((i + 1 : Nat) : Int) := by unfold wrap64; omega
    have ih := cmp_loop W l hW h16 hl k d (i + 1) (by omega)
    rw [show k + (d + 1) + 1 = (k + d + 1) + 1 by omega, laws_FnWideBytes.l2, if_pos (by omega), hlen, hW, hw, rd_nat, rd_nat, rd_nat]
    by_cases h : i < 16
    · have e : (W ++ l.drop 16).getD i 0 = W.getD i 0 := by rw [List.getD_eq_getElem?_getD, List.getD_eq_getElem?_getD, List.getElem?_append_left (by omega)]
      rw [if_pos (by omega), if_pos (by omega), if_pos (by omega), if_pos (by omega), if_pos e, if_neg (by omega)]
      exact ih
    · have e : (W ++ l.drop 16).getD i 0 = l.getD i 0 := by
        rw [List.getD_eq_getElem?_getD, List.getD_eq_getElem?_getD, List.getElem?_append_right (by omega), List.getElem?_drop, hW, show 16 + (i - 16) = i by omega]
      rw [if_neg (by omega), if_pos (by omega), if_pos (by omega), if_pos (by omega), if_pos (by omega), if_pos e]
      exact ih
theorem bytes_law (x y : Nat) (hx : x < 18446744073709551616) (hy : y < 18446744073709551616) (l : List Int) (big : Bool) (k : Nat) :
    laws_FnWideBytes.f (k + 1003 + 1 + 1 + 1 + 11 * 16) (x : Int) (y : Int) l big = some true := by
  unfold laws_FnWideBytes.f
  by_cases h1 : (l.length : Int) > 2147483647
  · rw [if_pos h1]
  rw [if_neg h1]
  by_cases h2 : (l.length : Int) > 1000
  · rw [if_pos h2]
  rw [if_neg h2]
  have hw := whole_law (a := (x : Int)) (b := (y : Int)) ⟨by omega, by omega⟩ ⟨by omega, by omega⟩
  have hN : N128 (x : Int) (y : Int) = x + y * 18446744073709551616 := by unfold N128; omega
  rw [hN] at hw
  have hW := oct16_len big (x : Int) (y : Int)
  have h0 := outer_loop l big (x + y * 18446744073709551616) (oct16 big x y) hW (fun i hi => oct_get big x y i hx hy hi) x y (k + 1003 + 1 + 1 + 1) 16 0 rfl
  have hp0 : part (oct16 big (x : Int) (y : Int)) 0 = List.replicate 16 0 := by unfold part; rw [List.take_zero, List.nil_append]
  rw [hp0, part_end _ hW] at h0
  rw [bnd hw, if_pos (by decide)]
  show laws_FnWideBytes.l0 (k + 1003 + 1 + 1 + 1 + 11 * 16) l big _ (List.replicate 16 0) ((List.replicate 16 (0 : Int)).length : Int) 0 x y = _
  rw [List.length_replicate]
  refine h0.trans ?_
  rw [laws_FnWideBytes.l0, if_neg (by decide)]
  show (if ([] : List Int).length + (oct16 big (x : Int) (y : Int)).length < 140737488355328 then _ else _) = _
  rw [if_pos (by rw [hW]; decide)]
  show (if (([] : List Int) ++ oct16 big (x : Int) (y : Int)).length + l.length < 140737488355328 then _ else _) = _
  rw [if_pos (by rw [List.nil_append, hW]; omega), bnd (read_back big x y hx hy l (by omega)), if_pos rfl]
  rw [show (!((x : Int) == (x : Int)) || !((y : Int) == (y : Int))) = false by simp]
  rw [laws_FnWideBytes.j3, if_neg (by decide)]
  by_cases h3 : l.length < 16
  · have hp : impl_WidePut.f (x : Int) (y : Int) l big = some ([], false) := by unfold impl_WidePut.f wpf; rw [if_pos h3]
    rw [bnd hp, if_pos (by omega)]
    rfl
  · have hp : impl_WidePut.f (x : Int) (y : Int) l big = some (oct16 big x y ++ l.drop 16, true) := by unfold impl_WidePut.f wpf; rw [if_neg h3, if_neg (by omega)]
    have hlen : (oct16 big (x : Int) (y : Int) ++ l.drop 16).length = l.length := by rw [List.length_append, hW, List.length_drop]; omega
    rw [bnd hp, if_neg (by omega), if_pos rfl, hlen, show ((l.length : Int) != (l.length : Int)) = false by simp, laws_FnWideBytes.j4, if_neg (by decide), hlen]
    have hc := cmp_loop (oct16 big x y) l hW (by omega) (by omega) (k + 1002 - l.length) l.length 0 (by omega)
    rw [show k + 1002 - l.length + l.length + 1 = k + 1003 by omega] at hc
    exact hc
/-- The row of an argument as a list. -/
theorem row_C {A : Option Addr} {len cap : Nat} {z : List Int} {w : World} (h : (A = none ∧ len = 0 ∧ cap = 0 ∧ z = []) ∨ ∃ x, A = some x ∧ len ≤ cap ∧ cap ≤ maxLen ∧ z.length = cap ∧ (∀ i, i < z.length → w.cell? (x.add i) = some (.int .u8 (z.getD i 0))) ∧ ∀ n ∈ z, (Lit.int .u8 n).wf = true) :
    ∃ l : List Int, l.length = len ∧ len ≤ cap ∧ Kd.C (Kd.int .u8) w A l.length l := by
  rcases h with ⟨rfl, rfl, rfl, rfl⟩ | ⟨x, rfl, hl, hm, hz, hc, _⟩
  · exact ⟨[], rfl, Nat.le_refl _, rfl, Nat.zero_le _, fun h => absurd h (by simp)⟩
  · have hlen : (z.take len).length = len := by rw [List.length_take]; omega
    refine ⟨z.take len, hlen, hl, rfl, ?_, fun _ => ⟨x, rfl, fun j p hj => ?_⟩⟩
    · rw [hlen]
      show len ≤ 9223372036854775807
      have : maxLen = 9223372036854775807 := rfl
      omega
    · have hj' : j < len := by
        rcases Nat.lt_or_ge j len with h | h
        · exact h
        · rw [List.getElem?_eq_none (by rw [hlen]; exact h)] at hj
          exact absurd hj (by simp)
      rw [List.getElem?_take_of_lt hj'] at hj
      refine ⟨[.int .u8 p], rfl, rfl, fun i u hu => ?_⟩
      match i, hu with
      | 0, hu =>
        obtain rfl : Value.int .u8 p = u := by simpa using hu
        rw [show j * (Kd.int .u8).sz + 0 = j by show j * 1 + 0 = j; omega, hc j (by omega), List.getD_eq_getElem?_getD, hj]
        rfl
theorem bytes_walk (a b : Int) (A : Option Addr) (len cap : Nat) (z : List Int) (big : Bool) (w : World) (ha : 0 ≤ a ∧ a ≤ 18446744073709551615) (hb : 0 ≤ b ∧ b ≤ 18446744073709551615)
    (hR : (A = none ∧ len = 0 ∧ cap = 0 ∧ z = []) ∨ ∃ x, A = some x ∧ len ≤ cap ∧ cap ≤ maxLen ∧ z.length = cap ∧ (∀ i, i < z.length → w.cell? (x.add i) = some (.int .u8 (z.getD i 0))) ∧ ∀ n ∈ z, (Lit.int .u8 n).wf = true)
    (hy : len * 1 ≤ 140737488351232) :
    Calls Try.prog 23 #[.agg #[.int .u64 a, .int .u64 b], .slice A len cap, .bool big] w fun e w' => e = .returned (.bool true) ∧ Below w.heap.size w w' := by
  obtain ⟨x, rfl⟩ := Int.eq_ofNat_of_zero_le ha.1
  obtain ⟨y, rfl⟩ := Int.eq_ofNat_of_zero_le hb.1
  obtain ⟨l, rfl, hc, hC⟩ := row_C hR
  exact laws_FnWideBytes.calls _ _ _ A cap l big true w hC hc (bytes_law x y (by omega) (by omega) l big 0)
end Go.Proofs.Ytiifnofghicnaaa.BAll
