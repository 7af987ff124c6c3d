/- gobits.Div64: the quotient and the rest of a number of 128 bits by one of 64 that is greater than its higher half. -/
import Derived.Test.YtiifnofghicnaaaDoorBase
import Derived.Test.YtiifnofghicnaaaDoorQAllx3
namespace Go.Proofs.YtiifnofghicnaaaDoor.PAll
open Go.RowKit Go.Proofs.YtiifnofghicnaaaDoorW.PrintWords Go.Proofs.YtiifnofghicnaaaDoorW.PrintLast Go.Proofs.YtiifnofghicnaaaDoorW.PrintMore
/-- One digit of a long division, base 2^32 (Knuth's D). -/
theorem kn_mul (q yn1 yn0 r un1 : Nat) : q * (yn1 * 4294967296 + yn0) = q * yn1 * 4294967296 + q * yn0 ∧ (q * yn1 + r) * 4294967296 + un1 = q * yn1 * 4294967296 + (4294967296 * r + un1) := by
  constructor
  · rw [Nat.mul_add, Nat.mul_assoc]
  · rw [Nat.add_mul, Nat.mul_comm r, Nat.add_assoc]
theorem kn_test (q yn1 yn0 r un1 : Nat) : 4294967296 * r + un1 < q * yn0 ↔ (q * yn1 + r) * 4294967296 + un1 < q * (yn1 * 4294967296 + yn0) := by
  obtain ⟨e1, e2⟩ := kn_mul q yn1 yn0 r un1
  rw [e1, e2]
  omega
theorem kn_lt (un32 un1 y : Nat) (h : un32 < y) (h1 : un1 < 4294967296) : (un32 * 4294967296 + un1) / y < 4294967296 := by
  refine Nat.div_lt_of_lt_mul ?_
  have : (un32 + 1) * 4294967296 ≤ y * 4294967296 := Nat.mul_le_mul_right _ h
  omega
theorem kn_first (un32 un1 yn1 yn0 : Nat) (h1 : un1 < 4294967296) (hy : 0 < yn1) : (un32 * 4294967296 + un1) / (yn1 * 4294967296 + yn0) ≤ un32 / yn1 := by
  rw [Nat.le_div_iff_mul_le hy]
  have h := Nat.div_mul_le_self (un32 * 4294967296 + un1) (yn1 * 4294967296 + yn0)
  generalize (un32 * 4294967296 + un1) / (yn1 * 4294967296 + yn0) = Q at *
  rw [Nat.mul_add, ← Nat.mul_assoc] at h
  generalize Q * yn1 = P at *
  generalize Q * yn0 = R at *
  omega
theorem kn_done (q y U : Nat) (hy : 0 < y) (h : q * y ≤ U) (hq : U / y ≤ q) : U / y = q := by
  have : q ≤ U / y := (Nat.le_div_iff_mul_le hy).2 h
  omega
theorem kn_break (p yn1 yn0 r un1 un32 : Nat) (h0 : yn0 < 4294967296) (hu : p * yn1 + r = un32) (hr : 4294967296 ≤ r) (hlt : un32 < yn1 * 4294967296 + yn0) : p < 4294967296 ∧ p * (yn1 * 4294967296 + yn0) ≤ un32 * 4294967296 + un1 := by
  have hp : p < 4294967296 := by
    refine Decidable.byContradiction fun hn => ?_
    have : 4294967296 * yn1 ≤ p * yn1 := Nat.mul_le_mul_right _ (by omega)
    omega
  refine ⟨hp, ?_⟩
  have t := kn_test p yn1 yn0 r un1
  rw [hu] at t
  have m : p * yn0 ≤ 4294967296 * 4294967296 := Nat.mul_le_mul (by omega) (by omega)
  have m2 : 4294967296 * 4294967296 ≤ 4294967296 * r := Nat.mul_le_mul_left _ hr
  omega
/-- One round of the loop: done, or the next guess. -/
theorem kn_round (q r yn1 yn0 un32 un1 : Nat) (h0 : yn0 < 4294967296) (hun1 : un1 < 4294967296) (hlt : un32 < yn1 * 4294967296 + yn0) (hu : q * yn1 + r = un32) (hr : r < 4294967296) (hq : (un32 * 4294967296 + un1) / (yn1 * 4294967296 + yn0) ≤ q) :
    ((q < 4294967296 ∧ ¬ 4294967296 * r + un1 < q * yn0) ∧ (un32 * 4294967296 + un1) / (yn1 * 4294967296 + yn0) = q) ∨
    ((4294967296 ≤ q ∨ 4294967296 * r + un1 < q * yn0) ∧ 1 ≤ q ∧ (q - 1) * yn1 + (r + yn1) = un32 ∧ (un32 * 4294967296 + un1) / (yn1 * 4294967296 + yn0) ≤ q - 1 ∧ (4294967296 ≤ r + yn1 → (un32 * 4294967296 + un1) / (yn1 * 4294967296 + yn0) = q - 1)) := by
  have t := kn_test q yn1 yn0 r un1
  rw [hu] at t
  have hy : 0 < yn1 * 4294967296 + yn0 := by omega
  have hQ := kn_lt un32 un1 _ hlt hun1
  by_cases c : 4294967296 ≤ q ∨ 4294967296 * r + un1 < q * yn0
  · right
    have hq1 : 1 ≤ q := by
      rcases c with c | c
      · omega
      · refine Decidable.byContradiction fun hn => ?_
        have : q = 0 := by omega
        rw [this] at c
        omega
    have e : (q - 1) * yn1 + yn1 = q * yn1 := by
      rw [← Nat.succ_mul]
      congr 1
      omega
    have hQ1 : (un32 * 4294967296 + un1) / (yn1 * 4294967296 + yn0) ≤ q - 1 := by
      rcases c with c | c
      · omega
      · have := (Nat.div_lt_iff_lt_mul hy).2 (t.1 c)
        omega
    refine ⟨c, hq1, by omega, hQ1, fun hb => ?_⟩
    obtain ⟨_, k⟩ := kn_break (q - 1) yn1 yn0 (r + yn1) un1 un32 h0 (by omega) hb hlt
    exact kn_done _ _ _ hy k hQ1
  · left
    refine ⟨⟨by omega, fun h => c (Or.inr h)⟩, kn_done _ _ _ hy ?_ hq⟩
    refine Nat.le_of_not_lt fun h => c (Or.inr (t.2 h))
/-- A number of 64 bits, wrapped around. -/
theorem wu (n : Nat) (h : n < 18446744073709551616) : IntKind.u64.wrap (n : Int) = (n : Int) := by
  rw [IntKind.wrap_u64]
  omega
theorem wu_mod (n : Nat) : IntKind.u64.wrap (n : Int) = ((n % 18446744073709551616 : Nat) : Int) := by
  rw [IntKind.wrap_u64]
  omega
theorem wu_sub (a b : Nat) (h : b ≤ a) (ha : a < 18446744073709551616) : IntKind.u64.wrap ((a : Int) - (b : Int)) = ((a - b : Nat) : Int) := by
  rw [IntKind.wrap_u64]
  omega
theorem wu_mul (a b : Nat) (h : a * b < 18446744073709551616) : IntKind.u64.wrap ((a : Int) * (b : Int)) = ((a * b : Nat) : Int) := by
  rw [← Int.natCast_mul]
  exact wu _ h
theorem wu_add (a b : Nat) (h : a + b < 18446744073709551616) : IntKind.u64.wrap ((a : Int) + (b : Int)) = ((a + b : Nat) : Int) := by
  rw [← Int.natCast_add]
  exact wu _ h
theorem wu_suc (a : Nat) (h : 1 ≤ a) (ha : a < 18446744073709551616) : IntKind.u64.wrap ((a : Int) - 1) = ((a - 1 : Nat) : Int) := by
  rw [IntKind.wrap_u64]
  omega
theorem test_mul (q yn0 r un1 : Nat) (hq : q < 4294967296) (h0 : yn0 < 4294967296) (hr : r < 4294967296) (h1 : un1 < 4294967296) :
    decide ((IntKind.u64.wrap ((q : Int) * (yn0 : Int))) > (IntKind.u64.wrap ((IntKind.u64.wrap (4294967296 * (r : Int))) + (un1 : Int)))) = decide (4294967296 * r + un1 < q * yn0) := by
  have m : q * yn0 ≤ 4294967295 * 4294967295 := Nat.mul_le_mul (by omega) (by omega)
  have e1 : IntKind.u64.wrap (4294967296 * (r : Int)) = ((4294967296 * r : Nat) : Int) := by
    have := wu (4294967296 * r) (by omega)
    rw [← this, Int.natCast_mul]
    rfl
  rw [wu_mul q yn0 (by omega), e1, wu_add _ _ (by omega)]
  generalize q * yn0 = P at *
  rw [decide_eq_decide]
  omega
theorem l0_eq (k : Nat) (x2 x8 x9 x10 x11 x13 x14 x15 x16 : Int) : gobits_Div64.l0 (k + 1) x2 x8 x9 x10 x11 x13 x14 x15 x16 = if x15 ≥ 4294967296 then (gobits_Div64.j3 k x2 x8 x9 x10 x11 x13 x14 x15 x16 true) else (gobits_Div64.j3 k x2 x8 x9 x10 x11 x13 x14 x15 x16 (decide ((IntKind.u64.wrap (x15 * x10)) > (IntKind.u64.wrap ((IntKind.u64.wrap (4294967296 * x16)) + x13))))) := by
  rw [gobits_Div64.l0]
theorem j3_t (k : Nat) (x2 x8 x9 x10 x11 x13 x14 x15 x16 : Int) : gobits_Div64.j3 (k + 1) x2 x8 x9 x10 x11 x13 x14 x15 x16 true = if (IntKind.u64.wrap (x16 + x9)) ≥ 4294967296 then (gobits_Div64.j4 k x2 x8 x9 x10 x11 x13 x14 (IntKind.u64.wrap (x15 - 1))) else (gobits_Div64.l0 k x2 x8 x9 x10 x11 x13 x14 (IntKind.u64.wrap (x15 - 1)) (IntKind.u64.wrap (x16 + x9))) := by
  rw [gobits_Div64.j3, if_pos rfl]
theorem j3_f (k : Nat) (x2 x8 x9 x10 x11 x13 x14 x15 x16 : Int) : gobits_Div64.j3 (k + 1) x2 x8 x9 x10 x11 x13 x14 x15 x16 false = gobits_Div64.j4 k x2 x8 x9 x10 x11 x13 x14 x15 := by
  rw [gobits_Div64.j3, if_neg (by decide)]
theorem l1_eq (k : Nat) (x2 x8 x9 x10 x14 x15 x16 x17 x18 : Int) : gobits_Div64.l1 (k + 1) x2 x8 x9 x10 x14 x15 x16 x17 x18 = if x18 ≥ 4294967296 then (gobits_Div64.j6 k x2 x8 x9 x10 x14 x15 x16 x17 x18 true) else (gobits_Div64.j6 k x2 x8 x9 x10 x14 x15 x16 x17 x18 (decide ((IntKind.u64.wrap (x18 * x10)) > (IntKind.u64.wrap ((IntKind.u64.wrap (4294967296 * x16)) + x14))))) := by
  rw [gobits_Div64.l1]
/-- What the second loop ends with. -/
def fin2 (x2 x8 x14 x15 x17 x18 : Int) : Option (Int × Int) := if 0 ≤ x8 then (some (IntKind.u64.wrap ((IntKind.u64.wrap (x15 * 4294967296)) + x18), shr .u64 (IntKind.u64.wrap ((IntKind.u64.wrap ((IntKind.u64.wrap (x17 * 4294967296)) + x14)) - (IntKind.u64.wrap (x18 * x2)))) x8)) else (none)
theorem j6_t (k : Nat) (x2 x8 x9 x10 x14 x15 x16 x17 x18 : Int) : gobits_Div64.j6 (k + 1) x2 x8 x9 x10 x14 x15 x16 x17 x18 true = if (IntKind.u64.wrap (x16 + x9)) ≥ 4294967296 then fin2 x2 x8 x14 x15 x17 (IntKind.u64.wrap (x18 - 1)) else (gobits_Div64.l1 k x2 x8 x9 x10 x14 x15 (IntKind.u64.wrap (x16 + x9)) x17 (IntKind.u64.wrap (x18 - 1))) := by
  rw [gobits_Div64.j6, if_pos rfl]
  rfl
theorem j6_f (k : Nat) (x2 x8 x9 x10 x14 x15 x16 x17 x18 : Int) : gobits_Div64.j6 (k + 1) x2 x8 x9 x10 x14 x15 x16 x17 x18 false = fin2 x2 x8 x14 x15 x17 x18 := by
  rw [gobits_Div64.j6, if_neg (by decide)]
  rfl
/-- The first loop, one round: done, or the next guess. -/
theorem round0 (k : Nat) (x2 x8 x14 : Int) (q r yn1 yn0 un32 un1 : Nat) (h0 : yn0 < 4294967296) (h2 : yn1 < 4294967296) (hun1 : un1 < 4294967296) (hlt : un32 < yn1 * 4294967296 + yn0) (hu : q * yn1 + r = un32) (hr : r < 4294967296) (hq : (un32 * 4294967296 + un1) / (yn1 * 4294967296 + yn0) ≤ q) (hq2 : q < 18446744073709551616) :
    gobits_Div64.l0 (k + 2) x2 x8 (yn1 : Int) (yn0 : Int) (un32 : Int) (un1 : Int) x14 (q : Int) (r : Int) = gobits_Div64.j4 k x2 x8 (yn1 : Int) (yn0 : Int) (un32 : Int) (un1 : Int) x14 (((un32 * 4294967296 + un1) / (yn1 * 4294967296 + yn0) : Nat) : Int) ∨
    (gobits_Div64.l0 (k + 2) x2 x8 (yn1 : Int) (yn0 : Int) (un32 : Int) (un1 : Int) x14 (q : Int) (r : Int) = gobits_Div64.l0 k x2 x8 (yn1 : Int) (yn0 : Int) (un32 : Int) (un1 : Int) x14 ((q - 1 : Nat) : Int) ((r + yn1 : Nat) : Int) ∧ r + yn1 < 4294967296 ∧ (q - 1) * yn1 + (r + yn1) = un32 ∧ (un32 * 4294967296 + un1) / (yn1 * 4294967296 + yn0) ≤ q - 1) := by
  have rd := kn_round q r yn1 yn0 un32 un1 h0 hun1 hlt hu hr hq
  have tail : 1 ≤ q → (4294967296 ≤ r + yn1 → (un32 * 4294967296 + un1) / (yn1 * 4294967296 + yn0) = q - 1) → gobits_Div64.j3 (k + 1) x2 x8 (yn1 : Int) (yn0 : Int) (un32 : Int) (un1 : Int) x14 (q : Int) (r : Int) true = gobits_Div64.j4 k x2 x8 (yn1 : Int) (yn0 : Int) (un32 : Int) (un1 : Int) x14 (((un32 * 4294967296 + un1) / (yn1 * 4294967296 + yn0) : Nat) : Int) ∨ (gobits_Div64.j3 (k + 1) x2 x8 (yn1 : Int) (yn0 : Int) (un32 : Int) (un1 : Int) x14 (q : Int) (r : Int) true = gobits_Div64.l0 k x2 x8 (yn1 : Int) (yn0 : Int) (un32 : Int) (un1 : Int) x14 ((q - 1 : Nat) : Int) ((r + yn1 : Nat) : Int) ∧ r + yn1 < 4294967296) := by
    intro h1 hb
    rw [j3_t, wu_add r yn1 (by omega), wu_suc q h1 hq2]
    by_cases c : 4294967296 ≤ r + yn1
    · left
      rw [if_pos (by omega), hb c]
    · right
      rw [if_neg (by omega)]
      exact ⟨rfl, by omega⟩
  rw [show k + 2 = (k + 1) + 1 from rfl, l0_eq]
  rcases rd with ⟨⟨c1, c2⟩, e⟩ | ⟨c, h1, e1, e2, hb⟩
  · left
    rw [if_neg (by omega), test_mul q yn0 r un1 c1 h0 hr hun1, decide_eq_false c2, j3_f, e]
  · by_cases c1 : 4294967296 ≤ q
    · rw [if_pos (by omega)]
      rcases tail h1 hb with t | t
      · exact Or.inl t
      · exact Or.inr ⟨t.1, t.2, e1, e2⟩
    · rw [if_neg (by omega), test_mul q yn0 r un1 (by omega) h0 hr hun1, decide_eq_true (by omega)]
      rcases tail h1 hb with t | t
      · exact Or.inl t
      · exact Or.inr ⟨t.1, t.2, e1, e2⟩
theorem round1 (k : Nat) (x2 x8 x15 x17 : Int) (q r yn1 yn0 un32 un1 : Nat) (h0 : yn0 < 4294967296) (h2 : yn1 < 4294967296) (hun1 : un1 < 4294967296) (hlt : un32 < yn1 * 4294967296 + yn0) (hu : q * yn1 + r = un32) (hr : r < 4294967296) (hq : (un32 * 4294967296 + un1) / (yn1 * 4294967296 + yn0) ≤ q) (hq2 : q < 18446744073709551616) :
    gobits_Div64.l1 (k + 2) x2 x8 (yn1 : Int) (yn0 : Int) (un1 : Int) x15 (r : Int) x17 (q : Int) = fin2 x2 x8 (un1 : Int) x15 x17 (((un32 * 4294967296 + un1) / (yn1 * 4294967296 + yn0) : Nat) : Int) ∨
    (gobits_Div64.l1 (k + 2) x2 x8 (yn1 : Int) (yn0 : Int) (un1 : Int) x15 (r : Int) x17 (q : Int) = gobits_Div64.l1 k x2 x8 (yn1 : Int) (yn0 : Int) (un1 : Int) x15 ((r + yn1 : Nat) : Int) x17 ((q - 1 : Nat) : Int) ∧ r + yn1 < 4294967296 ∧ (q - 1) * yn1 + (r + yn1) = un32 ∧ (un32 * 4294967296 + un1) / (yn1 * 4294967296 + yn0) ≤ q - 1) := by
  have rd := kn_round q r yn1 yn0 un32 un1 h0 hun1 hlt hu hr hq
  have tail : 1 ≤ q → (4294967296 ≤ r + yn1 → (un32 * 4294967296 + un1) / (yn1 * 4294967296 + yn0) = q - 1) → gobits_Div64.j6 (k + 1) x2 x8 (yn1 : Int) (yn0 : Int) (un1 : Int) x15 (r : Int) x17 (q : Int) true = fin2 x2 x8 (un1 : Int) x15 x17 (((un32 * 4294967296 + un1) / (yn1 * 4294967296 + yn0) : Nat) : Int) ∨ (gobits_Div64.j6 (k + 1) x2 x8 (yn1 : Int) (yn0 : Int) (un1 : Int) x15 (r : Int) x17 (q : Int) true = gobits_Div64.l1 k x2 x8 (yn1 : Int) (yn0 : Int) (un1 : Int) x15 ((r + yn1 : Nat) : Int) x17 ((q - 1 : Nat) : Int) ∧ r + yn1 < 4294967296) := by
    intro h1 hb
    rw [j6_t, wu_add r yn1 (by omega), wu_suc q h1 hq2]
    by_cases c : 4294967296 ≤ r + yn1
    · left
      rw [if_pos (by omega), hb c]
    · right
      rw [if_neg (by omega)]
      exact ⟨rfl, by omega⟩
  rw [show k + 2 = (k + 1) + 1 from rfl, l1_eq]
  rcases rd with ⟨⟨c1, c2⟩, e⟩ | ⟨c, h1, e1, e2, hb⟩
  · left
    rw [if_neg (by omega), test_mul q yn0 r un1 c1 h0 hr hun1, decide_eq_false c2, j6_f, e]
  · by_cases c1 : 4294967296 ≤ q
    · rw [if_pos (by omega)]
      rcases tail h1 hb with t | t
      · exact Or.inl t
      · exact Or.inr ⟨t.1, t.2, e1, e2⟩
    · rw [if_neg (by omega), test_mul q yn0 r un1 (by omega) h0 hr hun1, decide_eq_true (by omega)]
      rcases tail h1 hb with t | t
      · exact Or.inl t
      · exact Or.inr ⟨t.1, t.2, e1, e2⟩
/-- The loops end with the digit. -/
theorem loop0 (k : Nat) (x2 x8 x14 : Int) (yn1 yn0 un32 un1 : Nat) (h0 : yn0 < 4294967296) (h1 : 2147483648 ≤ yn1) (h2 : yn1 < 4294967296) (hun1 : un1 < 4294967296) (hlt : un32 < yn1 * 4294967296 + yn0) :
    ∃ j, k ≤ j ∧ gobits_Div64.l0 (k + 4) x2 x8 (yn1 : Int) (yn0 : Int) (un32 : Int) (un1 : Int) x14 ((un32 / yn1 : Nat) : Int) ((un32 % yn1 : Nat) : Int) = gobits_Div64.j4 j x2 x8 (yn1 : Int) (yn0 : Int) (un32 : Int) (un1 : Int) x14 (((un32 * 4294967296 + un1) / (yn1 * 4294967296 + yn0) : Nat) : Int) := by
  have hu : un32 / yn1 * yn1 + un32 % yn1 = un32 := by rw [Nat.mul_comm]; exact Nat.div_add_mod un32 yn1
  have hm : un32 % yn1 < yn1 := Nat.mod_lt _ (by omega)
  have hq := kn_first un32 un1 yn1 yn0 hun1 (by omega)
  have hd : un32 / yn1 ≤ un32 := Nat.div_le_self _ _
  generalize un32 / yn1 = q at *
  generalize un32 % yn1 = r at *
  rcases round0 (k + 2) x2 x8 x14 q r yn1 yn0 un32 un1 h0 h2 hun1 hlt hu (by omega) hq (by omega) with t | ⟨t, b, hu2, hq3⟩
  · exact ⟨k + 2, by omega, t⟩
  · rcases round0 k x2 x8 x14 (q - 1) (r + yn1) yn1 yn0 un32 un1 h0 h2 hun1 hlt hu2 b hq3 (by omega) with t2 | ⟨_, b2, _, _⟩
    · exact ⟨k, Nat.le_refl _, t.trans t2⟩
    · omega
theorem loop1 (k : Nat) (x2 x8 x15 x17 : Int) (yn1 yn0 un32 un1 : Nat) (h0 : yn0 < 4294967296) (h1 : 2147483648 ≤ yn1) (h2 : yn1 < 4294967296) (hun1 : un1 < 4294967296) (hlt : un32 < yn1 * 4294967296 + yn0) :
    gobits_Div64.l1 (k + 4) x2 x8 (yn1 : Int) (yn0 : Int) (un1 : Int) x15 ((un32 % yn1 : Nat) : Int) x17 ((un32 / yn1 : Nat) : Int) = fin2 x2 x8 (un1 : Int) x15 x17 (((un32 * 4294967296 + un1) / (yn1 * 4294967296 + yn0) : Nat) : Int) := by
  have hu : un32 / yn1 * yn1 + un32 % yn1 = un32 := by rw [Nat.mul_comm]; exact Nat.div_add_mod un32 yn1
  have hm : un32 % yn1 < yn1 := Nat.mod_lt _ (by omega)
  have hq := kn_first un32 un1 yn1 yn0 hun1 (by omega)
  have hd : un32 / yn1 ≤ un32 := Nat.div_le_self _ _
  generalize un32 / yn1 = q at *
  generalize un32 % yn1 = r at *
  rcases round1 (k + 2) x2 x8 x15 x17 q r yn1 yn0 un32 un1 h0 h2 hun1 hlt hu (by omega) hq (by omega) with t | ⟨t, b, hu2, hq3⟩
  · exact t
  · rcases round1 k x2 x8 x15 x17 (q - 1) (r + yn1) yn1 yn0 un32 un1 h0 h2 hun1 hlt hu2 b hq3 (by omega) with t2 | ⟨_, b2, _, _⟩
    · exact t.trans t2
    · omega
end Go.Proofs.YtiifnofghicnaaaDoor.PAll
