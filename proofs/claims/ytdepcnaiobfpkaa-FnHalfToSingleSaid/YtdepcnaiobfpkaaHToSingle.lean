/- FnHalfToSingle: the law's function answers true. -/
import Derived.Test.YtdepcnaiobfpkaaHBase
import Derived.Test.YtdepcnaiobfpkaaPAllx2
namespace Go.Proofs.Ytdepcnaiobfpkaa.PAll
open Go.RowKit Go.Proofs.YtdepcnaiobfpkaaW.PrintWords Go.Proofs.YtdepcnaiobfpkaaW.PrintLast Go.Proofs.YtdepcnaiobfpkaaW.PrintMore Go.Proofs.Ytdepcnaiobfpkaa.HN
theorem odd_part : ∀ (b m : Nat), m ≤ b → m ≠ 0 → ∃ i o, m = o * 2 ^ i ∧ o % 2 = 1 ∧ i ≤ m := by
  intro b
  induction b with
  | zero =>
    intro m h1 h2
    omega
  | succ b ih =>
    intro m h1 h2
    by_cases h : m % 2 = 1
    · exact ⟨0, m, by simp, h, Nat.zero_le _⟩
    · obtain ⟨i, o, e1, e2, e3⟩ := ih (m / 2) (by omega) (by omega)
      refine ⟨i + 1, o, ?_, e2, by omega⟩
      rw [Nat.pow_succ, ← Nat.mul_assoc, ← e1]
      omega
theorem same_l1 (k : Nat) (x0 x1 x2 x3 : Int) : spec_HalfSame.l1 (k + 1) x0 x1 x2 x3 = if x2 = 0 then (if x0 = x2 then (if x0 = 0 then (some true) else (some (x1 == x3))) else (some false)) else (if (Int.tmod x2 2) = 0 then (spec_HalfSame.l1 k x0 x1 (wrap64 (Int.tdiv x2 2)) (wrap64 (x3 + 1))) else (if x0 = x2 then (if x0 = 0 then (some true) else (some (x1 == x3))) else (some false))) := by
  rw [spec_HalfSame.l1]
theorem same_l0 (k : Nat) (x0 x1 x2 x3 : Int) : spec_HalfSame.l0 (k + 1) x0 x1 x2 x3 = if x0 = 0 then (spec_HalfSame.j1 k x0 x1 x2 x3) else (if (Int.tmod x0 2) = 0 then (spec_HalfSame.l0 k (wrap64 (Int.tdiv x0 2)) (wrap64 (x1 + 1)) x2 x3) else (spec_HalfSame.j1 k x0 x1 x2 x3)) := by
  rw [spec_HalfSame.l0]
theorem same_j1 (k : Nat) (x0 x1 x2 x3 : Int) : spec_HalfSame.j1 (k + 1) x0 x1 x2 x3 = spec_HalfSame.l1 k x0 x1 x2 x3 := by
  rw [spec_HalfSame.j1]
theorem tmod2 (m : Nat) : Int.tmod (m : Int) 2 = ((m % 2 : Nat) : Int) := by
  rw [show (2 : Int) = ((2 : Nat) : Int) from rfl, ← Int.ofNat_tmod]
theorem tdiv2 (m : Nat) (hm : m < 4294967296) : wrap64 (Int.tdiv (m : Int) 2) = ((m / 2 : Nat) : Int) := by
  rw [show (2 : Int) = ((2 : Nat) : Int) from rfl, ← Int.ofNat_tdiv, w64_small _ (by omega)]
theorem strip1 (x0 x1 : Int) (o : Nat) (ho : o % 2 = 1) : ∀ (i k : Nat) (f : Int), o * 2 ^ i < 4294967296 → -1000 < f → f + i < 1000 →
    spec_HalfSame.l1 (k + i + 1) x0 x1 ((o * 2 ^ i : Nat) : Int) f = spec_HalfSame.l1 (k + 1) x0 x1 (o : Int) (f + i) := by
  intro i
  induction i with
  | zero =>
    intro k f h1 h2 h3
    simp
  | succ i ih =>
    intro k f h1 h2 h3
    have e : o * 2 ^ (i + 1) = 2 * (o * 2 ^ i) := by rw [Nat.pow_succ, ← Nat.mul_assoc, Nat.mul_comm]
    have hp : 0 < o * 2 ^ i := Nat.mul_pos (by omega) (Nat.pow_pos (by decide))
    have ih2 := ih k (f + 1) (by omega) (by omega) (by omega)
    rw [e] at h1 ⊢
    rw [show k + (i + 1) + 1 = (k + i + 1) + 1 by omega, same_l1, if_neg (by omega), tmod2, if_pos (by omega), tdiv2 _ h1, show 2 * (o * 2 ^ i) / 2 = o * 2 ^ i by omega, w64_small (f + 1) (by omega), ih2]
    congr 1
    omega
theorem strip0 (x2 x3 : Int) (o : Nat) (ho : o % 2 = 1) : ∀ (i k : Nat) (f : Int), o * 2 ^ i < 4294967296 → -1000 < f → f + i < 1000 →
    spec_HalfSame.l0 (k + i + 1) ((o * 2 ^ i : Nat) : Int) f x2 x3 = spec_HalfSame.l0 (k + 1) (o : Int) (f + i) x2 x3 := by
  intro i
  induction i with
  | zero =>
    intro k f h1 h2 h3
    simp
  | succ i ih =>
    intro k f h1 h2 h3
    have e : o * 2 ^ (i + 1) = 2 * (o * 2 ^ i) := by rw [Nat.pow_succ, ← Nat.mul_assoc, Nat.mul_comm]
    have hp : 0 < o * 2 ^ i := Nat.mul_pos (by omega) (Nat.pow_pos (by decide))
    have ih2 := ih k (f + 1) (by omega) (by omega) (by omega)
    rw [e] at h1 ⊢
    rw [show k + (i + 1) + 1 = (k + i + 1) + 1 by omega, same_l0, if_neg (by omega), tmod2, if_pos (by omega), tdiv2 _ h1, show 2 * (o * 2 ^ i) / 2 = o * 2 ^ i by omega, w64_small (f + 1) (by omega), ih2]
    congr 1
    omega
theorem pow_le24 {o i : Nat} (ho : o % 2 = 1) (h : o * 2 ^ i < 16777216) : i < 24 := by
  refine Decidable.byContradiction fun hn => ?_
  have h1 : 2 ^ 24 ≤ 2 ^ i := Nat.pow_le_pow_right (by decide) (by omega)
  have h2 : 1 * 2 ^ i ≤ o * 2 ^ i := Nat.mul_le_mul_right _ (by omega)
  omega
/-- m 2^e and n 2^f are the same if n is m times a power of two that e - f tells. -/
theorem same_law (m a n : Nat) (e f : Int) (hn : n = m * 2 ^ a) (hf : f = e - a) (hm : n < 16777216) (he : -200 < e ∧ e < 200) (ha : a < 100) : spec_HalfSame.f 100 (m : Int) e (n : Int) f = some true := by
  unfold spec_HalfSame.f
  by_cases h0 : m = 0
  · subst h0
    rw [hn, Nat.zero_mul, show (((0 : Nat) : Int)) = 0 from rfl, same_l0 99, if_pos rfl, same_j1 98, same_l1 97, if_pos rfl, if_pos rfl, if_pos rfl]
  · obtain ⟨i, o, e1, e2, _⟩ := odd_part m m (Nat.le_refl _) h0
    have e3 : n = o * 2 ^ (i + a) := by rw [hn, e1, Nat.mul_assoc, ← Nat.pow_add]
    have h1 : i + a < 24 := pow_le24 e2 (by omega)
    have h2 : m ≤ n := by
      rw [hn]
      exact Nat.le_mul_of_pos_right _ (Nat.pow_pos (by decide))
    have s0 := strip0 (n : Int) f o e2 i (99 - i) e (by omega) (by omega) (by omega)
    rw [show 99 - i + i + 1 = 100 by omega, ← e1] at s0
    rw [s0, same_l0, if_neg (by omega), tmod2, if_neg (by omega), show 99 - i = (98 - i) + 1 by omega, same_j1]
    have s1 := strip1 (o : Int) (e + i) o e2 (i + a) (97 - i - (i + a)) f (by omega) (by omega) (by omega)
    rw [show 97 - i - (i + a) + (i + a) + 1 = 98 - i by omega, ← e3] at s1
    rw [s1, same_l1, if_neg (by omega), tmod2, if_neg (by omega), if_pos rfl, if_neg (by omega)]
    congr 1
    rw [beq_iff_eq]
    omega
/-- What a half's float32 is. -/
theorem t32_parts (h : Nat) (hh : h < 65536) :
    t32 h / 2147483648 = h / 32768 ∧
    (h / 1024 % 32 = 31 → t32 h / 8388608 % 256 = 255 ∧ (h % 1024 = 0 → t32 h % 8388608 = 0) ∧ (h % 1024 ≠ 0 → t32 h % 8388608 ≠ 0 ∧ t32 h % 4194304 = h % 512 * 8192)) ∧
    (h / 1024 % 32 = 0 → h % 1024 = 0 → t32 h / 8388608 % 256 = 0 ∧ t32 h % 8388608 = 0) ∧
    (h / 1024 % 32 = 0 → h % 1024 ≠ 0 → ∃ l, l < 10 ∧ t32 h / 8388608 % 256 = 103 + l ∧ 8388608 + t32 h % 8388608 = h % 1024 * 2 ^ (23 - l)) ∧
    (h / 1024 % 32 ≠ 31 → h / 1024 % 32 ≠ 0 → t32 h / 8388608 % 256 = h / 1024 % 32 + 112 ∧ 8388608 + t32 h % 8388608 = (1024 + h % 1024) * 2 ^ 13) := by
  have b := (t32_lt h hh).2
  have hx : h / 1024 % 32 = h % 32768 / 1024 := by omega
  have hc : h % 1024 = h % 32768 % 1024 := by omega
  have hc5 : h % 512 = h % 32768 % 512 := by omega
  have hy : h % 32768 < 32768 := by omega
  unfold t32
  rw [hx, hc, hc5]
  generalize h / 32768 = s
  generalize h % 32768 = y at *
  clear hx hc hc5 hh h
  refine ⟨by omega, ?_, ?_, ?_, ?_⟩
  · intro h1
    have e : tf y = 2139095040 + (if y % 1024 = 0 then 0 else 4194304 ||| y % 1024 * 8192) := by unfold tf; rw [if_pos h1]
    by_cases h2 : y % 1024 = 0
    · rw [if_pos h2] at e
      rw [e]
      refine ⟨by omega, fun _ => by omega, fun h3 => absurd h2 h3⟩
    · rw [if_neg h2] at e
      have o1 : 4194304 ||| y % 1024 * 8192 < 8388608 := Nat.or_lt_two_pow (n := 23) (by decide) (by omega)
      have o2 : (4194304 ||| y % 1024 * 8192) % 4194304 = y % 512 * 8192 := by
        rw [show (4194304 : Nat) = 2 ^ 22 from rfl, Nat.or_mod_two_pow, show (2 : Nat) ^ 22 % 2 ^ 22 = 0 from rfl, Nat.zero_or, show (2 : Nat) ^ 22 = 4194304 from rfl]
        omega
      have o3 : 4194304 ≤ 4194304 ||| y % 1024 * 8192 := Nat.left_le_or
      rw [e]
      generalize 4194304 ||| y % 1024 * 8192 = z at *
      refine ⟨by omega, fun h3 => absurd h3 h2, fun _ => by omega⟩
  · intro h1 h2
    have e : tf y = 0 := by unfold tf; rw [if_neg (by omega), if_pos h1, if_pos h2]
    rw [e]
    omega
  · intro h1 h2
    have e : tf y = (103 + Nat.log2 y) * 8388608 + (y * 2 ^ (23 - Nat.log2 y) - 8388608) := by unfold tf; rw [if_neg (by omega), if_pos h1, if_neg h2]
    rw [e]
    have hy0 : y ≠ 0 := by omega
    have l1 := Nat.log2_self_le hy0
    have l2 := Nat.lt_log2_self (n := y)
    have l3 : y.log2 < 10 := (Nat.log2_lt hy0).mpr (by omega)
    refine ⟨y.log2, l3, ?_⟩
    rw [show y % 1024 = y by omega]
    clear e b
    generalize y.log2 = l at *
    have p2 : 2 ^ (l + 1) * 2 ^ (23 - l) = 16777216 := by rw [← Nat.pow_add, show l + 1 + (23 - l) = 24 by omega]
    have p3 : 2 ^ l * 2 ^ (23 - l) = 8388608 := by rw [← Nat.pow_add, show l + (23 - l) = 23 by omega]
    have p4 : y * 2 ^ (23 - l) < 16777216 := by
      rw [← p2]
      exact Nat.mul_lt_mul_of_pos_right l2 (Nat.pow_pos (by decide))
    have p5 : 8388608 ≤ y * 2 ^ (23 - l) := by
      rw [← p3]
      exact Nat.mul_le_mul_right _ l1
    generalize y * 2 ^ (23 - l) = q at *
    omega
  · intro h1 h2
    have e : tf y = (y / 1024 + 112) * 8388608 + y % 1024 * 8192 := by unfold tf; rw [if_neg h1, if_neg h2]
    rw [e]
    omega
theorem single_j0 (k : Nat) (x0 x3 : Int) : laws_FnHalfToSingle.j0 (k + 1) x0 x3 false = ((spec_HalfKind.f x0).bind fun t130 => (if t130 = 0 then ((spec_HalfValue.f x0).bind fun bt131 => ((spec_SingleValue.f x3).bind fun bt133 => ((spec_HalfSame.f k bt131.1 bt131.2 bt133.1 bt133.2).bind fun t135 => (some t135)))) else (if t130 = 1 then (some true) else (some ((Go.bits .and .u32 x3 4194303) == ((((Go.bits .and .u16 x0 511) % 4294967296) * 8192) % 4294967296)))))) := by
  rw [laws_FnHalfToSingle.j0, if_neg (by decide)]
theorem single_last (h : Nat) (hh : h < 65536) : laws_FnHalfToSingle.j0 (100 + 1) (h : Int) ((t32 h : Nat) : Int) false = some true := by
  have t1 := (t32_lt h hh).1
  obtain ⟨q1, q2, q3, q4, q5⟩ := t32_parts h hh
  rw [single_j0, bnd (kindH h hh), bnd (valueH h hh), bnd (valueS _ t1), l32_4194303 _ t1, l16_511 h hh]
  by_cases c1 : h / 1024 % 32 = 31
  · rw [if_pos c1]
    obtain ⟨r1, r2, r3⟩ := q2 c1
    by_cases c2 : h % 1024 = 0
    · rw [if_pos c2, if_neg (by decide), if_pos rfl]
    · rw [if_neg c2, if_neg (by decide), if_neg (by decide), (r3 c2).2]
      congr 1
      rw [beq_iff_eq]
      omega
  · rw [if_neg c1, if_pos rfl]
    by_cases c3 : h / 1024 % 32 = 0
    · rw [if_pos c3]
      by_cases c2 : h % 1024 = 0
      · obtain ⟨r1, r2⟩ := q3 c3 c2
        rw [if_pos r1, r2, c2]
        rfl
      · obtain ⟨l, l1, l2, l3⟩ := q4 c3 c2
        rw [if_neg (by omega), l2, l3]
        simp only []
        rw [bnd (same_law (h % 1024) (23 - l) _ (-24) _ rfl (by omega) (by omega) (by omega) (by omega))]
    · obtain ⟨r1, r2⟩ := q5 c1 c3
      rw [if_neg c3, if_neg (by omega), r1, r2]
      simp only []
      rw [bnd (same_law (1024 + h % 1024) 13 _ _ _ rfl (by omega) (by omega) (by omega) (by omega))]
theorem single_pure : laws_FnHalfToSingle.Pure := by
  intro a w
  simp only [Lit.wf, Bool.and_eq_true, decide_eq_true_eq] at w
  obtain ⟨w1, w2⟩ := w
  have w2 : a < 65536 := by
    have : IntKind.u16.max = 65535 := by decide
    omega
  have w1 : 0 ≤ a := by
    have : IntKind.u16.min = 0 := by decide
    omega
  obtain ⟨h, rfl⟩ := Int.eq_ofNat_of_zero_le w1
  have hh : h < 65536 := by omega
  have t1 := (t32_lt h hh).1
  obtain ⟨q1, q2, q3, q4, q5⟩ := t32_parts h hh
  refine ⟨100 + 1, ?_⟩
  unfold laws_FnHalfToSingle.f
  rw [bnd (toH h hh 89), if_pos (by omega), bnd (kindS _ t1), bnd (kindH h hh)]
  have e : (if t32 h / 8388608 % 256 = 255 then if t32 h % 8388608 = 0 then 1 else 2 else 0 : Int) = (if h / 1024 % 32 = 31 then if h % 1024 = 0 then 1 else 2 else 0) := by
    by_cases c1 : h / 1024 % 32 = 31
    · obtain ⟨r1, r2, r3⟩ := q2 c1
      rw [if_pos c1, if_pos r1]
      by_cases c2 : h % 1024 = 0
      · rw [if_pos c2, if_pos (r2 c2)]
      · rw [if_neg c2, if_neg (r3 c2).1]
    · rw [if_neg c1, if_neg]
      by_cases c3 : h / 1024 % 32 = 0
      · by_cases c2 : h % 1024 = 0
        · have := (q3 c3 c2).1
          omega
        · obtain ⟨l, l1, l2, l3⟩ := q4 c3 c2
          omega
      · have := (q5 c1 c3).1
        omega
  rw [e, bne_self_eq_false]
  exact single_last h hh
theorem single_walk (a : Int) (h : 0 ≤ a ∧ a ≤ 65535) (w : World) :
    Calls Try.prog 5 #[.int .u16 a] w fun e w' => e = .returned (.bool true) ∧ Below w.heap.size w w' :=
  laws_FnHalfToSingle.walk single_pure a w (by simp only [Lit.wf, Bool.and_eq_true, decide_eq_true_eq]; exact h)
end Go.Proofs.Ytdepcnaiobfpkaa.PAll
