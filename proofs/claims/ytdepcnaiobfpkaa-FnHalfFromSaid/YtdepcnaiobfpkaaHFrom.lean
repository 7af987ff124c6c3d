/- FnHalfFrom: the law's function answers true. -/
import Derived.Test.YtdepcnaiobfpkaaHBase
import Derived.Test.YtdepcnaiobfpkaaPAllx3
namespace Go.Proofs.Ytdepcnaiobfpkaa.PAll
open Go.RowKit Go.Proofs.YtdepcnaiobfpkaaW.PrintWords Go.Proofs.YtdepcnaiobfpkaaW.PrintLast Go.Proofs.YtdepcnaiobfpkaaW.PrintMore Go.Proofs.Ytdepcnaiobfpkaa.HN
theorem round_up (x0 x1 : Int) (k : Nat) (x5 x6 : Int) (h : x6 > 1) : spec_HalfRound.l0 (k + 1) x0 x1 x5 x6 = spec_HalfRound.l0 k x0 x1 (wrap64 (x5 + 1)) (wrap64 (Int.tdiv x6 2)) := by
  rw [spec_HalfRound.l0, if_pos h]
theorem round_top (x0 x1 : Int) : ∀ (l k : Nat) (x5 : Int) (m : Nat), -1000 < x5 → x5 + l < 1000 → 2 ^ l ≤ m → m < 2 ^ (l + 1) → m < 16777216 →
    spec_HalfRound.l0 (k + l + 1) x0 x1 x5 (m : Int) = spec_HalfRound.l0 (k + 1) x0 x1 (x5 + l) 1 := by
  intro l
  induction l with
  | zero =>
    intro k x5 m h1 h2 h3 h4 h5
    have : m = 1 := by simp at h3 h4; omega
    subst this
    simp
  | succ l ih =>
    intro k x5 m h1 h2 h3 h4 h5
    rw [Nat.pow_succ] at h3
    rw [Nat.pow_succ] at h4
    have h0 : 0 < 2 ^ l := Nat.pow_pos (by decide)
    rw [show k + (l + 1) + 1 = (k + l + 1) + 1 by omega, round_up _ _ _ _ _ (by omega)]
    have e1 : wrap64 (x5 + 1) = x5 + 1 := w64_small _ (by omega)
    have e2 : wrap64 (Int.tdiv (m : Int) 2) = ((m / 2 : Nat) : Int) := by
      rw [Int.tdiv_eq_ediv_of_nonneg (by omega)]
      rw [w64_small _ (by omega)]
      omega
    rw [e1, e2, ih k (x5 + 1) (m / 2) (by omega) (by omega) (by omega) (by omega) (by omega)]
    congr 1
    omega
theorem wrap16_small (n : Int) (h : 0 ≤ n ∧ n < 65536) : IntKind.u16.wrap n = n := by
  rw [IntKind.wrap_u16]
  omega
theorem round_open (k : Nat) (x0 x1 x5 u d P : Int) (h15 : ¬ x5 > 15) (e1 : mx (wrap64 (x5 - 10)) (-24) = u) (e2 : wrap64 (u - x1) = d) (h30 : ¬ d > 30) (hd : 0 ≤ d) (hu : u > x1) (e3 : shl .i64 1 d = P) (hP : P ≠ 0) :
    spec_HalfRound.l0 (k + 1) x0 x1 x5 1 = (if (wrap64 (2 * (Int.tmod x0 P))) > P then (some (IntKind.u16.wrap (mn (wrap64 ((wrap64 ((wrap64 (u + 24)) * 1024)) + (wrap64 ((wrap64 (Int.tdiv x0 P)) + 1)))) 31744))) else (if (wrap64 (2 * (Int.tmod x0 P))) = P then (if (Int.tmod (wrap64 (Int.tdiv x0 P)) 2) = 1 then (some (IntKind.u16.wrap (mn (wrap64 ((wrap64 ((wrap64 (u + 24)) * 1024)) + (wrap64 ((wrap64 (Int.tdiv x0 P)) + 1)))) 31744))) else (some (IntKind.u16.wrap (mn (wrap64 ((wrap64 ((wrap64 (u + 24)) * 1024)) + (wrap64 (Int.tdiv x0 P)))) 31744)))) else (some (IntKind.u16.wrap (mn (wrap64 ((wrap64 ((wrap64 (u + 24)) * 1024)) + (wrap64 (Int.tdiv x0 P)))) 31744))))) := by
  rw [spec_HalfRound.l0]
  simp only [e1, e2, e3]
  rw [if_neg (show ¬ (1 : Int) > 1 by decide), if_neg h15, if_neg h30, if_pos hu, if_pos hd, if_neg hP]
theorem w_two (r : Nat) (h : r < 1099511627776) : wrap64 (2 * (r : Int)) = ((2 * r : Nat) : Int) := by
  rw [w64_small _ (by omega)]
  omega
theorem w_nat (q : Nat) (h : q < 1099511627776) : wrap64 (q : Int) = (q : Int) := by
  rw [w64_small _ (by omega)]
theorem w_suc (q : Nat) (h : q < 1099511627776) : wrap64 ((q : Int) + 1) = ((q + 1 : Nat) : Int) := by
  rw [w64_small _ (by omega)]
  omega
theorem w_fin (U q : Nat) (hq : U * 1024 + q ≤ 31744) : IntKind.u16.wrap (mn (wrap64 (((U * 1024 : Nat) : Int) + (q : Int))) 31744) = ((U * 1024 + q : Nat) : Int) := by
  rw [w64_small _ (by omega)]
  unfold mn
  rw [if_neg (by omega), wrap16_small _ (by omega)]
  omega
theorem round_last (k m U d : Nat) (x1 T u : Int) (hT : T ≤ 15) (hT2 : -1000 < T) (hu : mx (T - 10) (-24) = u) (hU : u + 24 = U) (hU2 : U ≤ 100) (hd : u - x1 = d) (hd1 : 13 ≤ d) (hd2 : d ≤ 30) (hm : m < 16777216) (hr : U * 1024 + rnd m d ≤ 31744) :
    spec_HalfRound.l0 (k + 1) (m : Int) x1 T 1 = some ((U * 1024 + rnd m d : Nat) : Int) := by
  have hp : 2 ^ d ≤ 1073741824 := Nat.pow_le_pow_right (n := 2) (by decide) hd2
  have h0 : 0 < 2 ^ d := Nat.pow_pos (by decide)
  have hs : shl .i64 1 (d : Int) = ((2 ^ d : Nat) : Int) := by
    unfold shl
    rw [Int.toNat_natCast, show min d IntKind.i64.bits = d from Nat.min_eq_left (by show d ≤ 64; omega), i64_w]
    have e : (1 : Int) * 2 ^ d = ((2 ^ d : Nat) : Int) := by simp
    rw [e, w64_small _ (by
      generalize (2 : Nat) ^ d = P at *
      omega)]
  unfold rnd at hr ⊢
  generalize (2 : Nat) ^ d = P at *
  have e1 : mx (wrap64 (T - 10)) (-24) = u := by rw [w64_small _ (by omega), hu]
  have e2 : wrap64 (u - x1) = (d : Int) := by rw [hd, w64_small _ (by omega)]
  have e3 : wrap64 (u + 24) = (U : Int) := by rw [hU, w64_small _ (by omega)]
  have e4 : wrap64 ((U : Int) * 1024) = ((U * 1024 : Nat) : Int) := by rw [w64_small _ (by omega)]; omega
  rw [round_open k m x1 T u d P (by omega) e1 e2 (by omega) (by omega) (by omega) hs (by omega), e3, e4, ← Int.ofNat_tmod, ← Int.ofNat_tdiv]
  clear hs e1 e2 e3 e4 hu
  have hq : m / P ≤ m := Nat.div_le_self _ _
  have hml : m % P < P := Nat.mod_lt _ h0
  generalize m % P = r at *
  generalize m / P = q at *
  have hrb : r < 1099511627776 := by omega
  have hqb : q < 1099511627776 := by omega
  have f1 := w_two r hrb
  have f2 := w_nat q hqb
  have f3 := w_suc q hqb
  have f4 := w_fin U
  have f5 : Int.tmod (q : Int) 2 = ((q % 2 : Nat) : Int) := by
    rw [show (2 : Int) = ((2 : Nat) : Int) from rfl, ← Int.ofNat_tmod]
  rw [f1, f2, f3, f5]
  clear f1 f2 f3 f5
  by_cases c1 : P < 2 * r
  · rw [if_pos (Or.inl c1)] at hr ⊢
    rw [if_pos (by omega), f4 (q + 1) (by omega)]
  · rw [if_neg (show ¬ ((2 * r : Nat) : Int) > (P : Int) by omega)]
    by_cases c2 : 2 * r = P
    · rw [if_pos (show ((2 * r : Nat) : Int) = (P : Int) by omega)]
      by_cases c3 : q % 2 = 1
      · rw [if_pos (Or.inr ⟨c2, c3⟩)] at hr ⊢
        rw [if_pos (by omega), f4 (q + 1) (by omega)]
      · rw [if_neg (show ¬ (P < 2 * r ∨ (2 * r = P ∧ q % 2 = 1)) by omega)] at hr ⊢
        rw [if_neg (by omega), f4 q (by omega)]
        rfl
    · rw [if_neg (show ¬ (P < 2 * r ∨ (2 * r = P ∧ q % 2 = 1)) by omega)] at hr ⊢
      rw [if_neg (by omega), f4 q (by omega)]
      rfl
theorem round_far (k : Nat) (m x1 T : Int) (hT : T ≤ 15) (hT2 : -1000 < T) (hx : -1000 < x1 ∧ x1 < 1000) (hd : 30 < mx (T - 10) (-24) - x1) : spec_HalfRound.l0 (k + 1) m x1 T 1 = some 0 := by
  have e1 : wrap64 (T - 10) = T - 10 := w64_small _ (by omega)
  have e2 : wrap64 (mx (T - 10) (-24) - x1) = mx (T - 10) (-24) - x1 := by
    rw [w64_small]
    unfold mx
    split <;> omega
  rw [spec_HalfRound.l0, if_neg (by omega), if_neg (by omega), e1, e2, if_pos (by omega)]
theorem round_law (n : Nat) (hk : n / 8388608 % 256 ≠ 255) (p : Int × Int) (hp : p = if n / 8388608 % 256 = 0 then (((n % 8388608 : Nat) : Int), -149) else (((8388608 + n % 8388608 : Nat) : Int), ((n / 8388608 % 256 : Nat) : Int) - 150)) :
    spec_HalfRound.f 30 p.1 p.2 = some ((g (n % 2147483648) : Nat) : Int) := by
  subst hp
  have hx : n / 8388608 % 256 = n % 2147483648 / 8388608 := by omega
  have hc : n % 8388608 = n % 2147483648 % 8388608 := by omega
  rw [hx] at hk
  rw [hx, hc]
  have hy : n % 2147483648 < 2147483648 := by omega
  clear hx hc
  generalize n % 2147483648 = y at *
  clear n
  unfold spec_HalfRound.f
  by_cases h0 : y / 8388608 = 0
  · rw [if_pos h0, g_zero (by omega)]
    simp only []
    by_cases h1 : y % 8388608 = 0
    · rw [h1, if_pos (by decide)]
      rfl
    · rw [if_neg (by omega)]
      have l1 := Nat.log2_self_le h1
      have l2 := Nat.lt_log2_self (n := y % 8388608)
      have l3 : (y % 8388608).log2 < 23 := (Nat.log2_lt h1).mpr (by omega)
      generalize hl : (y % 8388608).log2 = l at *
      have t := round_top ((y % 8388608 : Nat) : Int) (-149) l (29 - l) (-149) (y % 8388608) (by omega) (by omega) l1 l2 (by omega)
      rw [show 29 - l + l + 1 = 30 by omega] at t
      rw [t, round_far _ _ _ _ (by omega) (by omega) (by omega) (by unfold mx; split <;> omega)]
      rfl
  · rw [if_neg h0]
    simp only []
    rw [if_neg (by omega)]
    have t := round_top ((8388608 + y % 8388608 : Nat) : Int) (((y / 8388608 : Nat) : Int) - 150) 23 6 (((y / 8388608 : Nat) : Int) - 150) (8388608 + y % 8388608) (by omega) (by omega) (by omega) (by omega) (by omega)
    rw [t]
    by_cases h1 : 143 ≤ y / 8388608
    · rw [spec_HalfRound.l0, if_neg (by omega), if_pos (by omega)]
      unfold g
      rw [if_neg hk, if_pos h1]
      rfl
    · by_cases h2 : y / 8388608 < 96
      · rw [round_far _ _ _ _ (by omega) (by omega) (by omega) (by unfold mx; split <;> omega), g_zero (by omega)]
        rfl
      · by_cases h3 : y / 8388608 ≤ 112
        · have r0 : rnd (8388608 + y % 8388608) (126 - y / 8388608) = g y := by
            by_cases h4 : y / 8388608 < 102
            · rw [g_zero h4]
              have hd : 2 ^ 25 ≤ 2 ^ (126 - y / 8388608) := Nat.pow_le_pow_right (by decide) (by omega)
              unfold rnd
              generalize 2 ^ (126 - y / 8388608) = P at *
              have hm : 8388608 + y % 8388608 < P := by omega
              rw [Nat.div_eq_of_lt hm, Nat.mod_eq_of_lt hm, if_neg (by omega)]
            · unfold g
              rw [if_neg hk, if_neg h1, if_neg h4, if_pos h3, Nat.add_comm]
          have rl : rnd (8388608 + y % 8388608) (126 - y / 8388608) ≤ 1024 := by
            refine rnd_le_div _ _ _ ?_
            have : 2 ^ 14 ≤ 2 ^ (126 - y / 8388608) := Nat.pow_le_pow_right (by decide) (by omega)
            omega
          have q := round_last 6 (8388608 + y % 8388608) 0 (126 - y / 8388608) (((y / 8388608 : Nat) : Int) - 150) (((y / 8388608 : Nat) : Int) - 150 + ((23 : Nat) : Int)) (-24) (by omega) (by omega) (by unfold mx; split <;> omega) (by omega) (by omega) (by omega) (by omega) (by omega) (by omega) (by omega)
          rw [q, r0]
          simp
        · have r0 : (y / 8388608 - 113) * 1024 + rnd (8388608 + y % 8388608) 13 = g y := by
            have a := rnd_add (y % 8388608) 13 512
            rw [show (2 * 512 * 2 ^ 13 : Nat) = 8388608 from rfl] at a
            unfold g
            rw [if_neg hk, if_neg h1, if_neg (by omega), if_neg h3, a]
            generalize rnd (y % 8388608) 13 = r
            omega
          have rl := (g_mid_le (y := y) (by omega) (by omega)).2
          have q := round_last 6 (8388608 + y % 8388608) (y / 8388608 - 113) 13 (((y / 8388608 : Nat) : Int) - 150) (((y / 8388608 : Nat) : Int) - 150 + ((23 : Nat) : Int)) (((y / 8388608 : Nat) : Int) - 137) (by omega) (by omega) (by unfold mx; split <;> omega) (by omega) (by omega) (by omega) (by omega) (by omega) (by omega) (by omega)
          rw [q, r0]
theorem from_pure : laws_FnHalfFrom.Pure := by
  intro a w
  simp only [Lit.wf, Bool.and_eq_true, decide_eq_true_eq] at w
  obtain ⟨w1, w2⟩ := w
  have w2 : a < 4294967296 := by
    have : IntKind.u32.max = 4294967295 := by decide
    omega
  have w1 : 0 ≤ a := by
    have : IntKind.u32.min = 0 := by decide
    omega
  obtain ⟨n, rfl⟩ := Int.eq_ofNat_of_zero_le w1
  have hn : n < 4294967296 := by omega
  have fg := f16_g n hn
  have gl := g_lt (n % 2147483648)
  have fl : f16 n < 65536 := by omega
  refine ⟨30, ?_⟩
  unfold laws_FnHalfFrom.f
  rw [bnd (kindS n hn)]
  by_cases h1 : n / 8388608 % 256 = 255 ∧ n % 8388608 ≠ 0
  · rw [if_pos h1.1, if_neg h1.2, if_pos rfl]
  · rw [if_neg (by
      split
      · split <;> omega
      · omega), bnd (fromH n hn), if_pos (by rw [wrap16_small _ (by omega)]; omega), bnd (kindS n hn), l16_32767 _ fl, bnd (valueS n hn)]
    have e : f16 n % 32768 = g (n % 2147483648) := by omega
    rw [e]
    by_cases h2 : n / 8388608 % 256 = 255
    · rw [if_pos h2, if_pos (show n % 8388608 = 0 by omega), if_pos rfl]
      have e2 : n % 2147483648 = 2139095040 := by omega
      rw [e2]
      decide
    · rw [if_neg h2, if_neg (by decide), bnd (round_law n h2 _ rfl)]
      simp
theorem from_walk (a : Int) (h : 0 ≤ a ∧ a ≤ 4294967295) (w : World) :
    Calls Try.prog 6 #[.int .u32 a] w fun e w' => e = .returned (.bool true) ∧ Below w.heap.size w w' :=
  laws_FnHalfFrom.walk from_pure a w (by simp only [Lit.wf, Bool.and_eq_true, decide_eq_true_eq]; exact h)
end Go.Proofs.Ytdepcnaiobfpkaa.PAll
