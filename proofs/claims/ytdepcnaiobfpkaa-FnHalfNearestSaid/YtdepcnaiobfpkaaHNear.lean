/- FnHalfNearest: the law's function answers true. -/
import Derived.Test.YtdepcnaiobfpkaaHBase
import Derived.Test.YtdepcnaiobfpkaaPAllx3
namespace Go.Proofs.Ytdepcnaiobfpkaa.PAll
open Go.RowKit Go.Proofs.YtdepcnaiobfpkaaW.PrintWords Go.Proofs.YtdepcnaiobfpkaaW.PrintLast Go.Proofs.YtdepcnaiobfpkaaW.PrintMore Go.Proofs.Ytdepcnaiobfpkaa.HN
theorem near_end (k : Nat) (x3 x4 x5 : Int) (l : List Int) : laws_FnHalfNearest.l0 (k + 1) x3 x4 x5 l 2 2 = some true := by
  rw [laws_FnHalfNearest.l0, if_neg (by decide)]
theorem near_skip (k : Nat) (x3 x4 x5 : Int) (l : List Int) (i j o : Int) (h1 : i < 2) (h2 : 0 ≤ i) (h3 : i < (l.length : Int)) (h4 : rd l i = o) (h5 : o > 31743) (h6 : wrap64 (i + 1) = j) :
    laws_FnHalfNearest.l0 (k + 1) x3 x4 x5 l 2 i = laws_FnHalfNearest.l0 k x3 x4 x5 l 2 j := by
  rw [laws_FnHalfNearest.l0, if_pos h1, if_pos h2, if_pos h3, h4, if_pos h5, h6]
theorem near_open (k : Nat) (x3 x4 x5 : Int) (l : List Int) (i j o hm hf om og b d A B s t u v : Int) (h1 : i < 2) (h2 : 0 ≤ i) (h3 : i < (l.length : Int)) (h4 : rd l i = o) (h5 : ¬ o > 31743) (h6 : wrap64 (i + 1) = j)
    (hv : spec_HalfValue.f x5 = some (hm, hf)) (ov : spec_HalfValue.f o = some (om, og)) (hc : mn (mn x4 hf) og = x4) (e0 : wrap64 (x4 - x4) = 0) (e1 : wrap64 (hf - x4) = b) (e2 : wrap64 (og - x4) = d) (b0 : 0 ≤ b) (d0 : 0 ≤ d)
    (s0 : shl .i64 x3 0 = x3) (s1 : shl .i64 hm b = A) (s2 : shl .i64 om d = B) (w1 : wrap64 (x3 - A) = s) (w2 : wrap64 (-s) = t) (w3 : wrap64 (x3 - B) = u) (w4 : wrap64 (-u) = v)
    (c1 : ¬ mx s t > mx u v) (c2 : mx s t = mx u v → ¬ Int.tmod x5 2 = 1) :
    laws_FnHalfNearest.l0 (k + 1) x3 x4 x5 l 2 i = laws_FnHalfNearest.l0 k x3 x4 x5 l 2 j := by
  rw [laws_FnHalfNearest.l0, if_pos h1, if_pos h2, if_pos h3, h4, if_neg h5, bnd hv, bnd ov]
  simp only [hc, e0, e1, e2, s0, s1, s2, w1, w2, w3, w4]
  rw [if_pos (show (0 : Int) ≤ 0 by decide), if_pos b0, if_pos d0, if_neg c1]
  by_cases h : mx s t = mx u v
  · rw [if_pos h, if_neg (c2 h), h6]
  · rw [if_neg h, h6]
theorem shl_small64 (a d : Nat) (hd : d ≤ 30) (ha : a < 16777216) : shl .i64 (a : Int) (d : Int) = ((a * 2 ^ d : Nat) : Int) := by
  unfold shl
  rw [Int.toNat_natCast, show min d IntKind.i64.bits = d from Nat.min_eq_left (by show d ≤ 64; omega), i64_w]
  have e : (a : Int) * 2 ^ d = ((a * 2 ^ d : Nat) : Int) := by simp
  have hp : 2 ^ d ≤ 1073741824 := Nat.pow_le_pow_right (n := 2) (by decide) hd
  have hq : a * 2 ^ d ≤ 16777216 * 1073741824 := Nat.mul_le_mul (by omega) hp
  rw [e]
  generalize a * 2 ^ d = z at *
  exact w64_small _ (by omega)
theorem mul_small (a d : Nat) (hd : d ≤ 30) (ha : a < 16777216) : a * 2 ^ d ≤ 18014398509481984 := by
  have hp : 2 ^ d ≤ 1073741824 := Nat.pow_le_pow_right (n := 2) (by decide) hd
  have := Nat.mul_le_mul (show a ≤ 16777216 by omega) hp
  omega
theorem sub_small (a b : Nat) (ha : a ≤ 18014398509481984) (hb : b ≤ 18014398509481984) : wrap64 ((a : Int) - (b : Int)) = (a : Int) - (b : Int) := w64_small _ (by omega)
theorem neg_small (a b : Nat) (ha : a ≤ 18014398509481984) (hb : b ≤ 18014398509481984) : wrap64 (-((a : Int) - (b : Int))) = (b : Int) - (a : Int) := by
  rw [w64_small _ (by omega)]
  omega
/-- The distance of two whole numbers. -/
def dist (a b : Nat) : Nat := a - b + (b - a)
theorem mx_dist (a b : Nat) : mx ((a : Int) - (b : Int)) ((b : Int) - (a : Int)) = (dist a b : Nat) := by
  unfold mx dist
  split <;> omega
/-- One of the two neighbours. -/
theorem near_step (k m h o hm om fh fo : Nat) (e hf og : Int) (l : List Int) (i j : Int) (h1 : i < 2) (h2 : 0 ≤ i) (h3 : i < (l.length : Int)) (h4 : rd l i = (o : Int)) (h5 : o ≤ 31743) (h6 : wrap64 (i + 1) = j)
    (hv : spec_HalfValue.f (h : Int) = some ((hm : Int), hf)) (ov : spec_HalfValue.f (o : Int) = some ((om : Int), og)) (g1 : hf = e + fh) (g2 : og = e + fo) (fh30 : fh ≤ 30) (fo30 : fo ≤ 30) (hm4 : hm < 4096) (om4 : om < 4096) (hml : m < 16777216)
    (c1 : dist m (hm * 2 ^ fh) ≤ dist m (om * 2 ^ fo)) (c2 : dist m (hm * 2 ^ fh) = dist m (om * 2 ^ fo) → h % 2 = 0) :
    laws_FnHalfNearest.l0 (k + 1) (m : Int) e (h : Int) l 2 i = laws_FnHalfNearest.l0 k (m : Int) e (h : Int) l 2 j := by
  have q1 := mul_small hm fh fh30 (by omega)
  have q2 := mul_small om fo fo30 (by omega)
  have q3 : m ≤ 18014398509481984 := by omega
  have s1 := shl_small64 hm fh fh30 (by omega)
  have s2 := shl_small64 om fo fo30 (by omega)
  have s0 := shl_small64 m 0 (by decide) hml
  rw [Nat.pow_zero, Nat.mul_one, show ((0 : Nat) : Int) = 0 from rfl] at s0
  have e0 : wrap64 (e - e) = 0 := by rw [w64_small _ (by omega)]; omega
  have e1 : wrap64 (hf - e) = (fh : Int) := by rw [w64_small _ (by omega)]; omega
  have e2 : wrap64 (og - e) = (fo : Int) := by rw [w64_small _ (by omega)]; omega
  have hc : mn (mn e hf) og = e := by
    unfold mn
    rw [if_neg (show ¬ hf < e by omega), if_neg (show ¬ og < e by omega)]
  generalize hm * 2 ^ fh = A at *
  generalize om * 2 ^ fo = B at *
  refine near_open k (m : Int) e (h : Int) l i j (o : Int) (hm : Int) hf (om : Int) og (fh : Int) (fo : Int) (A : Int) (B : Int) _ _ _ _ h1 h2 h3 h4 (by omega) h6 hv ov hc e0 e1 e2 (by omega) (by omega) s0 s1 s2 (sub_small m A q3 q1) (neg_small m A q3 q1) (sub_small m B q3 q2) (neg_small m B q3 q2) ?_ ?_
  · rw [mx_dist, mx_dist]
    omega
  · rw [mx_dist, mx_dist]
    intro hh
    have := c2 (by omega)
    rw [show (2 : Int) = ((2 : Nat) : Int) from rfl, ← Int.ofNat_tmod]
    omega
theorem dist_near (m A B : Nat) (h : (m ≤ A ∧ A ≤ B) ∨ (B ≤ A ∧ A ≤ m) ∨ (A ≤ m ∧ m ≤ B ∧ 2 * m ≤ A + B) ∨ (B ≤ m ∧ m ≤ A ∧ A + B ≤ 2 * m)) : dist m A ≤ dist m B := by
  unfold dist
  omega
theorem value_sub (o : Nat) (h : o < 1024) : spec_HalfValue.f (o : Int) = some ((o : Int), -24) := by
  rw [valueH o (by omega), if_pos (by omega), show o % 1024 = o by omega]
theorem value_nor (X t : Nat) (h1 : 1 ≤ X) (h2 : X ≤ 31) (ht : t < 1024) : spec_HalfValue.f ((X * 1024 + t : Nat) : Int) = some (((1024 + t : Nat) : Int), (X : Int) - 25) := by
  rw [valueH _ (by omega), if_neg (by omega), show (X * 1024 + t) % 1024 = t by omega, show (X * 1024 + t) / 1024 % 32 = X by omega]
/-- What a rounding is: the floor, or the next. -/
theorem rnd_two (m d : Nat) : ∃ r, m = m / 2 ^ d * 2 ^ d + r ∧ r < 2 ^ d ∧ ((rnd m d = m / 2 ^ d ∧ (2 * r < 2 ^ d ∨ (2 * r = 2 ^ d ∧ m / 2 ^ d % 2 = 0))) ∨ (rnd m d = m / 2 ^ d + 1 ∧ (2 ^ d < 2 * r ∨ (2 * r = 2 ^ d ∧ m / 2 ^ d % 2 = 1)))) := by
  have h0 : 0 < 2 ^ d := Nat.pow_pos (by decide)
  refine ⟨m % 2 ^ d, by rw [Nat.mul_comm]; exact (Nat.div_add_mod m (2 ^ d)).symm, Nat.mod_lt _ h0, ?_⟩
  unfold rnd
  generalize m % 2 ^ d = r
  generalize m / 2 ^ d = q
  generalize 2 ^ d = P at *
  split
  · right
    omega
  · left
    omega
/-- Both neighbours, where halves lie P apart. -/
theorem low_near (m d : Nat) : (dist m (rnd m d * 2 ^ d) ≤ dist m ((rnd m d + 1) * 2 ^ d) ∧ (dist m (rnd m d * 2 ^ d) = dist m ((rnd m d + 1) * 2 ^ d) → rnd m d % 2 = 0)) ∧
    (rnd m d ≠ 0 → dist m (rnd m d * 2 ^ d) ≤ dist m ((rnd m d - 1) * 2 ^ d) ∧ (dist m (rnd m d * 2 ^ d) = dist m ((rnd m d - 1) * 2 ^ d) → rnd m d % 2 = 0)) := by
  obtain ⟨r, e, hr, h⟩ := rnd_two m d
  have e1 : (rnd m d + 1) * 2 ^ d = rnd m d * 2 ^ d + 2 ^ d := Nat.succ_mul ..
  have e2 : rnd m d ≠ 0 → rnd m d * 2 ^ d = (rnd m d - 1) * 2 ^ d + 2 ^ d := fun h => by
    rw [← Nat.succ_mul]
    congr 1
    omega
  generalize rnd m d = t at *
  generalize hq : m / 2 ^ d = q at *
  have e3 : t = q → t * 2 ^ d = q * 2 ^ d := fun h => by rw [h]
  have e4 : t = q + 1 → t * 2 ^ d = q * 2 ^ d + 2 ^ d := fun h => by rw [h, Nat.succ_mul]
  rw [e1]
  generalize t * 2 ^ d = T at *
  generalize q * 2 ^ d = Q at *
  generalize (t - 1) * 2 ^ d = S at *
  generalize 2 ^ d = P at *
  unfold dist
  rcases h with ⟨h, hh⟩ | ⟨h, hh⟩
  · have := e3 h
    refine ⟨by omega, fun h0 => ?_⟩
    have := e2 h0
    omega
  · have := e4 h
    refine ⟨by omega, fun h0 => ?_⟩
    have := e2 h0
    omega
theorem near_both (k m h : Nat) (e : Int) (hh : h ≤ 31743)
    (down : h ≠ 0 → ∀ (K : Nat) (l : List Int), rd l 0 = ((h - 1 : Nat) : Int) → 0 < (l.length : Int) → laws_FnHalfNearest.l0 (K + 1) (m : Int) e (h : Int) l 2 0 = laws_FnHalfNearest.l0 K (m : Int) e (h : Int) l 2 1)
    (up : h ≠ 31743 → ∀ (K : Nat) (l : List Int), rd l 1 = ((h + 1 : Nat) : Int) → 1 < (l.length : Int) → laws_FnHalfNearest.l0 (K + 1) (m : Int) e (h : Int) l 2 1 = laws_FnHalfNearest.l0 K (m : Int) e (h : Int) l 2 2) :
    laws_FnHalfNearest.l0 (k + 3) (m : Int) e (h : Int) [IntKind.u16.wrap ((h : Int) - 1), IntKind.u16.wrap ((h : Int) + 1)] 2 0 = some true := by
  have w0 : wrap64 (0 + 1) = 1 := by rw [w64_small _ (by decide)]; rfl
  have w1 : wrap64 (1 + 1) = 2 := by rw [w64_small _ (by decide)]; rfl
  have b2 : IntKind.u16.wrap ((h : Int) + 1) = ((h + 1 : Nat) : Int) := by rw [IntKind.wrap_u16]; omega
  rw [b2]
  have r1 : ∀ a : Int, rd [a, ((h + 1 : Nat) : Int)] 1 = ((h + 1 : Nat) : Int) := fun _ => rfl
  have r0 : ∀ a : Int, rd [a, ((h + 1 : Nat) : Int)] 0 = a := fun _ => rfl
  have len : ∀ a : Int, (([a, ((h + 1 : Nat) : Int)] : List Int).length : Int) = 2 := fun _ => rfl
  have first : laws_FnHalfNearest.l0 (k + 3) (m : Int) e (h : Int) [IntKind.u16.wrap ((h : Int) - 1), ((h + 1 : Nat) : Int)] 2 0 = laws_FnHalfNearest.l0 (k + 2) (m : Int) e (h : Int) [IntKind.u16.wrap ((h : Int) - 1), ((h + 1 : Nat) : Int)] 2 1 := by
    by_cases h0 : h = 0
    · refine near_skip (k + 2) _ _ _ _ 0 1 65535 (by decide) (by decide) (by rw [len]; decide) (by rw [r0, h0]; decide) (by decide) w0
    · have b1 : IntKind.u16.wrap ((h : Int) - 1) = ((h - 1 : Nat) : Int) := by rw [IntKind.wrap_u16]; omega
      rw [b1]
      exact down h0 (k + 2) _ (r0 _) (by rw [len]; decide)
  have second : laws_FnHalfNearest.l0 (k + 2) (m : Int) e (h : Int) [IntKind.u16.wrap ((h : Int) - 1), ((h + 1 : Nat) : Int)] 2 1 = laws_FnHalfNearest.l0 (k + 1) (m : Int) e (h : Int) [IntKind.u16.wrap ((h : Int) - 1), ((h + 1 : Nat) : Int)] 2 2 := by
    by_cases h0 : h = 31743
    · refine near_skip (k + 1) _ _ _ _ 1 2 31744 (by decide) (by decide) (by rw [len]; decide) (by rw [r1, h0]; decide) (by decide) w1
    · exact up h0 (k + 1) _ (r1 _) (by rw [len]; decide)
  rw [first, second, near_end]
theorem value_low (o : Nat) (h : o < 2048) : spec_HalfValue.f (o : Int) = some ((o : Int), -24) := by
  by_cases h1 : o < 1024
  · exact value_sub o h1
  · have v := value_nor 1 (o - 1024) (by decide) (by decide) (by omega)
    rw [show 1 * 1024 + (o - 1024) = o by omega] at v
    exact v
/-- Halves below 2048 lie 2^-24 apart. -/
theorem near_low (k m d : Nat) (e : Int) (hm : m < 16777216) (hd : 14 ≤ d ∧ d ≤ 25) (he : e = -24 - (d : Int)) :
    laws_FnHalfNearest.l0 (k + 3) (m : Int) e ((rnd m d : Nat) : Int) [IntKind.u16.wrap (((rnd m d : Nat) : Int) - 1), IntKind.u16.wrap (((rnd m d : Nat) : Int) + 1)] 2 0 = some true := by
  have rl : rnd m d ≤ 1024 := by
    refine rnd_le_div _ _ _ ?_
    have : 2 ^ 14 ≤ 2 ^ d := Nat.pow_le_pow_right (by decide) hd.1
    omega
  obtain ⟨n1, n2⟩ := low_near m d
  generalize rnd m d = h at *
  have w0 : wrap64 (0 + 1) = 1 := by rw [w64_small _ (by decide)]; rfl
  have w1 : wrap64 (1 + 1) = 2 := by rw [w64_small _ (by decide)]; rfl
  refine near_both k m h e (by omega) ?_ ?_
  · intro h0 K l r0 l0
    obtain ⟨c1, c2⟩ := n2 h0
    exact near_step K m h (h - 1) h (h - 1) d d e (-24) (-24) l 0 1 (by decide) (by decide) l0 r0 (by omega) w0 (value_low h (by omega)) (value_low (h - 1) (by omega)) (by omega) (by omega) (by omega) (by omega) (by omega) (by omega) hm c1 c2
  · intro h0 K l r0 l0
    obtain ⟨c1, c2⟩ := n1
    exact near_step K m h (h + 1) h (h + 1) d d e (-24) (-24) l 1 2 (by decide) (by decide) l0 r0 (by omega) w1 (value_low h (by omega)) (value_low (h + 1) (by omega)) (by omega) (by omega) (by omega) (by omega) (by omega) (by omega) hm c1 c2
/-- The value of a half beside the binade X, in units of a float32's last bit. -/
theorem value_mid (X t : Nat) (e : Int) (h1 : 1 ≤ X) (h2 : X ≤ 30) (he : e = (X : Int) - 38) (ht : t ≤ 1024) : ∃ hm fh : Nat, hm < 4096 ∧ fh ≤ 30 ∧ spec_HalfValue.f ((X * 1024 + t : Nat) : Int) = some ((hm : Int), e + (fh : Nat)) ∧ hm * 2 ^ fh = (1024 + t) * 8192 := by
  by_cases h : t < 1024
  · refine ⟨1024 + t, 13, by omega, by decide, ?_, rfl⟩
    rw [value_nor X t h1 (by omega) h]
    congr 2
    omega
  · have et : t = 1024 := by omega
    subst et
    refine ⟨1024, 14, by decide, by decide, ?_, rfl⟩
    have v := value_nor (X + 1) 0 (by omega) (by omega) (by decide)
    rw [show (X + 1) * 1024 + 0 = X * 1024 + 1024 by omega] at v
    rw [v]
    congr 2
    omega
theorem near_mid (k c X : Nat) (e : Int) (hc : c < 8388608) (h1 : 1 ≤ X) (h2 : X ≤ 30) (he : e = (X : Int) - 38) (hh : X * 1024 + rnd c 13 ≤ 31743) :
    laws_FnHalfNearest.l0 (k + 3) ((8388608 + c : Nat) : Int) e ((X * 1024 + rnd c 13 : Nat) : Int) [IntKind.u16.wrap (((X * 1024 + rnd c 13 : Nat) : Int) - 1), IntKind.u16.wrap (((X * 1024 + rnd c 13 : Nat) : Int) + 1)] 2 0 = some true := by
  have rl : rnd c 13 ≤ 1024 := rnd_le_div _ _ _ (by omega)
  obtain ⟨r, er, hr, hq⟩ := rnd_two c 13
  rw [show (2 : Nat) ^ 13 = 8192 from rfl] at er hr hq
  generalize rnd c 13 = t at *
  generalize c / 8192 = q at *
  have w0 : wrap64 (0 + 1) = 1 := by rw [w64_small _ (by decide)]; rfl
  have w1 : wrap64 (1 + 1) = 2 := by rw [w64_small _ (by decide)]; rfl
  obtain ⟨hm, fh, a1, a2, a3, a4⟩ := value_mid X t e h1 h2 he rl
  refine near_both k (8388608 + c) (X * 1024 + t) e hh ?_ ?_
  · intro h0 K l r0 l0
    by_cases ht : t = 0
    · by_cases hX : X = 1
      · refine near_step K (8388608 + c) (X * 1024 + t) (X * 1024 + t - 1) hm 1023 fh 13 e _ (-24) l 0 1 (by decide) (by decide) l0 r0 (by omega) w0 a3 ?_ rfl (by omega) a2 (by decide) a1 (by decide) (by omega) ?_ ?_
        · rw [show X * 1024 + t - 1 = 1023 by omega]
          exact value_sub 1023 (by decide)
        · rw [a4]
          unfold dist
          omega
        · rw [a4]
          unfold dist
          omega
      · refine near_step K (8388608 + c) (X * 1024 + t) (X * 1024 + t - 1) hm 2047 fh 12 e _ (((X - 1 : Nat) : Int) - 25) l 0 1 (by decide) (by decide) l0 r0 (by omega) w0 a3 ?_ rfl (by omega) a2 (by decide) a1 (by decide) (by omega) ?_ ?_
        · rw [show X * 1024 + t - 1 = (X - 1) * 1024 + 1023 by omega]
          exact value_nor (X - 1) 1023 (by omega) (by omega) (by decide)
        · rw [a4]
          unfold dist
          omega
        · rw [a4]
          unfold dist
          omega
    · obtain ⟨om, fo, b1, b2, b3, b4⟩ := value_mid X (t - 1) e h1 h2 he (by omega)
      rw [show X * 1024 + (t - 1) = X * 1024 + t - 1 by omega] at b3
      refine near_step K (8388608 + c) (X * 1024 + t) (X * 1024 + t - 1) hm om fh fo e _ _ l 0 1 (by decide) (by decide) l0 r0 (by omega) w0 a3 b3 rfl rfl a2 b2 a1 b1 (by omega) ?_ ?_
      · rw [a4, b4]
        unfold dist
        omega
      · rw [a4, b4]
        unfold dist
        omega
  · intro h0 K l r0 l0
    by_cases ht : t = 1024
    · refine near_step K (8388608 + c) (X * 1024 + t) (X * 1024 + t + 1) hm 1025 fh 14 e _ (((X + 1 : Nat) : Int) - 25) l 1 2 (by decide) (by decide) l0 r0 (Nat.lt_of_le_of_ne hh h0) w1 a3 ?_ rfl (by omega) a2 (by decide) a1 (by decide) (by omega) ?_ ?_
      · rw [show X * 1024 + t + 1 = (X + 1) * 1024 + 1 by omega]
        exact value_nor (X + 1) 1 (by omega) (by omega) (by decide)
      · rw [a4]
        unfold dist
        omega
      · rw [a4]
        unfold dist
        omega
    · obtain ⟨om, fo, b1, b2, b3, b4⟩ := value_mid X (t + 1) e h1 h2 he (by omega)
      rw [show X * 1024 + (t + 1) = X * 1024 + t + 1 by omega] at b3
      refine near_step K (8388608 + c) (X * 1024 + t) (X * 1024 + t + 1) hm om fh fo e _ _ l 1 2 (by decide) (by decide) l0 r0 (Nat.lt_of_le_of_ne hh h0) w1 a3 b3 rfl rfl a2 b2 a1 b1 (by omega) ?_ ?_
      · rw [a4, b4]
        unfold dist
        omega
      · rw [a4, b4]
        unfold dist
        omega
theorem near_j0t (k : Nat) (x0 x3 x4 : Int) : laws_FnHalfNearest.j0 (k + 1) x0 x3 x4 true = some true := by
  rw [laws_FnHalfNearest.j0, if_pos rfl]
theorem near_j0 (k : Nat) (x0 x3 x4 : Int) : laws_FnHalfNearest.j0 (k + 1) x0 x3 x4 false = ((impl_HalfFrom.f x0).bind fun t145 => ((spec_HalfKind.f (Go.bits .and .u16 t145 32767)).bind fun t146 => (if t146 = 0 then ((some (([IntKind.u16.wrap ((Go.bits .and .u16 t145 32767) - 1), IntKind.u16.wrap ((Go.bits .and .u16 t145 32767) + 1)] : List Int) : List Int)).bind fun y147 => (laws_FnHalfNearest.l0 k x3 x4 (Go.bits .and .u16 t145 32767) y147 (y147.length : Int) 0)) else (some false)))) := by
  rw [laws_FnHalfNearest.j0, if_neg (by decide)]
theorem near_law (n : Nat) (hn : n < 4294967296) (h1 : 847249408 ≤ n % 2147483648) (h2 : n % 2147483648 < 1199566848) (p : Int × Int) (hp : p = if n / 8388608 % 256 = 0 then (((n % 8388608 : Nat) : Int), -149) else (((8388608 + n % 8388608 : Nat) : Int), ((n / 8388608 % 256 : Nat) : Int) - 150)) :
    laws_FnHalfNearest.j0 (3 + 1) (n : Int) p.1 p.2 false = some true := by
  have fg := f16_g n hn
  have gl := g_lt (n % 2147483648)
  have fl : f16 n < 65536 := by omega
  have e1 : f16 n % 32768 = g (n % 2147483648) := by omega
  rw [near_j0, bnd (fromH n hn), l16_32767 _ fl, e1]
  have hx : n / 8388608 % 256 = n % 2147483648 / 8388608 := by omega
  have hc : n % 8388608 = n % 2147483648 % 8388608 := by omega
  rw [hx, hc, if_neg (by omega)] at hp
  subst hp
  have hy : n % 2147483648 < 2147483648 := by omega
  clear hx hc hn fg fl e1
  generalize n % 2147483648 = y at *
  clear n
  have hx : 101 ≤ y / 8388608 ∧ y / 8388608 ≤ 142 := by omega
  by_cases h3 : y / 8388608 ≤ 112
  · have r0 : rnd (8388608 + y % 8388608) (126 - y / 8388608) = g y := by
      by_cases h4 : y / 8388608 < 102
      · rw [g_zero h4]
        have hd : 2 ^ 25 ≤ 2 ^ (126 - y / 8388608) := Nat.pow_le_pow_right (by decide) (by omega)
        unfold rnd
        generalize 2 ^ (126 - y / 8388608) = P at *
        have hm : 8388608 + y % 8388608 < P := by omega
        rw [Nat.div_eq_of_lt hm, Nat.mod_eq_of_lt hm, if_neg (by omega)]
      · unfold g
        rw [if_neg (by omega), if_neg (by omega), if_neg h4, if_pos h3, Nat.add_comm]
    have rl : g y ≤ 1024 := by
      rw [← r0]
      refine rnd_le_div _ _ _ ?_
      have : 2 ^ 14 ≤ 2 ^ (126 - y / 8388608) := Nat.pow_le_pow_right (by decide) (by omega)
      omega
    rw [bnd (kindH _ (by omega)), if_neg (show ¬ g y / 1024 % 32 = 31 by omega), if_pos rfl]
    have q := near_low 0 (8388608 + y % 8388608) (126 - y / 8388608) (((y / 8388608 : Nat) : Int) - 150) (by omega) (by omega) (by omega)
    rw [r0] at q
    exact q
  · have r0 : g y = (y / 8388608 - 112) * 1024 + rnd (y % 8388608) 13 := by
      unfold g
      rw [if_neg (by omega), if_neg (by omega), if_neg (by omega), if_neg h3]
    have rl : g y ≤ 31743 := by
      rw [r0]
      have a := rnd_le_div (y % 8388608) 13 1024 (by omega)
      by_cases h5 : y / 8388608 = 142
      · obtain ⟨r, er, hr, hq⟩ := rnd_two (y % 8388608) 13
        rw [show (2 : Nat) ^ 13 = 8192 from rfl] at er hr hq
        omega
      · omega
    rw [bnd (kindH _ (by omega)), if_neg (show ¬ g y / 1024 % 32 = 31 by omega), if_pos rfl]
    have q := near_mid 0 (y % 8388608) (y / 8388608 - 112) (((y / 8388608 : Nat) : Int) - 150) (by omega) (by omega) (by omega) (by omega) (by omega)
    rw [← r0] at q
    exact q
theorem near_pure : laws_FnHalfNearest.Pure := by
  intro a w
  simp only [Lit.wf, Bool.and_eq_true, decide_eq_true_eq] at w
  obtain ⟨w1, w2⟩ := w
  have w2 : a < 4294967296 := by
    have : IntKind.u32.max = 4294967295 := by decide
    omega
  have w1 : 0 ≤ a := by
    have : IntKind.u32.min = 0 := by decide
    omega
  obtain ⟨n, rfl⟩ := Int.eq_ofNat_of_zero_le w1
  have hn : n < 4294967296 := by omega
  refine ⟨3 + 1, ?_⟩
  unfold laws_FnHalfNearest.f
  rw [bnd (valueS n hn), bnd (kindS n hn), l32_size n hn]
  by_cases h1 : n / 8388608 % 256 = 255
  · rw [if_neg (by
      rw [if_pos h1]
      split <;> decide)]
    exact near_j0t _ _ _ _
  · rw [if_neg h1, if_pos rfl]
    by_cases h2 : n % 2147483648 < 847249408
    · rw [if_pos (by omega)]
      exact near_j0t _ _ _ _
    · rw [if_neg (by omega)]
      by_cases h3 : n % 2147483648 < 1199566848
      · rw [show decide ((((n % 2147483648 : Nat) : Int)) ≥ 1199566848) = false from decide_eq_false (by omega)]
        exact near_law n hn (by omega) h3 _ rfl
      · rw [show decide ((((n % 2147483648 : Nat) : Int)) ≥ 1199566848) = true from decide_eq_true (by omega)]
        exact near_j0t _ _ _ _
theorem near_walk (a : Int) (h : 0 ≤ a ∧ a ≤ 4294967295) (w : World) :
    Calls Try.prog 7 #[.int .u32 a] w fun e w' => e = .returned (.bool true) ∧ Below w.heap.size w w' :=
  laws_FnHalfNearest.walk near_pure a w (by simp only [Lit.wf, Bool.and_eq_true, decide_eq_true_eq]; exact h)
end Go.Proofs.Ytdepcnaiobfpkaa.PAll
