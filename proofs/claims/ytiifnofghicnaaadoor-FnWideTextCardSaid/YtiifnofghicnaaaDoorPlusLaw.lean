/- spec.Plus is a sum of whole numbers: a plain law on the printed function. -/
import Derived.Test.YtiifnofghicnaaaDoorBitLaw
import Derived.Test.YtiifnofghicnaaaDoorQAllx1
namespace Go.Proofs.YtiifnofghicnaaaDoor.PAll
open Go.RowKit Go.Proofs.YtiifnofghicnaaaDoorW.PrintWords Go.Proofs.YtiifnofghicnaaaDoorW.PrintLast Go.Proofs.YtiifnofghicnaaaDoorW.PrintMore
/-- The carry into digit i. -/
def cin (x y i : Nat) : Nat := (x % 65536 ^ i + y % 65536 ^ i) / 65536 ^ i
theorem cin_le (x y i : Nat) : cin x y i ≤ 1 := by
  unfold cin
  have hp : 0 < 65536 ^ i := Nat.pow_pos (by decide)
  have h1 := Nat.mod_lt x hp
  have h2 := Nat.mod_lt y hp
  exact Nat.lt_succ_iff.1 (Nat.div_lt_of_lt_mul (by omega))
theorem cin_succ (x y i : Nat) : cin x y (i + 1) = (cin x y i + x / 65536 ^ i % 65536 + y / 65536 ^ i % 65536) / 65536 := by
  unfold cin
  have hp : 0 < 65536 ^ i := Nat.pow_pos (by decide)
  rw [Nat.pow_succ, Nat.mod_mul, Nat.mod_mul, ← Nat.div_div_eq_div_mul]
  congr 1
  have : x % 65536 ^ i + 65536 ^ i * (x / 65536 ^ i % 65536) + (y % 65536 ^ i + 65536 ^ i * (y / 65536 ^ i % 65536)) = (x % 65536 ^ i + y % 65536 ^ i) + 65536 ^ i * (x / 65536 ^ i % 65536 + y / 65536 ^ i % 65536) := by
    rw [Nat.mul_add]; omega
  rw [this, Nat.add_mul_div_left _ _ hp]
  omega
theorem sum_dig (x y i : Nat) : (x + y) / 65536 ^ i % 65536 = (cin x y i + x / 65536 ^ i % 65536 + y / 65536 ^ i % 65536) % 65536 := by
  unfold cin
  have hp : 0 < 65536 ^ i := Nat.pow_pos (by decide)
  have e : x + y = (x % 65536 ^ i + y % 65536 ^ i) + 65536 ^ i * (x / 65536 ^ i + y / 65536 ^ i) := by
    have h1 := Nat.mod_add_div x (65536 ^ i)
    have h2 := Nat.mod_add_div y (65536 ^ i)
    rw [Nat.mul_add]
    omega
  rw [show (x + y) / 65536 ^ i = (x % 65536 ^ i + y % 65536 ^ i) / 65536 ^ i + (x / 65536 ^ i + y / 65536 ^ i) by rw [← Nat.add_mul_div_left _ _ hp, ← e]]
  omega
theorem sum_fits (x y i : Nat) (hx : Dig.nd x ≤ i) (hy : Dig.nd y ≤ i) (hc : cin x y i = 0) : x + y < 65536 ^ i := by
  have hp : 0 < 65536 ^ i := Nat.pow_pos (by decide)
  have h1 : x < 65536 ^ i := Nat.lt_of_lt_of_le (Dig.lt_nd x) (Nat.pow_le_pow_right (by decide) hx)
  have h2 : y < 65536 ^ i := Nat.lt_of_lt_of_le (Dig.lt_nd y) (Nat.pow_le_pow_right (by decide) hy)
  unfold cin at hc
  rw [Nat.mod_eq_of_lt h1, Nat.mod_eq_of_lt h2] at hc
  exact (Nat.div_eq_zero_iff_lt hp).1 hc
theorem and_ffff (n : Nat) (h : n < 4294967296) : Go.bits .and .i64 (n : Int) 65535 = ((n % 65536 : Nat) : Int) := by
  have := (bits_nat .i64 32 (by decide) (fun n h0 h1 => by rw [IntKind.wrap_i64]; omega) n 65535 (by omega) (by decide)).1
  rw [show (65535 : Nat) = 2 ^ 16 - 1 from rfl, Nat.and_two_pow_sub_one_eq_mod] at this
  exact this
theorem wadd (a b : Nat) (h : a + b < 9223372036854775808) : wrap64 ((a : Int) + (b : Int)) = ((a + b : Nat) : Int) := by unfold wrap64; omega
theorem div_cast (n : Nat) : (n : Int) / 65536 = ((n / 65536 : Nat) : Int) := by omega
theorem plus_nums (C X Y : Nat) (hc : C ≤ 1) (hX : X < 65536) (hY : Y < 65536) : wrap64 ((C : Int) + (X : Int)) = ((C + X : Nat) : Int) ∧ wrap64 ((C : Int) + (Y : Int)) = ((C + Y : Nat) : Int) ∧ wrap64 (((C + X : Nat) : Int) + (Y : Int)) = ((C + X + Y : Nat) : Int) ∧
    Go.bits .and .i64 ((C + X + Y : Nat) : Int) 65535 = (((C + X + Y) % 65536 : Nat) : Int) ∧ Go.bits .and .i64 ((C + X : Nat) : Int) 65535 = (((C + X) % 65536 : Nat) : Int) ∧ Go.bits .and .i64 ((C + Y : Nat) : Int) 65535 = (((C + Y) % 65536 : Nat) : Int) ∧ Go.bits .and .i64 (C : Int) 65535 = ((C % 65536 : Nat) : Int) :=
  ⟨wadd C X (by omega), wadd C Y (by omega), wadd (C + X) Y (by omega), and_ffff _ (by omega), and_ffff _ (by omega), and_ffff _ (by omega), and_ffff _ (by omega)⟩
theorem plus_loop (x y : Nat) (hx : Dig.nd x ≤ 1000000000) (hy : Dig.nd y ≤ 1000000000) (d : Nat) : ∀ (i k : Nat), max (Dig.nd x) (Dig.nd y) + 1 - i = d → i ≤ max (Dig.nd x) (Dig.nd y) + 1 → 3 * d + i + 10 < k →
    spec_Plus.l0 k (Dig.dg x) (Dig.dg y) (Dig.digs i (x + y)) (cin x y i : Int) (i : Int) = some (Dig.dg (x + y)) := by
  -- where nothing is left
  have fin : ∀ (i k : Nat), Dig.nd x ≤ i → Dig.nd y ≤ i → cin x y i = 0 → i ≤ 1000000001 → i + 2 < k → spec_Plus.l0 k (Dig.dg x) (Dig.dg y) (Dig.digs i (x + y)) (cin x y i : Int) (i : Int) = some (Dig.dg (x + y)) := by
    intro i k h1 h2 h3 h5 h4
    obtain ⟨k, rfl⟩ : ∃ q, k = q + 2 := ⟨k - 2, by omega⟩
    simp only [spec_Plus.l0, spec_Plus.j1, Dig.dg_len, h3]
    rw [if_neg (by omega), if_neg (by omega), if_neg (by simp), bnd (trim_digs i (x + y) k (sum_fits x y i h1 h2 h3) (by omega) (by omega))]
  induction d with
  | zero =>
    intro i k hd hi hk
    have hi' : i = max (Dig.nd x) (Dig.nd y) + 1 := by omega
    refine fin i k (by omega) (by omega) ?_ (by omega) (by omega)
    subst hi'
    have hs := cin_succ x y (max (Dig.nd x) (Dig.nd y))
    rw [Dig.dig_beyond (show Dig.nd x ≤ max (Dig.nd x) (Dig.nd y) by omega), Dig.dig_beyond (show Dig.nd y ≤ max (Dig.nd x) (Dig.nd y) by omega)] at hs
    have := cin_le x y (max (Dig.nd x) (Dig.nd y))
    rw [hs]
    omega
  | succ d ih =>
    intro i k hd hi hk
    by_cases hfin : Dig.nd x ≤ i ∧ Dig.nd y ≤ i ∧ cin x y i = 0
    · exact fin i k hfin.1 hfin.2.1 hfin.2.2 (by omega) (by omega)
    · obtain ⟨k, rfl⟩ : ∃ q, k = q + 2 := ⟨k - 2, by omega⟩
      have g := ih (i + 1) k (by omega) (by omega) (by omega)
      rw [Dig.digs_succ, sum_dig, cin_succ] at g
      have hc := cin_le x y i
      have e2 : wrap64 ((i : Int) + 1) = ((i + 1 : Nat) : Int) := wadd i 1 (by omega)
      have hX : x / 65536 ^ i % 65536 < 65536 := Nat.mod_lt _ (by decide)
      have hY : y / 65536 ^ i % 65536 < 65536 := Nat.mod_lt _ (by decide)
      have zX : Dig.nd x ≤ i → x / 65536 ^ i % 65536 = 0 := fun h => by rw [Dig.dig_beyond h]
      have zY : Dig.nd y ≤ i → y / 65536 ^ i % 65536 = 0 := fun h => by rw [Dig.dig_beyond h]
      have step : spec_Plus.l0 (k + 2) (Dig.dg x) (Dig.dg y) (Dig.digs i (x + y)) (cin x y i : Int) (i : Int) = spec_Plus.j1 (k + 1) (Dig.dg x) (Dig.dg y) (Dig.digs i (x + y)) (cin x y i : Int) (i : Int) true := by
        rw [spec_Plus.l0]
        rw [Dig.dg_len, Dig.dg_len]
        by_cases h1 : i < Dig.nd x
        · rw [if_pos (by omega)]
        · by_cases h2 : i < Dig.nd y
          · rw [if_neg (by omega), if_pos (by omega)]
          · rw [if_neg (by omega), if_neg (by omega), decide_eq_true (by omega)]
      rw [step]
      simp only [spec_Plus.j1, Dig.dg_len, rd_dg, Dig.digs_len, e2, if_true]
      clear step fin ih
      generalize x / 65536 ^ i % 65536 = X at *
      generalize y / 65536 ^ i % 65536 = Y at *
      generalize cin x y i = C at *
      obtain ⟨w1, w2, w3, a1, a2, a3, a4⟩ := plus_nums C X Y hc hX hY
      rw [w1, w2, w3, a1, a2, a3, a4, div_cast, div_cast, div_cast, div_cast]
      clear w1 w2 w3 a1 a2 a3 a4 e2 hX hY hc hfin hd hk
      by_cases h1 : i < Dig.nd x
      · rw [if_pos (by omega), if_pos (by omega)]
        by_cases h2 : i < Dig.nd y
        · rw [if_pos (by omega), if_pos (by omega)]
          exact g
        · rw [if_neg (by omega), if_pos (by omega)]
          have := zY (by omega)
          subst this
          exact g
      · rw [if_neg (by omega)]
        have := zX (by omega)
        subst this
        by_cases h2 : i < Dig.nd y
        · rw [if_pos (by omega), if_pos (by omega), if_pos (by omega)]
          exact g
        · rw [if_neg (by omega), if_pos (by omega)]
          have := zY (by omega)
          subst this
          exact g
theorem plus_law (x y k : Nat) (hx : Dig.nd x ≤ 1000000000) (hy : Dig.nd y ≤ 1000000000) (hk : 3 * (max (Dig.nd x) (Dig.nd y)) + 13 < k) : spec_Plus.f k (Dig.dg x) (Dig.dg y) = some (Dig.dg (x + y)) := by
  unfold spec_Plus.f
  have := plus_loop x y hx hy _ 0 k rfl (by omega) (by omega)
  have c0 : cin x y 0 = 0 := by simp [cin, Nat.mod_one]
  rw [c0] at this
  exact this
end Go.Proofs.YtiifnofghicnaaaDoor.PAll
