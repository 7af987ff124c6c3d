/- spec.Minus is a difference of whole numbers: plain laws on the printed functions. -/
import Derived.Test.YtiifnofghicnaaaDoorPlusLaw
import Derived.Test.YtiifnofghicnaaaDoorQAllx1
namespace Go.Proofs.YtiifnofghicnaaaDoor.PAll
open Go.RowKit Go.Proofs.YtiifnofghicnaaaDoorW.PrintWords Go.Proofs.YtiifnofghicnaaaDoorW.PrintLast Go.Proofs.YtiifnofghicnaaaDoorW.PrintMore
/-- What is borrowed from digit i. -/
def bin (x y i : Nat) : Nat := if x % 65536 ^ i < y % 65536 ^ i then 1 else 0
theorem bin_le (x y i : Nat) : bin x y i ≤ 1 := by unfold bin; split <;> omega
theorem bin_aux (P X Y u v : Nat) (hu : u < P) (hv : v < P) : (u + P * X < v + P * Y) ↔ (X < Y + if u < v then 1 else 0) := by
  rcases Nat.lt_trichotomy X Y with h | h | h
  · obtain ⟨t, rfl⟩ : ∃ t, Y = X + 1 + t := ⟨Y - X - 1, by omega⟩
    have : P * (X + 1 + t) = P * X + P + P * t := by rw [Nat.mul_add, Nat.mul_add, Nat.mul_one]
    rw [this]
    generalize P * X = a
    generalize P * t = b
    split <;> omega
  · subst h
    generalize P * X = a
    split <;> omega
  · obtain ⟨t, rfl⟩ : ∃ t, X = Y + 1 + t := ⟨X - Y - 1, by omega⟩
    have : P * (Y + 1 + t) = P * Y + P + P * t := by rw [Nat.mul_add, Nat.mul_add, Nat.mul_one]
    rw [this]
    generalize P * Y = a
    generalize P * t = b
    split <;> omega
theorem bin_succ (x y i : Nat) : bin x y (i + 1) = if x / 65536 ^ i % 65536 < y / 65536 ^ i % 65536 + bin x y i then 1 else 0 := by
  have hp : 0 < 65536 ^ i := Nat.pow_pos (by decide)
  have := bin_aux (65536 ^ i) (x / 65536 ^ i % 65536) (y / 65536 ^ i % 65536) (x % 65536 ^ i) (y % 65536 ^ i) (Nat.mod_lt _ hp) (Nat.mod_lt _ hp)
  unfold bin
  rw [Nat.pow_succ, Nat.mod_mul, Nat.mod_mul]
  by_cases h : x % 65536 ^ i + 65536 ^ i * (x / 65536 ^ i % 65536) < y % 65536 ^ i + 65536 ^ i * (y / 65536 ^ i % 65536)
  · rw [if_pos h, if_pos (this.1 h)]
  · rw [if_neg h, if_neg (fun h' => h (this.2 h'))]
theorem sub_div (x y i : Nat) (h : y ≤ x) : (x - y) / 65536 ^ i + y / 65536 ^ i + bin x y i = x / 65536 ^ i := by
  have hp : 0 < 65536 ^ i := Nat.pow_pos (by decide)
  unfold bin
  generalize 65536 ^ i = P at *
  have h1 := Nat.mod_add_div x P
  have h2 := Nat.mod_add_div y P
  have h3 := Nat.mod_lt x hp
  have h4 := Nat.mod_lt y hp
  have hd : y / P ≤ x / P := Nat.div_le_div_right h
  generalize hu : x % P = u at *
  generalize hv : y % P = v at *
  generalize x / P = a at *
  generalize y / P = b at *
  obtain ⟨t, rfl⟩ : ∃ t, a = b + t := ⟨a - b, by omega⟩
  have e : x - y + v = u + P * t := by
    have : P * (b + t) = P * b + P * t := Nat.mul_add _ _ _
    generalize P * b = z at *
    generalize P * t = s at *
    omega
  by_cases hlt : u < v
  · rw [if_pos hlt]
    have ht : 0 < t := by
      rcases Nat.eq_zero_or_pos t with rfl | ht
      · simp at e; omega
      · exact ht
    obtain ⟨s, rfl⟩ : ∃ s, t = s + 1 := ⟨t - 1, by omega⟩
    have e2 : x - y = (P + u - v) + P * s := by rw [Nat.mul_add, Nat.mul_one] at e; generalize P * s = z at *; omega
    rw [e2, Nat.add_mul_div_left _ _ hp, Nat.div_eq_of_lt (by omega)]
    omega
  · rw [if_neg hlt]
    have e2 : x - y = (u - v) + P * t := by generalize P * t = z at *; omega
    rw [e2, Nat.add_mul_div_left _ _ hp, Nat.div_eq_of_lt (by omega)]
    omega
theorem minus_nums (X Y B : Nat) (hX : X < 65536) (hY : Y < 65536) (hB : B ≤ 1) :
    wrap64 ((X : Int) - (B : Int)) = (X : Int) - (B : Int) ∧ wrap64 ((X : Int) - (B : Int) - (Y : Int)) = (X : Int) - (B : Int) - (Y : Int) ∧
    ((X : Int) - (B : Int) - (Y : Int) < 0 ↔ X < Y + B) ∧ ((X : Int) - (B : Int) < 0 ↔ X < B) ∧
    (X < Y + B → wrap64 ((X : Int) - (B : Int) - (Y : Int) + 65536) = ((X + 65536 - B - Y : Nat) : Int)) ∧ (¬ X < Y + B → (X : Int) - (B : Int) - (Y : Int) = ((X - B - Y : Nat) : Int)) := by
  unfold wrap64
  refine ⟨by omega, by omega, by omega, by omega, fun h => by omega, fun h => by omega⟩
theorem minus_loop (x y : Nat) (h : y ≤ x) (hx : Dig.nd x ≤ 1000000000) (d : Nat) : ∀ (i k : Nat), Dig.nd x - i = d → i ≤ Dig.nd x → d + Dig.nd x + 2 < k →
    spec_Minus.l0 k (Dig.dg x) (Dig.dg y) (Dig.digs i (x - y)) (bin x y i : Int) (Dig.nd x : Int) (i : Int) = some (Dig.dg (x - y)) := by
  induction d with
  | zero =>
    intro i k hd hi hk
    obtain rfl : i = Dig.nd x := by omega
    obtain ⟨k, rfl⟩ : ∃ q, k = q + 1 := ⟨k - 1, by omega⟩
    have hlt : x - y < 65536 ^ Dig.nd x := Nat.lt_of_le_of_lt (Nat.sub_le _ _) (Dig.lt_nd x)
    rw [spec_Minus.l0, if_neg (by omega), bnd (trim_digs (Dig.nd x) (x - y) k hlt (by omega) (by omega))]
  | succ d ih =>
    intro i k hd hi hk
    obtain ⟨k, rfl⟩ : ∃ q, k = q + 1 := ⟨k - 1, by omega⟩
    have g := ih (i + 1) k (by omega) (by omega) (by omega)
    have e2 : wrap64 ((i : Int) + 1) = ((i + 1 : Nat) : Int) := wadd i 1 (by omega)
    have hs := sub_div x y i h
    have hX : x / 65536 ^ i % 65536 < 65536 := Nat.mod_lt _ (by decide)
    have hY : y / 65536 ^ i % 65536 < 65536 := Nat.mod_lt _ (by decide)
    have hB := bin_le x y i
    have zY : Dig.nd y ≤ i → y / 65536 ^ i % 65536 = 0 := fun h => by rw [Dig.dig_beyond h]
    rw [Dig.digs_succ, bin_succ] at g
    have dg1 : x / 65536 ^ i % 65536 < y / 65536 ^ i % 65536 + bin x y i → (x - y) / 65536 ^ i % 65536 = x / 65536 ^ i % 65536 + 65536 - bin x y i - y / 65536 ^ i % 65536 := by
      clear ih g; omega
    have dg2 : ¬ x / 65536 ^ i % 65536 < y / 65536 ^ i % 65536 + bin x y i → (x - y) / 65536 ^ i % 65536 = x / 65536 ^ i % 65536 - bin x y i - y / 65536 ^ i % 65536 := by
      clear ih g; omega
    clear hs
    rw [spec_Minus.l0, e2]
    simp only [Dig.dg_len, rd_dg, Dig.digs_len]
    rw [if_pos (by omega), if_pos (by omega), if_pos (by omega)]
    clear ih e2
    generalize x / 65536 ^ i % 65536 = X at *
    generalize y / 65536 ^ i % 65536 = Y at *
    generalize (x - y) / 65536 ^ i % 65536 = D at *
    generalize bin x y i = B at *
    by_cases hy : i < Dig.nd y
    · obtain ⟨w1, w2, c1, _, v1, v2⟩ := minus_nums X Y B hX hY hB
      rw [if_pos (by omega), w1, w2]
      by_cases hc : X < Y + B
      · rw [if_pos (c1.2 hc), if_pos (by omega), v1 hc]
        rw [if_pos hc, dg1 hc] at g
        exact g
      · rw [if_neg (fun h' => hc (c1.1 h')), if_pos (by omega), v2 hc]
        rw [if_neg hc, dg2 hc] at g
        exact g
    · have := zY (by omega)
      subst this
      obtain ⟨w1, w2, c1, _, v1, v2⟩ := minus_nums X 0 B hX (by decide) hB
      have e0 : (X : Int) - (B : Int) - ((0 : Nat) : Int) = (X : Int) - (B : Int) := by simp
      rw [e0] at c1 v1 v2
      rw [if_neg (by omega), w1]
      by_cases hc : X < 0 + B
      · rw [if_pos (c1.2 hc), if_pos (by omega), v1 hc]
        rw [if_pos hc, dg1 hc] at g
        exact g
      · rw [if_neg (fun h' => hc (c1.1 h')), if_pos (by omega), v2 hc]
        rw [if_neg hc, dg2 hc] at g
        exact g
theorem minus_law (x y k : Nat) (h : y ≤ x) (hx : Dig.nd x ≤ 1000000000) (hk : 2 * Dig.nd x + 2 < k) : spec_Minus.f k (Dig.dg x) (Dig.dg y) = some (Dig.dg (x - y)) := by
  unfold spec_Minus.f
  rw [Dig.dg_len]
  have := minus_loop x y h hx _ 0 k rfl (by omega) (by omega)
  have c0 : bin x y 0 = 0 := by simp [bin, Nat.mod_one]
  rw [c0] at this
  exact this
end Go.Proofs.YtiifnofghicnaaaDoor.PAll
