/- spec.Compare is a comparison of whole numbers: a plain law on the printed function. -/
import Derived.Test.YtiifnofghicnaaaDoorBase
import Derived.Test.YtiifnofghicnaaaDoorQAllx1
namespace Go.Proofs.YtiifnofghicnaaaDoor.PAll
open Go.RowKit Go.Proofs.YtiifnofghicnaaaDoorW.PrintWords Go.Proofs.YtiifnofghicnaaaDoorW.PrintLast Go.Proofs.YtiifnofghicnaaaDoorW.PrintMore
theorem dg_rd (m i : Nat) : rd (Dig.dg m) (i : Int) = ((m / 65536 ^ i % 65536 : Nat) : Int) := by
  unfold rd
  rw [Int.toNat_natCast, Dig.dg_getD]
/-- From digit j - 1 down: the numbers agree from j on. -/
theorem cmp_loop (m n : Nat) (hl : Dig.nd m = Dig.nd n) (hb : Dig.nd m < 4611686018427387904) (j : Nat) : ∀ k, j < k → j ≤ Dig.nd m → m / 65536 ^ j = n / 65536 ^ j →
    spec_Compare.l0 k (Dig.dg m) (Dig.dg n) (wrap64 ((j : Int) - 1)) = some (if m < n then -1 else if n < m then 1 else 0) := by
  induction j with
  | zero =>
    intro k hk _ he
    obtain ⟨k, rfl⟩ : ∃ q, k = q + 1 := ⟨k - 1, by omega⟩
    have : wrap64 (((0 : Nat) : Int) - 1) = -1 := by simp [wrap64]
    simp only [spec_Compare.l0, this]
    simp at he
    subst he
    simp
  | succ j ih =>
    intro k hk hj he
    obtain ⟨k, rfl⟩ : ∃ q, k = q + 1 := ⟨k - 1, by omega⟩
    have hw : wrap64 (((j + 1 : Nat) : Int) - 1) = (j : Int) := by unfold wrap64; omega
    simp only [spec_Compare.l0, hw, Dig.dg_len, dg_rd]
    rw [if_pos (by omega), if_pos (by omega), if_pos (by omega), if_pos (by omega)]
    have hp : 0 < 65536 ^ j := Nat.pow_pos (by decide)
    have e1 : m / 65536 ^ (j + 1) = m / 65536 ^ j / 65536 := by rw [Nat.pow_succ, Nat.div_div_eq_div_mul]
    have e2 : n / 65536 ^ (j + 1) = n / 65536 ^ j / 65536 := by rw [Nat.pow_succ, Nat.div_div_eq_div_mul]
    rw [e1, e2] at he
    by_cases hq : m / 65536 ^ j = n / 65536 ^ j
    · rw [if_pos (by rw [hq])]
      exact ih k (by omega) (by omega) hq
    · rw [if_neg (by omega)]
      rcases Nat.lt_or_ge (m / 65536 ^ j) (n / 65536 ^ j) with h | h
      · have hmn : m < n := by
          rcases Nat.lt_or_ge m n with h' | h'
          · exact h'
          · have := Nat.div_le_div_right (c := 65536 ^ j) h'
            omega
        rw [if_pos (by omega), if_pos hmn]
      · have hmn : n < m := by
          rcases Nat.lt_or_ge n m with h' | h'
          · exact h'
          · have := Nat.div_le_div_right (c := 65536 ^ j) h'
            omega
        rw [if_neg (by omega), if_neg (by omega), if_pos hmn]
def cmpN (m n : Nat) : Int := if m < n then -1 else if n < m then 1 else 0
theorem compare_law (m n k : Nat) (hm : Dig.nd m < k) (_hk : k < 4611686018427387904) (hn : Dig.nd n < 4611686018427387904) : spec_Compare.f k (Dig.dg m) (Dig.dg n) = some (cmpN m n) := by
  unfold spec_Compare.f cmpN
  rw [Dig.dg_len, Dig.dg_len]
  by_cases h : Dig.nd m = Dig.nd n
  · rw [if_pos (by omega)]
    exact cmp_loop m n h (by omega) (Dig.nd m) k hm (Nat.le_refl _) (by rw [Dig.dig_beyond (Nat.le_refl _), Dig.dig_beyond (by omega)])
  · rw [if_neg (by omega)]
    rcases Nat.lt_or_ge (Dig.nd m) (Dig.nd n) with h1 | h1
    · have : m < n := by
        rcases Nat.lt_or_ge m n with h' | h'
        · exact h'
        · have := Dig.nd_mono h'; omega
      rw [if_pos (by omega), if_pos this]
    · have : n < m := by
        rcases Nat.lt_or_ge n m with h' | h'
        · exact h'
        · have := Dig.nd_mono h'; omega
      rw [if_neg (by omega), if_neg (by omega), if_pos this]
end Go.Proofs.YtiifnofghicnaaaDoor.PAll
