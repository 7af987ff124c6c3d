/- spec.Product is a product of whole numbers: a plain law on the printed function. -/
import Derived.Test.YtiifnofghicnaaaPlusLaw
import Derived.Test.YtiifnofghicnaaaQAllx14
namespace Go.Proofs.Ytiifnofghicnaaa.PAll
open Go.RowKit Go.Proofs.YtiifnofghicnaaaW.PrintWords Go.Proofs.YtiifnofghicnaaaW.PrintLast Go.Proofs.YtiifnofghicnaaaW.PrintMore
/-- A number with another digit at q. -/
def putd (V q d : Nat) : Nat := 65536 ^ q * (65536 * (V / 65536 ^ q / 65536) + d) + V % 65536 ^ q
theorem putd_val (V q d : Nat) : putd V q d + 65536 ^ q * (V / 65536 ^ q % 65536) = V + 65536 ^ q * d := by
  unfold putd
  have h1 := Nat.mod_add_div V (65536 ^ q)
  have h2 : V / 65536 ^ q = 65536 * (V / 65536 ^ q / 65536) + V / 65536 ^ q % 65536 := (Nat.div_add_mod _ _).symm
  generalize hu : V % 65536 ^ q = u at *
  generalize hv : V / 65536 ^ q = v at *
  generalize ha : v / 65536 = a at *
  generalize ho : v % 65536 = o at *
  subst h2
  generalize 65536 ^ q = P at *
  rw [Nat.mul_add] at h1 ⊢
  generalize P * (65536 * a) = s at *
  omega
theorem digs_put (n V q d : Nat) (_hq : q < n) (hd : d < 65536) : (Dig.digs n V).set q (d : Int) = Dig.digs n (putd V q d) := by
  have hp : 0 < 65536 ^ q := Nat.pow_pos (by decide)
  have hm := Nat.mod_lt V hp
  apply Dig.digs_ext (by rw [List.length_set, Dig.digs_len])
  intro t ht
  rw [List.getElem?_set]
  by_cases h : q = t
  · subst h
    rw [if_pos rfl, Dig.digs_len, if_pos ht]
    unfold putd
    rw [Nat.mul_add_div hp, Nat.div_eq_of_lt hm]
    congr 2
    omega
  · rw [if_neg h, Dig.digs_get _ _ _ ht]
    congr 2
    rcases Nat.lt_or_ge t q with h1 | h1
    · rw [← Dig.dig_mod V t q h1, ← Dig.dig_mod (putd V q d) t q h1]
      unfold putd
      rw [Nat.mul_add_mod, Nat.mod_mod]
    · obtain ⟨s, rfl⟩ : ∃ s, t = q + 1 + s := ⟨t - q - 1, by omega⟩
      have e : ∀ x : Nat, x / 65536 ^ (q + 1 + s) = x / 65536 ^ q / 65536 / 65536 ^ s := fun x => by rw [Nat.pow_add, Nat.pow_succ, Nat.div_div_eq_div_mul, Nat.div_div_eq_div_mul, Nat.mul_assoc]
      rw [e, e]
      congr 2
      unfold putd
      rw [Nat.mul_add_div hp, Nat.div_eq_of_lt hm]
      omega
theorem prod_nums (X Y o c : Nat) (hX : X < 65536) (hY : Y < 65536) (ho : o < 65536) (hc : c < 65536) :
    Go.bits .and .i64 (wrap64 ((c : Int) + wrap64 ((o : Int) + wrap64 ((X : Int) * (Y : Int))))) 65535 = (((c + o + X * Y) % 65536 : Nat) : Int) ∧
    wrap64 ((c : Int) + wrap64 ((o : Int) + wrap64 ((X : Int) * (Y : Int)))) / 65536 = (((c + o + X * Y) / 65536 : Nat) : Int) ∧ (c + o + X * Y) / 65536 < 65536 := by
  have hp : X * Y ≤ 65535 * 65535 := Nat.mul_le_mul (by omega) (by omega)
  have e1 : (X : Int) * (Y : Int) = ((X * Y : Nat) : Int) := by simp
  rw [e1]
  generalize X * Y = p at *
  have w1 : wrap64 ((p : Nat) : Int) = (p : Int) := by unfold wrap64; omega
  have e2 : c + o + p = c + (o + p) := by omega
  rw [w1, wadd o p (by omega), wadd c (o + p) (by omega), and_ffff _ (by omega), div_cast, e2]
  exact ⟨rfl, rfl, by omega⟩
theorem putd_step (V q c s o W : Nat) (ho : V / 65536 ^ q % 65536 = o) (hW : V + 65536 ^ q * c = W) (hs : o + c ≤ s) : putd V q (s % 65536) + 65536 ^ (q + 1) * (s / 65536) = W + 65536 ^ q * (s - o - c) := by
  have h1 := putd_val V q (s % 65536)
  rw [ho] at h1
  have h2 : 65536 ^ (q + 1) * (s / 65536) = 65536 ^ q * (65536 * (s / 65536)) := by rw [Nat.pow_succ, Nat.mul_assoc]
  rw [h2]
  generalize 65536 ^ q = P at *
  have h3 : P * (s % 65536) + P * (65536 * (s / 65536)) = P * s := by rw [← Nat.mul_add, Nat.add_comm, Nat.div_add_mod]
  have h4 : P * s = P * o + P * c + P * (s - o - c) := by rw [← Nat.mul_add, ← Nat.mul_add]; congr 1; omega
  omega
theorem sub_aux (c o p : Nat) : c + o + p - o - c = p := by omega
theorem mod_next (y j : Nat) : y % 65536 ^ (j + 1) = y % 65536 ^ j + 65536 ^ j * (y / 65536 ^ j % 65536) := by rw [Nat.pow_succ, Nat.mod_mul]
theorem ind_facts (na ny i j : Nat) (hna : na ≤ 1000000) (hny : ny ≤ 1000000) (hi : i < na) (hj : j < ny) :
    i + j < 9223372036854775808 ∧ j + 1 < 9223372036854775808 ∧ (j : Int) < (ny : Int) ∧ (0 : Int) ≤ (j : Int) ∧ (0 : Int) ≤ ((i + j : Nat) : Int) ∧ ((i + j : Nat) : Int) < ((na + ny : Nat) : Int) := by
  refine ⟨?_, ?_, ?_, ?_, ?_, ?_⟩ <;> omega
theorem l1_take (k na ny i j c X Y o : Nat) (bl zl al : List Int) (la : Int) (hb : bl.length = ny) (hz : zl.length = na + ny) (hna : na ≤ 1000000) (hny : ny ≤ 1000000) (hi : i < na) (hj : j < ny)
    (hX : X < 65536) (hY : Y < 65536) (ho : o < 65536) (hc : c < 65536) (hrb : rd bl (j : Int) = (Y : Int)) (hrz : rd zl ((i + j : Nat) : Int) = (o : Int)) :
    spec_Product.l1 (k + 1) bl zl (i : Int) (X : Int) (c : Int) al la (i : Int) bl (ny : Int) (j : Int)
      = spec_Product.l1 k bl (zl.set (i + j) (((c + o + X * Y) % 65536 : Nat) : Int)) (i : Int) (X : Int) (((c + o + X * Y) / 65536 : Nat) : Int) al la (i : Int) bl (ny : Int) ((j + 1 : Nat) : Int) := by
  obtain ⟨g1, g2, f1, f2, f3, f5⟩ := ind_facts na ny i j hna hny hi hj
  have w1 : wrap64 ((i : Int) + (j : Int)) = ((i + j : Nat) : Int) := wadd _ _ g1
  have w2 : wrap64 ((j : Int) + 1) = ((j + 1 : Nat) : Int) := wadd j 1 g2
  obtain ⟨n1, n2, n3⟩ := prod_nums X Y o c hX hY ho hc
  rw [spec_Product.l1, if_pos f1, if_pos f2, hb, if_pos f1, w1, w2, if_pos f3, hz, if_pos f5, hrz, hrb, n1, n2, Int.toNat_natCast]
theorem next_val (a y V c i j : Nat) (hV : V + 65536 ^ (i + j) * c = a % 65536 ^ i * y + 65536 ^ i * (a / 65536 ^ i % 65536 * (y % 65536 ^ j))) :
    putd V (i + j) ((c + V / 65536 ^ (i + j) % 65536 + a / 65536 ^ i % 65536 * (y / 65536 ^ j % 65536)) % 65536) + 65536 ^ (i + (j + 1)) * ((c + V / 65536 ^ (i + j) % 65536 + a / 65536 ^ i % 65536 * (y / 65536 ^ j % 65536)) / 65536)
      = a % 65536 ^ i * y + 65536 ^ i * (a / 65536 ^ i % 65536 * (y % 65536 ^ (j + 1))) := by
  have hs := putd_step V (i + j) c (c + V / 65536 ^ (i + j) % 65536 + a / 65536 ^ i % 65536 * (y / 65536 ^ j % 65536)) _ _ rfl hV (by rw [Nat.add_comm _ c]; exact Nat.le_add_right _ _)
  rw [← Nat.add_assoc, hs, sub_aux, mod_next y j]
  generalize V / 65536 ^ (i + j) % 65536 = o
  rw [Nat.pow_add]
  generalize 65536 ^ i = p
  generalize 65536 ^ j = q
  generalize a / p % 65536 = u
  generalize y / q % 65536 = v
  generalize y % q = t
  rw [Nat.mul_add, Nat.mul_add, Nat.mul_left_comm u q v, Nat.mul_assoc p q, Nat.add_assoc]
section
variable (a y : Nat) (ha : Dig.nd a ≤ 1000000) (hy : Dig.nd y ≤ 1000000)
include ha hy
theorem prod_inner (i : Nat) (hi : i < Dig.nd a) (F : Nat)
    (next : ∀ k, F < k → spec_Product.l0 k (Dig.dg y) (Dig.digs (Dig.nd a + Dig.nd y) (a % 65536 ^ (i + 1) * y)) (Dig.dg a) (Dig.nd a : Int) ((i + 1 : Nat) : Int) = some (Dig.dg (a * y))) (e : Nat) :
    ∀ (j k V c : Nat), Dig.nd y - j = e → j ≤ Dig.nd y → c < 65536 → F + e + 1 < k → V + 65536 ^ (i + j) * c = a % 65536 ^ i * y + 65536 ^ i * (a / 65536 ^ i % 65536 * (y % 65536 ^ j)) →
      spec_Product.l1 k (Dig.dg y) (Dig.digs (Dig.nd a + Dig.nd y) V) (i : Int) ((a / 65536 ^ i % 65536 : Nat) : Int) (c : Int) (Dig.dg a) (Dig.nd a : Int) (i : Int) (Dig.dg y) (Dig.nd y : Int) (j : Int) = some (Dig.dg (a * y)) := by
  induction e with
  | zero =>
    intro j k V c he hj hc hk
    obtain rfl : j = Dig.nd y := by omega
    obtain ⟨k, rfl⟩ : ∃ q, k = q + 1 := ⟨k - 1, by omega⟩
    have w1 : wrap64 ((i : Int) + ((Dig.nd y : Nat) : Int)) = ((i + Dig.nd y : Nat) : Int) := wadd _ _ (by omega)
    have w2 : wrap64 ((i : Int) + 1) = ((i + 1 : Nat) : Int) := wadd i 1 (by omega)
    have f1 : ¬ ((Dig.nd y : Nat) : Int) < ((Dig.nd y : Nat) : Int) := by omega
    have f3 : (0 : Int) ≤ ((i + Dig.nd y : Nat) : Int) := by omega
    have f4 : i + Dig.nd y < Dig.nd a + Dig.nd y := by omega
    have f5 : ((i + Dig.nd y : Nat) : Int) < ((Dig.nd a + Dig.nd y : Nat) : Int) := by omega
    have f8 : F < k := by omega
    intro hV
    rw [Nat.mod_eq_of_lt (Dig.lt_nd y)] at hV
    have hT : a % 65536 ^ i * y + 65536 ^ i * (a / 65536 ^ i % 65536 * y) = a % 65536 ^ (i + 1) * y := by
      rw [mod_next, Nat.add_mul, Nat.mul_assoc]
    rw [hT] at hV
    have hlt : a % 65536 ^ (i + 1) * y < 65536 ^ (i + Dig.nd y) * 65536 := by
      have h1 : a % 65536 ^ (i + 1) < 65536 ^ (i + 1) := Nat.mod_lt _ (Nat.pow_pos (by decide))
      have h2 := Dig.lt_nd y
      have h3 := Nat.mul_lt_mul'' h1 h2
      have h4 : 65536 ^ (i + 1) * 65536 ^ Dig.nd y = 65536 ^ (i + Dig.nd y) * 65536 := by
        rw [Nat.pow_succ, Nat.pow_add]
        generalize 65536 ^ i = p
        generalize 65536 ^ Dig.nd y = q
        rw [Nat.mul_assoc, Nat.mul_comm 65536 q, Nat.mul_assoc]
      rw [← h4]
      exact h3
    have hp : 0 < 65536 ^ (i + Dig.nd y) := Nat.pow_pos (by decide)
    have hq : V / 65536 ^ (i + Dig.nd y) + c < 65536 := by
      have h1 : (V + 65536 ^ (i + Dig.nd y) * c) / 65536 ^ (i + Dig.nd y) = V / 65536 ^ (i + Dig.nd y) + c := Nat.add_mul_div_left _ _ hp
      rw [← h1, hV]
      exact Nat.div_lt_of_lt_mul hlt
    have ho : V / 65536 ^ (i + Dig.nd y) % 65536 = V / 65536 ^ (i + Dig.nd y) := Nat.mod_eq_of_lt (Nat.lt_of_le_of_lt (Nat.le_add_right _ _) hq)
    have hput : putd V (i + Dig.nd y) (V / 65536 ^ (i + Dig.nd y) + c) = a % 65536 ^ (i + 1) * y := by
      have := putd_val V (i + Dig.nd y) (V / 65536 ^ (i + Dig.nd y) + c)
      rw [ho, Nat.mul_add, Nat.add_comm (65536 ^ (i + Dig.nd y) * (V / 65536 ^ (i + Dig.nd y))), ← Nat.add_assoc, hV] at this
      exact Nat.add_right_cancel this
    have hrd : rd (Dig.digs (Dig.nd a + Dig.nd y) V) ((i + Dig.nd y : Nat) : Int) = ((V / 65536 ^ (i + Dig.nd y) : Nat) : Int) := by
      unfold rd
      rw [Int.toNat_natCast, Dig.digs_getD, if_pos f4, ho]
    rw [spec_Product.l1, if_neg f1, Dig.dg_len, w1, w2, if_pos f3, Dig.digs_len, if_pos f5, hrd, wadd _ _ (Nat.lt_trans hq (by decide)), Int.toNat_natCast, digs_put _ _ _ _ f4 hq, hput]
    exact next k f8
  | succ e ih =>
    intro j k V c he hj hc hk
    obtain ⟨k, rfl⟩ : ∃ q, k = q + 1 := ⟨k - 1, by omega⟩
    have f4 : i + j < Dig.nd a + Dig.nd y := by omega
    have f6 : Dig.nd y - (j + 1) = e := by omega
    have f7 : j + 1 ≤ Dig.nd y := by omega
    have f8 : F + e + 1 < k := by omega
    have f9 : j < Dig.nd y := by omega
    intro hV
    have hX : a / 65536 ^ i % 65536 < 65536 := Nat.mod_lt _ (by decide)
    have hY : y / 65536 ^ j % 65536 < 65536 := Nat.mod_lt _ (by decide)
    have ho : V / 65536 ^ (i + j) % 65536 < 65536 := Nat.mod_lt _ (by decide)
    have hrd : rd (Dig.digs (Dig.nd a + Dig.nd y) V) ((i + j : Nat) : Int) = ((V / 65536 ^ (i + j) % 65536 : Nat) : Int) := by
      unfold rd
      rw [Int.toNat_natCast, Dig.digs_getD, if_pos f4]
    have hrb : rd (Dig.dg y) (j : Int) = ((y / 65536 ^ j % 65536 : Nat) : Int) := rd_dg _ _
    rw [l1_take k (Dig.nd a) (Dig.nd y) i j c _ _ _ (Dig.dg y) (Dig.digs (Dig.nd a + Dig.nd y) V) (Dig.dg a) _ (Dig.dg_len y) (Dig.digs_len _ _) ha hy hi f9 hX hY ho hc hrb hrd]
    have n3 := (prod_nums _ _ _ c hX hY ho hc).2.2
    rw [digs_put _ _ _ _ f4 (Nat.mod_lt _ (by decide))]
    exact ih (j + 1) k _ _ f6 f7 n3 f8 (next_val _ _ _ _ _ _ hV)
theorem prod_outer (d : Nat) : ∀ (i k : Nat), Dig.nd a - i = d → i ≤ Dig.nd a → d * (Dig.nd y + 4) + Dig.nd a + Dig.nd y + 10 < k →
    spec_Product.l0 k (Dig.dg y) (Dig.digs (Dig.nd a + Dig.nd y) (a % 65536 ^ i * y)) (Dig.dg a) (Dig.nd a : Int) (i : Int) = some (Dig.dg (a * y)) := by
  induction d with
  | zero =>
    intro i k hd hi hk
    obtain rfl : i = Dig.nd a := by omega
    obtain ⟨k, rfl⟩ : ∃ q, k = q + 1 := ⟨k - 1, by omega⟩
    have hlt : a * y < 65536 ^ (Dig.nd a + Dig.nd y) := by
      rw [Nat.pow_add]
      exact Nat.mul_lt_mul'' (Dig.lt_nd a) (Dig.lt_nd y)
    rw [spec_Product.l0, if_neg (by omega), Nat.mod_eq_of_lt (Dig.lt_nd a), bnd (trim_digs _ _ k hlt (by omega) (by omega))]
  | succ d ih =>
    intro i k hd hi hk
    obtain ⟨k, rfl⟩ : ∃ q, k = q + 1 := ⟨k - 1, by omega⟩
    have hsm : (d + 1) * (Dig.nd y + 4) = d * (Dig.nd y + 4) + (Dig.nd y + 4) := Nat.succ_mul _ _
    generalize hD : d * (Dig.nd y + 4) = D at *
    have := prod_inner a y ha hy i (by omega) (D + Dig.nd a + Dig.nd y + 10) (fun k hk => ih (i + 1) k (by omega) (by omega) hk) (Dig.nd y) 0 k (a % 65536 ^ i * y) 0 (by omega) (by omega) (by decide) (by omega) (by simp [Nat.mod_one])
    rw [spec_Product.l0, if_pos (by omega), if_pos (by omega), Dig.dg_len, if_pos (by omega), Dig.dg_len, rd_dg]
    exact this
theorem product_law (k : Nat) (hk : Dig.nd a * (Dig.nd y + 4) + Dig.nd a + Dig.nd y + 10 < k) : spec_Product.f k (Dig.dg a) (Dig.dg y) = some (Dig.dg (a * y)) := by
  have w1 : wrap64 (((Dig.nd a : Nat) : Int) + ((Dig.nd y : Nat) : Int)) = ((Dig.nd a + Dig.nd y : Nat) : Int) := wadd _ _ (by omega)
  have h := prod_outer a y ha hy (Dig.nd a) 0 k (by omega) (by omega) hk
  have z : List.replicate (Dig.nd a + Dig.nd y) (0 : Int) = Dig.digs (Dig.nd a + Dig.nd y) (a % 65536 ^ 0 * y) := by
    rw [Nat.pow_zero, Nat.mod_one, Nat.zero_mul]
    apply Dig.digs_ext (by simp)
    intro i hi
    simp [hi]
  unfold spec_Product.f
  rw [Dig.dg_len, Dig.dg_len, w1, if_pos (by omega), Int.toNat_natCast, if_pos (by omega), z]
  exact h
end
end Go.Proofs.Ytiifnofghicnaaa.PAll
