/- The reference's product of two wide numbers. -/
import Derived.Test.YtiifnofghicnaaaProdLaw
namespace Go.Proofs.Ytiifnofghicnaaa.PAll
open Go.RowKit Go.Proofs.YtiifnofghicnaaaW.PrintWords Go.Proofs.YtiifnofghicnaaaW.PrintLast Go.Proofs.YtiifnofghicnaaaW.PrintMore
theorem prod_fuel (n m : Nat) (hn : n ≤ 8) (hm : m ≤ 8) : n * (m + 4) + n + m + 10 < 400 := by
  have := Nat.mul_le_mul hn (Nat.add_le_add_right hm 4)
  omega
theorem product_128 {x y : Nat} (hx : Dig.nd x ≤ 8) (hy : Dig.nd y ≤ 8) : spec_Product.f 400 (Dig.dg x) (Dig.dg y) = some (Dig.dg (x * y)) :=
  product_law x y (Nat.le_trans hx (by decide)) (Nat.le_trans hy (by decide)) 400 (prod_fuel _ _ hx hy)
theorem nd_prod {x y : Nat} (hx : x < 340282366920938463463374607431768211456) (hy : y < 340282366920938463463374607431768211456) : Dig.nd (x * y) ≤ 16 := by
  have h := Nat.mul_lt_mul'' hx hy
  refine Dig.nd_le (Nat.lt_of_lt_of_le h ?_)
  decide
theorem toNat_lt {c : Int} (hc : U64 c) : c.toNat < 340282366920938463463374607431768211456 := by
  have := hc.1
  have := hc.2
  omega
theorem nd_64' {c : Int} (hc : U64 c) : Dig.nd c.toNat ≤ 8 := Nat.le_trans (nd_64 hc) (by decide)
theorem fits_400 {m : Nat} (h : Dig.nd m ≤ 16) : 16 * Dig.nd m < 400 := by omega
theorem is_400 : 16 < 400 := by decide
end Go.Proofs.Ytiifnofghicnaaa.PAll
