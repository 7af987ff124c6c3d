/- What the reference's functions answer, as whole numbers: plain laws on the printed functions. -/
import Derived.Test.YtiifnofghicnaaaDoorQAllx2
import Derived.Test.YtiifnofghicnaaaDoorQAllx3
import Derived.Test.YtiifnofghicnaaaDoorDig
namespace Go.Proofs.YtiifnofghicnaaaDoor.PAll
open Go.RowKit Go.Proofs.YtiifnofghicnaaaDoorW.PrintWords Go.Proofs.YtiifnofghicnaaaDoorW.PrintLast Go.Proofs.YtiifnofghicnaaaDoorW.PrintMore
/-- A step whose answer is known. (Not by simp: the kernel would compare what is bound by unfolding it.) -/
theorem bnd {α β : Type} {o : Option α} {x : α} (h : o = some x) (f : α → Option β) : o.bind f = f x := by
  subst h
  rfl
theorem U64.of {x : Int} (h : 0 ≤ x ∧ x ≤ 18446744073709551615) : U64 x := ⟨h.1, by have := h.2; omega⟩
theorem N128_lt {a b : Int} (ha : U64 a) (hb : U64 b) : N128 a b < 340282366920938463463374607431768211456 := by
  obtain ⟨h1, h2⟩ := ha
  obtain ⟨h3, h4⟩ := hb
  unfold N128
  omega
theorem whole_law {a b : Int} (ha : U64 a) (hb : U64 b) : laws_wideWhole.f a b = some (Dig.dg (N128 a b)) := by
  unfold laws_wideWhole.f spec_Whole.f
  rw [if_pos ⟨ha.1, ha.2, hb.1, hb.2⟩]
  rfl
theorem small_law {a : Int} (ha : U64 a) : laws_wideSmall.f a = some (Dig.dg a.toNat) := by
  unfold laws_wideSmall.f spec_Whole.f
  rw [if_pos ⟨ha.1, ha.2, by decide, by decide⟩]
  rfl
theorem nd_128 {m : Nat} (h : m < 340282366920938463463374607431768211456) : Dig.nd m ≤ 8 := Dig.nd_le (by simpa using h)
theorem nd_64 {a : Int} (ha : U64 a) : Dig.nd a.toNat ≤ 4 := Dig.nd_le (by have := ha.1; have := ha.2; omega)
end Go.Proofs.YtiifnofghicnaaaDoor.PAll
