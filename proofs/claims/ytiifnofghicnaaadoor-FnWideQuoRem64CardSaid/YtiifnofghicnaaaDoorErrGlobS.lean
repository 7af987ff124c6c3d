/- What the rows' condition says of gobits' variables: that for a division by 0 holds an error. -/
import Derived.Test.YtiifnofghicnaaaDoorQAllx4
import Derived.Test.YtiifnofghicnaaaDoorRows
import Derived.LaidLaws
import Derived.MakeChecks
import Derived.LaidHandle
namespace Go.Proofs.YtiifnofghicnaaaDoor.PAll
open Go.RowKit Go.Proofs.YtiifnofghicnaaaDoorW.PrintWords Go.Proofs.YtiifnofghicnaaaDoorW.PrintLast Go.Proofs.YtiifnofghicnaaaDoorW.PrintMore
theorem gOver : Tryd.prog.globalNamed "pub-hashloom/pub/gobits.overflowError" = some 4 := by kernel_rfl
theorem gDiv : Tryd.prog.globalNamed "pub-hashloom/pub/gobits.divideError" = some 3 := by kernel_rfl
theorem tDiv : (Tryd.prog.globals[3]?).map (·.type) = some 103 := by kernel_rfl
theorem star : ("*" : String) ++ "errors.errorString" = "*errors.errorString" := by decide
theorem row_err (u : TypeId) (h : Tryd.prog.typeName? 3 u = some "*errors.errorString") : u = 104 :=
  typeName_ptr_named (nm := "errors.errorString") (by rw [star]; kernel_rfl) (by kernel_rfl) (by decide) u (by rw [star]; exact h)
theorem globE_of {W : World} (h : laidMetH Tryd.prog Rows.fnWideQuoRem64Row.laid W) : GlobE W := by
  rw [MakeChecks.laidMetH_plain _ _ _ (by kernel_rfl)] at h
  obtain ⟨ps, ⟨g1, t1, cs1, f1, p1, q1, hg1, ht1, hv1, hd1, ⟨g0, t0, cs0, f0, p0, q0, hg0, ht0, hv0, hd0, _, _⟩, _⟩, _, _⟩ := h
  obtain rfl := Option.some.inj (gDiv.symm.trans hg0)
  obtain rfl := Option.some.inj (tDiv.symm.trans ht0)
  obtain ⟨f, u, v, hc, hn, _⟩ := iface_of_trod Tryd.underlying103 hd0
  obtain rfl := row_err u hn
  obtain ⟨l⟩ := cs0
  obtain rfl : l = [.iface 104 v] := hc
  exact ⟨v, by simpa using World.var?_cell hg0 hv0 0⟩
end Go.Proofs.YtiifnofghicnaaaDoor.PAll
