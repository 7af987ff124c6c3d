/- FnWideConstants: the law's function answers true, if the package's variables hold what its text lays. -/
import Derived.Test.YtiifnofghicnaaaDoorCAllx3
import Derived.Test.YtiifnofghicnaaaDoorCBitLaw
import Derived.Test.YtiifnofghicnaaaDoorRows
import Derived.OpenShut
import Derived.ChangeSame
import Derived.LaidMore
import Derived.MakeChecks
namespace Go.Proofs.YtiifnofghicnaaaDoor.CAll
open Go.Proofs.YtiifnofghicnaaaDoor.PAll (U64 N128 halves)
open Go.RowKit Go.ChangeShapes Go.WideShapes Go.Proofs.YtiifnofghicnaaaDoorW.PrintWords Go.Proofs.YtiifnofghicnaaaDoorW.PrintLast Go.Proofs.YtiifnofghicnaaaDoorW.PrintMore
def maxs : List Int := [65535, 65535, 65535, 65535, 65535, 65535, 65535, 65535]
theorem two_is : spec_Two.f 128 = some [0, 0, 0, 0, 0, 0, 0, 0, 1] := by
  unfold spec_Two.f
  rw [if_pos rfl, dg_two128]
theorem minus_is : spec_Minus.f 70 [0, 0, 0, 0, 0, 0, 0, 0, 1] [1] = some maxs := by decide +kernel
theorem dg_max : Dig.dg 340282366920938463463374607431768211455 = maxs := by decide +kernel
theorem max_is : laws_wideIs.f 70 18446744073709551615 18446744073709551615 maxs = some true := by
  rw [← dg_max, is_law _ 70 _ _ (by decide)]
  decide +kernel
theorem whole_is : laws_wideWhole.f 18446744073709551615 18446744073709551615 = some maxs := by decide +kernel
theorem length_is : spec_Big_Length.f 70 maxs = some 128 := by decide +kernel
theorem const_pure : laws_FnWideConstants.Pure := by
  intro a b h1 h2
  refine ⟨70, ?_⟩
  have o : impl_WideOf.f a b = some (a, b) := rfl
  have f : impl_WideFrom.f a = some (a, 0) := rfl
  have z : impl_WideZero.f = some (0, 0) := rfl
  have m : impl_WideMax.f = some (18446744073709551615, 18446744073709551615) := rfl
  unfold laws_FnWideConstants.f
  rw [bnd o, if_pos (by simp), bnd f, if_pos (by simp), bnd z, if_pos (by decide), bnd m, bnd two_is, bnd minus_is, bnd max_is, if_pos rfl, bnd m, bnd whole_is, bnd length_is]
  rfl
/-- A variable that is a pair of whole numbers, out of what the row's condition says of it. -/
theorem pair_of {W : World} {n : String} {g : Nat} {t : TypeId} {a b : Int} {f0 f1 : Field} {cs : Array Value} {fuel : Nat} {p : List MemPlace} (hg : Tryd.prog.globalNamed n = some g) (ht : Tryd.prog.underlying t = some (.struct #[f0, f1])) (hc : Tryd.prog.cellsOf t = 2)
    (h0 : Tryd.prog.underlying f0.type = some (.int .u64)) (h1 : Tryd.prog.underlying f1.type = some (.int .u64)) (c0 : Tryd.prog.cellsOf f0.type = 1) (c1 : Tryd.prog.cellsOf f1.type = 1) (o0 : f0.offset = 0) (o1 : f1.offset = 1)
    (hv : W.var? Tryd.prog n = some cs) (hd : DataW.trod (fun _ => ()) Tryd.prog W 0 (fun _ => true) false fuel t cs.toList = some (.agg [.lit (.int .u64 a), .lit (.int .u64 b)], p)) :
    W.cell? ⟨g, 0, none⟩ = some (.int .u64 a) ∧ W.cell? ⟨g, 1, none⟩ = some (.int .u64 b) := by
  obtain ⟨y0, y1, m, e, hl, q0, q1⟩ := trod_struct2 ht hd
  rw [o0, c0] at q0
  rw [o1, c1] at q1
  obtain ⟨x0, e0, d0, _⟩ := DataW.trod_int h0 q0
  obtain ⟨x1, e1, d1, _⟩ := DataW.trod_int h1 q1
  rw [d0, d1] at e
  simp only [Prod.mk.injEq, DataW.agg.injEq, List.cons.injEq, DataW.lit.injEq, Lit.int.injEq, true_and, and_true] at e
  obtain ⟨⟨ea, eb⟩, _⟩ := e
  obtain ⟨l⟩ := cs
  rw [hc] at hl
  match l, hl with
  | [u, v], _ =>
    simp at e0 e1
    have g0 := World.var?_cell hg hv 0
    have g1 := World.var?_cell hg hv 1
    rw [g0, g1]
    subst ea eb
    constructor
    · simp [e0]
    · simp [e1]
theorem gZero : Tryd.prog.globalNamed "pub-hashloom/pub/uint128.Zero" = some 0 := by kernel_rfl
theorem gMax : Tryd.prog.globalNamed "pub-hashloom/pub/uint128.Max" = some 1 := by kernel_rfl
theorem tZero : (Tryd.prog.globals[0]?).map (·.type) = some 65 := by kernel_rfl
theorem tMax : (Tryd.prog.globals[1]?).map (·.type) = some 65 := by kernel_rfl
theorem glob_of {W : World} (h : laidMetH Tryd.prog Rows.fnWideConstantsRow.laid W) : Glob W := by
  rw [MakeChecks.laidMetH_plain _ _ _ (by kernel_rfl)] at h
  obtain ⟨ps, ⟨g0, t0, cs0, f0, p0, q0, hg0, ht0, hv0, hd0, ⟨g1, t1, cs1, f1, p1, q1, hg1, ht1, hv1, hd1, _, _⟩, _⟩, _, _⟩ := h
  obtain rfl := Option.some.inj (gZero.symm.trans hg0)
  obtain rfl := Option.some.inj (gMax.symm.trans hg1)
  obtain rfl := Option.some.inj (tZero.symm.trans ht0)
  obtain rfl := Option.some.inj (tMax.symm.trans ht1)
  exact ⟨pair_of hg0 Tryd.underlying65 (by kernel_rfl) (by kernel_rfl) (by kernel_rfl) (by kernel_rfl) (by kernel_rfl) rfl rfl hv0 hd0, pair_of hg1 Tryd.underlying65 (by kernel_rfl) (by kernel_rfl) (by kernel_rfl) (by kernel_rfl) (by kernel_rfl) rfl rfl hv1 hd1⟩
theorem const_walk (a b : Int) (h : 0 ≤ a ∧ a ≤ 18446744073709551615) (h2 : 0 ≤ b ∧ b ≤ 18446744073709551615) (w : World) (hL : laidMetH Tryd.prog Rows.fnWideConstantsRow.laid w) :
    Calls Tryd.prog 3 #[.int .u64 a, .int .u64 b] w fun e w' => e = .returned (.bool true) ∧ Below w.heap.size w w' :=
  laws_FnWideConstants.walk const_pure a b w (by simp only [Lit.wf, Bool.and_eq_true, decide_eq_true_eq]; exact h) (by simp only [Lit.wf, Bool.and_eq_true, decide_eq_true_eq]; exact h2) (glob_of hL)
end Go.Proofs.YtiifnofghicnaaaDoor.CAll
