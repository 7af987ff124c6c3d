/- Where too few octets are there: PutUint64, PutBytes, PutBytesBE panic. Printed by gen/bydie.py. -/
import Derived.Test.YtiifnofghicnaaaByPut
import Derived.RegionDies
import Derived.Laws.PanicsMore
namespace Go.Proofs.Ytiifnofghicnaaa.BAll
open Go.RowKit Go.Proofs.YtiifnofghicnaaaW.PrintWords Go.Proofs.YtiifnofghicnaaaW.PrintLast Go.Proofs.YtiifnofghicnaaaW.PrintMore
set_option linter.unusedVariables false
set_option linter.unusedSimpArgs false
theorem drew_below (n : Nat) (w : World) : Below n w w.drew := (Below.refl n w).drew
/-- The panic of a bound that is not kept; memory is as it was. -/
theorem dies_bounds {α : Type} (k : IntKind) (x y : Int) (code : BoundsCode) (w : World) :
    ∃ pv w', (boundsPanic k x y code : Sem α).run Try.prog w = .halt (.panic (.iface Try.prog.rt.boundsError pv)) w' ∧ (∀ n, Below n w w') := by
  unfold boundsPanic
  split
  · refine ⟨_, _, by simp [runtimePanic, goPanic, go_sem]; rfl, fun n => drew_below n w⟩
  · refine ⟨_, _, by simp [runtimePanic, goPanic, go_sem]; rfl, fun n => Below.refl n w⟩
theorem index_dies (t : TypeId) (ht : Try.prog.underlying t = some (.slice (Try.prog.elem t))) (a0 : Option Addr) (len cap : Nat) (i : Int) (hnil : a0 = none → len = 0) (ho : (len : Int) ≤ i) (w : World) :
    ∃ pv w', (Instr.indexAt t (.slice a0 len cap) (.int .i64 i)).run Try.prog w = .halt (.panic (.iface Try.prog.rt.boundsError pv)) w' ∧ (∀ n, Below n w w') := by
  cases a0 with
  | some a =>
    rw [run_indexAt_slice (h := ht), if_neg (by omega)]
    exact dies_bounds _ _ _ _ w
  | none =>
    obtain rfl := hnil rfl
    have e : (Instr.indexAt t (.slice none 0 cap) (.int .i64 i)).run Try.prog w = (boundsPanic .i64 i 0 .index).run Try.prog w := by
      simp [Instr.indexAt, run_underlying ht, asIntOf]
    rw [e]
    exact dies_bounds _ _ _ _ w
theorem bound_dies (i : Int) (y : Nat) (code : BoundsCode) (ho : (y : Int) < i) (w : World) :
    ∃ pv w', (Instr.sliceBound (.int .i64 i) y code).run Try.prog w = .halt (.panic (.iface Try.prog.rt.boundsError pv)) w' ∧ (∀ n, Below n w w') := by
  have hn : ¬ (0 ≤ i ∧ i ≤ (y : Int)) := by omega
  have e1 : (Instr.sliceBound (.int .i64 i) y code).run Try.prog w = (boundsPanic .i64 i y code).run Try.prog w := by
    simp [Instr.sliceBound, asIntOf, hn, go_sem]
  rw [e1]
  exact dies_bounds _ _ _ _ w
theorem to_dies (t e : TypeId) (ht : Try.prog.underlying t = some (.slice e)) (a : Option Addr) (len cap : Nat) (h : Int) (ho : (cap : Int) < h) (w : World) :
    ∃ pv w', (Instr.slice t (.slice a len cap) none (some (.int .i64 h)) none).run Try.prog w = .halt (.panic (.iface Try.prog.rt.boundsError pv)) w' ∧ (∀ n, Below n w w') := by
  obtain ⟨pv, w', e, hb⟩ := bound_dies h cap .sliceAcap ho w
  refine ⟨pv, w', run_slice_of_bounds t _ a len cap _ _ _ ht ?_, hb⟩
  simp [Instr.sliceBounds, e]
theorem from_dies (t e : TypeId) (ht : Try.prog.underlying t = some (.slice e)) (a : Option Addr) (len cap : Nat) (l : Int) (ho : (len : Int) < l) (w : World) :
    ∃ pv w', (Instr.slice t (.slice a len cap) (some (.int .i64 l)) none none).run Try.prog w = .halt (.panic (.iface Try.prog.rt.boundsError pv)) w' ∧ (∀ n, Below n w w') := by
  obtain ⟨pv, w', e, hb⟩ := bound_dies l len .sliceB ho w
  refine ⟨pv, w', run_slice_of_bounds t _ a len cap _ _ _ ht ?_, hb⟩
  simp [Instr.sliceBounds, e]
theorem ht8 : Try.prog.underlying 54 = some (.slice (Try.prog.elem 54)) := by simp [Program.elem, Try.underlying54]
set_option maxHeartbeats 1000000 in
set_option maxRecDepth 100000 in
theorem leP_no (A : Option Addr) (n c : Nat) (v : Int) (hnil : A = none → n = 0) (hn : n < 8) (w : World) :
    Calls Try.prog 138 #[.agg #[], .slice A n c, .int .u64 v] w fun e w' => (∃ pv, e = .panicked [{ v := .iface Try.prog.rt.boundsError pv, recovered := false }]) ∧ Below w.heap.size w w' := by
  have B0 : Below w.heap.size w (w.alloc (.cells #[] 90)) := (Below.refl _ _).alloc (Nat.le_refl _) _
  obtain ⟨pv, w2, hi, hb⟩ := index_dies 54 ht8 A n c 7 hnil (by omega) (w.alloc (.cells #[] 90))
  have B2 := Lib.hid (B0.trans (hb _))
  clear B0 hb hnil hn
  go_enter Try.func138, Try.ntmps138
  go_wp2_with fail
  exact ⟨rfl, ⟨_, rfl⟩, B2.out⟩
set_option maxHeartbeats 1000000 in
set_option maxRecDepth 100000 in
theorem beP_no (A : Option Addr) (n c : Nat) (v : Int) (hnil : A = none → n = 0) (hn : n < 8) (w : World) :
    Calls Try.prog 137 #[.agg #[], .slice A n c, .int .u64 v] w fun e w' => (∃ pv, e = .panicked [{ v := .iface Try.prog.rt.boundsError pv, recovered := false }]) ∧ Below w.heap.size w w' := by
  have B0 : Below w.heap.size w (w.alloc (.cells #[] 88)) := (Below.refl _ _).alloc (Nat.le_refl _) _
  obtain ⟨pv, w2, hi, hb⟩ := index_dies 54 ht8 A n c 7 hnil (by omega) (w.alloc (.cells #[] 88))
  have B2 := Lib.hid (B0.trans (hb _))
  clear B0 hb hnil hn
  go_enter Try.func137, Try.ntmps137
  go_wp2_with fail
  exact ⟨rfl, ⟨_, rfl⟩, B2.out⟩
end Go.Proofs.Ytiifnofghicnaaa.BAll
