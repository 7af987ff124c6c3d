/- Printed by the kit's print.py, called for several laws at once: functions as plain Lean, and the walks' contracts. -/
import Derived.Test.YtiifnofghicnaaaDoorQAllx0
namespace Go.Proofs.YtiifnofghicnaaaDoor.PAll
open Go.RowKit Go.Proofs.YtiifnofghicnaaaDoorW.PrintWords Go.Proofs.YtiifnofghicnaaaDoorW.PrintLast Go.Proofs.YtiifnofghicnaaaDoorW.PrintMore
attribute [local go_sem] max2_int min2_int max_two min_two max_three min_three max_four min_four   -- for this text's walks alone
set_option linter.unusedVariables false
set_option linter.unusedSimpArgs false
attribute [local go_sem high] eqA24
/-! ### impl_Wide_55: function 55 -/
theorem bcell {W w1 : World} (hb : Below W.heap.size W w1) : (∀ b o, b < W.heap.size → w1.cell? ⟨b, o, none⟩ = W.cell? ⟨b, o, none⟩) ∧ (∀ b o, b < W.heap.size → w1.frozen? ⟨b, o, none⟩ = W.frozen? ⟨b, o, none⟩) :=
  ⟨fun b o h => hb.cell (p := ⟨b, o, none⟩) h, fun b o h => hb.frozen (p := ⟨b, o, none⟩) h⟩
theorem alloc2_facts (w : World) (T : Nat) (x y : Value) : (w.alloc (.cells #[x, y] T)).cell? ⟨w.heap.size, 0, none⟩ = some x ∧ (w.alloc (.cells #[x, y] T)).cell? ⟨w.heap.size, 1, none⟩ = some y ∧
    (w.alloc (.cells #[x, y] T)).frozen? ⟨w.heap.size, 0, none⟩ = false ∧ (w.alloc (.cells #[x, y] T)).frozen? ⟨w.heap.size, 1, none⟩ = false ∧ w.heap.size < (w.alloc (.cells #[x, y] T)).heap.size ∧ Below w.heap.size w (w.alloc (.cells #[x, y] T)) := by
  refine ⟨?_, ?_, World.frozen?_alloc_at _ _ _ _ rfl, World.frozen?_alloc_at _ _ _ _ rfl, by simp, (Below.refl _ _).alloc (Nat.le_refl _) _⟩
  · rw [World.cell?_alloc_at _ _ _ _ rfl]; rfl
  · rw [World.cell?_alloc_at _ _ _ _ rfl]; rfl
/-- A call that panics, in a region that draws its order. -/
theorem pgoes_ {P : Program} {ops : Array Oper} {Q : Exit → Act → World → Prop} {oi : Oper} {N : Option Tmp} {a : Act} {w : World} {K : Act → World → Prop} {f : FuncId} {fn : Func} {as1 : Array Operand} {ts : Array TypeId} (hf : P.funcs[f]? = some fn) (hname : (fn.name == "runtime.NumGoroutine") = false) (hb : fn.body.isSome = true) (args : Array Value)
    (hw : Region.wanted oi (yielded ops a.tmps) = true) (hop : oi.op = .call { callee := .value (.func f), args := as1, argTypes := ts }) (hargs : as1.map a.eval = args)
    (h : Calls P f args w fun e w' => ∃ c, e = .panicked c ∧ Q (.panic c) a w') : if Region.wanted oi (yielded ops a.tmps) = true then Oper.wp P oi a w K Q else K (a.put N undef) w := by
  rw [if_pos hw]
  have he := enters_ hf hname hb args w
  have hrun : (execOp a.eval oi).run P w = .ok (.enter f args) w := by
    unfold execOp
    simp [hop, resolve, Deferred.ofValue, invoke, Act.eval, hargs, he]
  unfold Oper.wp
  rw [hrun, Oper.upon_enter]
  refine h.mono fun e w'' hh => ?_
  obtain ⟨c, rfl, hk⟩ := hh
  exact hk
theorem tried_idle (p q : Addr) (w : World) :
    CallsD Tryd.prog 105 #[.pointer (some p), .pointer (some q)] .returning w fun e u' w' => e = .returned (.tuple #[]) ∧ u' = .returning ∧ w' = w := by
  refine callsD_of_wpS Tryd.func105 rfl fun c₀ cs hu => ?_
  apply wpS_seq
  apply wpS_region
  simp [wpOpsS, go_sem, recoverD, hu, Tryd.ntmps105, Exit.thenS]
  refine wpS_cond (t := false) (by simp [Act.eval, Array.replicate]) ?_
  simp only [Bool.false_eq_true, if_false]
  refine wpS_of_wp (wp_skip ?_)
  cases c₀
  simp_all [bodyPostS, results, Tryd.results105]
theorem tried_catch (g : Nat) (x0 x1 : Int) (y : Bool) (u : TypeId) (pv : Value) (older : List PanicEntry) (w : World)
    (hg : w.heap[g]? = some (.cells #[.int .u64 x0, .int .u64 x1] 24 (0, 0))) (hh : w.heap[g + 1]? = some (.cells #[.bool y] 4 (0, 0))) :
    CallsD Tryd.prog 105 #[.pointer (some ⟨g, 0, none⟩), .pointer (some ⟨g + 1, 0, none⟩)] (.panicking ({ v := .iface u pv, recovered := false } :: older)) w fun e u' w' =>
      e = .returned (.tuple #[]) ∧ u' = .panicking ({ v := .iface u pv, recovered := true } :: older) ∧
      w'.heap[g]? = some (.cells #[.int .u64 0, .int .u64 0] 24 (0, 0)) ∧ w'.heap[g + 1]? = some (.cells #[.bool false] 4 (0, 0)) ∧ Below g w w' := by
  have hp0 : w.cell? ⟨g, 0, none⟩ = some (.int .u64 x0) := by rw [blk_cell hg]; rfl
  have hp1 : w.cell? ⟨g, 1, none⟩ = some (.int .u64 x1) := by rw [blk_cell hg]; rfl
  have hq : w.cell? ⟨g + 1, 0, none⟩ = some (.bool y) := by rw [blk_cell hh]; rfl
  have fp0 : w.frozen? ⟨g, 0, none⟩ = false := blk_frozen hg 0
  have fp1 : w.frozen? ⟨g, 1, none⟩ = false := blk_frozen hg 1
  have fq : w.frozen? ⟨g + 1, 0, none⟩ = false := blk_frozen hh 0
  have lg := blk_lt hg
  have lh := blk_lt hh
  have HG := Lib.hid hg
  have HH := Lib.hid hh
  clear hg hh
  refine callsD_of_wpS Tryd.func105 rfl fun c₀ cs hu => ?_
  apply wpS_seq
  apply wpS_region
  simp [wpOpsS, go_sem, recoverD, hu, Tryd.ntmps105, Exit.thenS]
  refine wpS_cond (t := true) (by simp [Act.eval, Array.replicate]) ?_
  simp only [if_true]
  refine wpS_of_wp ?_
  simp [Array.replicate]
  go_wp2
  have k0 := blk_set (blk_set HG.out 0 (.int .u64 0)) 1 (.int .u64 0)
  have k1 := blk_far (p := ⟨g + 1, 0, none⟩) k0 (by simp) (.bool false)
  have k2 := blk_far (p := ⟨g, 1, none⟩) (blk_far (p := ⟨g, 0, none⟩) HH.out (by simp) (.int .u64 0)) (by simp) (.int .u64 0)
  have k3 := blk_set k2 0 (.bool false)
  have HF : (((w.setCell ⟨g, 0, none⟩ (Value.int IntKind.u64 0)).setCell ⟨g, 1, none⟩ (Value.int IntKind.u64 0)).setCell ⟨g + 1, 0, none⟩ (Value.bool false)).heap.size = w.heap.size := by simp [World.setCell]
  have f1 := blk_alloc k1 (Obj.cells #[Value.int IntKind.u64 0, Value.int IntKind.u64 0] 24)
  have f2 := blk_alloc k3 (Obj.cells #[Value.int IntKind.u64 0, Value.int IntKind.u64 0] 24)
  have f3 : Below g w ((((w.setCell ⟨g, 0, none⟩ (Value.int IntKind.u64 0)).setCell ⟨g, 1, none⟩ (Value.int IntKind.u64 0)).setCell ⟨g + 1, 0, none⟩ (Value.bool false)).alloc (Obj.cells #[Value.int IntKind.u64 0, Value.int IntKind.u64 0] 24)) :=
    ((((Below.refl g w).setCell (p := ⟨g, 0, none⟩) (Nat.le_refl _) _).setCell (p := ⟨g, 1, none⟩) (Nat.le_refl _) _).setCell (p := ⟨g + 1, 0, none⟩) (by simp) _).alloc (by rw [HF]; omega) _
  exact ⟨rfl, _, rfl, .tuple #[], results_none rfl _ _ _, rfl, rfl, f1, f2, f3⟩
set_option maxHeartbeats 1000000 in
set_option maxRecDepth 100000 in
/-- What is tried returns. -/
theorem tried_ret (fid : Nat) (caps : Array Value) (x0 x1 : Int) (w : World)
    (hcf : ∀ (args : Array Value) (w : World), (callFunc fid args).run Tryd.prog w = .ok (.enter fid args) w)
    (hcl : Hid (∀ W : World, Below w.heap.size w W → Calls Tryd.prog fid caps W fun e W' => e = .returned (.agg #[.int .u64 x0, .int .u64 x1]) ∧ Below W.heap.size W W')) :
    Calls Tryd.prog 55 #[.func (.func fid) #[] caps] w fun e w' => e = .returned (.tuple #[.agg #[.int .u64 x0, .int .u64 x1], .bool true]) ∧ Below w.heap.size w w' := by
  have hmf : ∀ (fn : Fn) (first cap : Array Value) (w : World), (Instr.makeFunc fn first cap).run Tryd.prog w = .ok (.func fn first cap) w := fun _ _ _ _ => rfl
  go_enter_defers Tryd.func55, Tryd.ntmps55
  go_wp2_with fail
  refine (hcl.out _ (((Below.refl w.heap.size w).alloc (Nat.le_refl _) _).alloc (by simp) _)).mono ?_
  rintro e w1 ⟨rfl, hb⟩
  have g0 : w1.heap[w.heap.size]? = some (.cells #[.int .u64 0, .int .u64 0] 24 (0, 0)) := (hb.block _ (by simp; omega)).trans (blk_alloc (MapKept.heap_alloc w _).1 _)
  have g1 : w1.heap[w.heap.size + 1]? = some (.cells #[.bool false] 4 (0, 0)) := (hb.block _ (by simp)).trans (by have := (MapKept.heap_alloc (w.alloc (Obj.cells #[Value.int IntKind.u64 0, Value.int IntKind.u64 0] 24)) (Obj.cells #[Value.bool false] 4)).1; simpa using this)
  have c0 : w1.cell? ⟨w.heap.size, 0, none⟩ = some (.int .u64 0) := by rw [blk_cell g0]; rfl
  have c1 : w1.cell? ⟨w.heap.size, 1, none⟩ = some (.int .u64 0) := by rw [blk_cell g0]; rfl
  have c2 : w1.cell? ⟨w.heap.size + 1, 0, none⟩ = some (.bool false) := by rw [blk_cell g1]; rfl
  have z0 : w1.frozen? ⟨w.heap.size, 0, none⟩ = false := blk_frozen g0 0
  have z1 : w1.frozen? ⟨w.heap.size, 1, none⟩ = false := blk_frozen g0 1
  have z2 : w1.frozen? ⟨w.heap.size + 1, 0, none⟩ = false := blk_frozen g1 0
  have HB := Lib.hid hb
  have G0 := Lib.hid g0
  have G1 := Lib.hid g1
  clear hb g0 g1
  go_wp2
  have B : Below w.heap.size w w1 := (((Below.refl w.heap.size w).alloc (Nat.le_refl _) _).alloc (by simp) _).trans (HB.out.mono (by simp; omega))
  have k0 := blk_far (p := ⟨w.heap.size + 1, 0, none⟩) (blk_set (blk_set G0.out 0 (.int .u64 x0)) 1 (.int .u64 x1)) (by simp) (.bool true)
  have k1 := blk_set (blk_far (p := ⟨w.heap.size, 1, none⟩) (blk_far (p := ⟨w.heap.size, 0, none⟩) G1.out (by simp) (.int .u64 x0)) (by simp) (.int .u64 x1)) 0 (.bool true)
  refine leaves_cons (f := 105) (args := #[.pointer (some ⟨w.heap.size, 0, none⟩), .pointer (some ⟨w.heap.size + 1, 0, none⟩)]) (by simp) (by simp [go_sem]) ?_
  refine (tried_idle _ _ _).mono ?_
  rintro e u' w'' ⟨rfl, rfl, rfl⟩
  refine ⟨.tuple #[.agg #[.int .u64 x0, .int .u64 x1], .bool true], ?_, rfl, ((B.setCell (p := ⟨w.heap.size, 0, none⟩) (Nat.le_refl _) _).setCell (p := ⟨w.heap.size, 1, none⟩) (Nat.le_refl _) _).setCell (p := ⟨w.heap.size + 1, 0, none⟩) (by simp) _⟩
  have d0 := (blk_cell k0 0).trans (show _ = some (.int .u64 x0) from rfl)
  have d1 := (blk_cell k0 1).trans (show _ = some (.int .u64 x1) from rfl)
  have d2 := (blk_cell k1 0).trans (show _ = some (.bool true) from rfl)
  clear k0 k1
  generalize ((w1.setCell _ _).setCell _ _).setCell _ _ = W at d0 d1 d2 ⊢
  simp [results, Tryd.results55, go_sem, d0, d1, d2]
set_option maxHeartbeats 1000000 in
set_option maxRecDepth 100000 in
/-- What is tried panics. -/
theorem tried_panics (fid : Nat) (caps : Array Value) (w : World)
    (hcf : ∀ (args : Array Value) (w : World), (callFunc fid args).run Tryd.prog w = .ok (.enter fid args) w)
    (hcl : Hid (∀ W : World, Below w.heap.size w W → Calls Tryd.prog fid caps W fun e W' => (∃ pv, e = .panicked [{ v := .iface 9 pv, recovered := false }]) ∧ Below W.heap.size W W')) :
    Calls Tryd.prog 55 #[.func (.func fid) #[] caps] w fun e w' => e = .returned (.tuple #[.agg #[.int .u64 0, .int .u64 0], .bool false]) ∧ Below w.heap.size w w' := by
  have hmf : ∀ (fn : Fn) (first cap : Array Value) (w : World), (Instr.makeFunc fn first cap).run Tryd.prog w = .ok (.func fn first cap) w := fun _ _ _ _ => rfl
  go_enter_defers Tryd.func55, Tryd.ntmps55
  go_wp2_with fail
  refine (hcl.out _ (((Below.refl w.heap.size w).alloc (Nat.le_refl _) _).alloc (by simp) _)).mono ?_
  rintro e w1 ⟨⟨pv, rfl⟩, hb⟩
  have g0 : w1.heap[w.heap.size]? = some (.cells #[.int .u64 0, .int .u64 0] 24 (0, 0)) := (hb.block _ (by simp; omega)).trans (blk_alloc (MapKept.heap_alloc w _).1 _)
  have g1 : w1.heap[w.heap.size + 1]? = some (.cells #[.bool false] 4 (0, 0)) := (hb.block _ (by simp)).trans (by have := (MapKept.heap_alloc (w.alloc (Obj.cells #[Value.int IntKind.u64 0, Value.int IntKind.u64 0] 24)) (Obj.cells #[Value.bool false] 4)).1; simpa using this)
  have B : Below w.heap.size w w1 := (((Below.refl w.heap.size w).alloc (Nat.le_refl _) _).alloc (by simp) _).trans (hb.mono (by simp; omega))
  refine leaves_cons (f := 105) (args := #[.pointer (some ⟨w.heap.size, 0, none⟩), .pointer (some ⟨w.heap.size + 1, 0, none⟩)]) (by simp) (by simp [go_sem]) ?_
  refine (tried_catch w.heap.size 0 0 false 9 pv [] w1 g0 g1).mono ?_
  rintro e u' w2 ⟨rfl, rfl, k0, k1, hb2⟩
  refine ⟨.tuple #[.agg #[.int .u64 0, .int .u64 0], .bool false], ?_, rfl, B.trans hb2⟩
  have d0 := (blk_cell k0 0).trans (show _ = some (.int .u64 0) from rfl)
  have d1 := (blk_cell k0 1).trans (show _ = some (.int .u64 0) from rfl)
  have d2 := (blk_cell k1 0).trans (show _ = some (.bool false) from rfl)
  clear k0 k1
  simp [results, Tryd.results55, go_sem, d0, d1, d2]
-- NOT PRINTED: function 28 (impl_WideDiv64)
-- NOT PRINTED: function 58 (impl_tried_uint64)
-- NOT PRINTED: function 29 (impl_WideMod64)
end Go.Proofs.YtiifnofghicnaaaDoor.PAll
