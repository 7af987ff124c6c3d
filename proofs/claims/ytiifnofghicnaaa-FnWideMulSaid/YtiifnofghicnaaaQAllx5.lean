/- Printed by the kit's print.py, called for several laws at once: functions as plain Lean, and the walks' contracts. -/
import Derived.Test.YtiifnofghicnaaaQAllx0
import Derived.Test.YtiifnofghicnaaaQAllx1
import Derived.Test.YtiifnofghicnaaaQAllx2
import Derived.Test.YtiifnofghicnaaaQAllx4
namespace Go.Proofs.Ytiifnofghicnaaa.PAll
open Go.RowKit Go.Proofs.YtiifnofghicnaaaW.PrintWords Go.Proofs.YtiifnofghicnaaaW.PrintLast Go.Proofs.YtiifnofghicnaaaW.PrintMore
attribute [local go_sem] max2_int min2_int max_two min_two max_three min_three max_four min_four   -- for this text's walks alone
set_option linter.unusedVariables false
set_option linter.unusedSimpArgs false

/-! ### impl_Wide: function 102 -/
theorem tried_idle (p q : Addr) (w : World) :
    CallsD Try.prog 131 #[.pointer (some p), .pointer (some q)] .returning w fun e u' w' => e = .returned (.tuple #[]) ∧ u' = .returning ∧ w' = w := by
  refine callsD_of_wpS Try.func131 rfl fun c₀ cs hu => ?_
  apply wpS_seq
  apply wpS_region
  simp [wpOpsS, go_sem, recoverD, hu, Try.ntmps131, Exit.thenS]
  refine wpS_cond (t := false) (by simp [Act.eval, Array.replicate]) ?_
  simp only [Bool.false_eq_true, if_false]
  refine wpS_of_wp (wp_skip ?_)
  cases c₀
  simp_all [bodyPostS, results, Try.results131]
theorem tried_catch (g : Nat) (x0 x1 : Int) (y : Bool) (u : TypeId) (pv : Value) (older : List PanicEntry) (w : World)
    (hg : w.heap[g]? = some (.cells #[.int .u64 x0, .int .u64 x1] 24 (0, 0))) (hh : w.heap[g + 1]? = some (.cells #[.bool y] 4 (0, 0))) :
    CallsD Try.prog 131 #[.pointer (some ⟨g, 0, none⟩), .pointer (some ⟨g + 1, 0, none⟩)] (.panicking ({ v := .iface u pv, recovered := false } :: older)) w fun e u' w' =>
      e = .returned (.tuple #[]) ∧ u' = .panicking ({ v := .iface u pv, recovered := true } :: older) ∧
      w'.heap[g]? = some (.cells #[.int .u64 0, .int .u64 0] 24 (0, 0)) ∧ w'.heap[g + 1]? = some (.cells #[.bool false] 4 (0, 0)) ∧ Below g w w' := by
  have hp0 : w.cell? ⟨g, 0, none⟩ = some (.int .u64 x0) := by rw [blk_cell hg]; rfl
  have hp1 : w.cell? ⟨g, 1, none⟩ = some (.int .u64 x1) := by rw [blk_cell hg]; rfl
  have hq : w.cell? ⟨g + 1, 0, none⟩ = some (.bool y) := by rw [blk_cell hh]; rfl
  have fp0 : w.frozen? ⟨g, 0, none⟩ = false := blk_frozen hg 0
  have fp1 : w.frozen? ⟨g, 1, none⟩ = false := blk_frozen hg 1
  have fq : w.frozen? ⟨g + 1, 0, none⟩ = false := blk_frozen hh 0
  have lg := blk_lt hg
  have lh := blk_lt hh
  have HG := Lib.hid hg
  have HH := Lib.hid hh
  clear hg hh
  refine callsD_of_wpS Try.func131 rfl fun c₀ cs hu => ?_
  apply wpS_seq
  apply wpS_region
  simp [wpOpsS, go_sem, recoverD, hu, Try.ntmps131, Exit.thenS]
  refine wpS_cond (t := true) (by simp [Act.eval, Array.replicate]) ?_
  simp only [if_true]
  refine wpS_of_wp ?_
  simp [Array.replicate]
  go_wp2
  have k0 := blk_set (blk_set HG.out 0 (.int .u64 0)) 1 (.int .u64 0)
  have k1 := blk_far (p := ⟨g + 1, 0, none⟩) k0 (by simp) (.bool false)
  have k2 := blk_far (p := ⟨g, 1, none⟩) (blk_far (p := ⟨g, 0, none⟩) HH.out (by simp) (.int .u64 0)) (by simp) (.int .u64 0)
  have k3 := blk_set k2 0 (.bool false)
  have HF : (((w.setCell ⟨g, 0, none⟩ (Value.int IntKind.u64 0)).setCell ⟨g, 1, none⟩ (Value.int IntKind.u64 0)).setCell ⟨g + 1, 0, none⟩ (Value.bool false)).heap.size = w.heap.size := by simp [World.setCell]
  have f1 := blk_alloc k1 (Obj.cells #[Value.int IntKind.u64 0, Value.int IntKind.u64 0] 24)
  have f2 := blk_alloc k3 (Obj.cells #[Value.int IntKind.u64 0, Value.int IntKind.u64 0] 24)
  have f3 : Below g w ((((w.setCell ⟨g, 0, none⟩ (Value.int IntKind.u64 0)).setCell ⟨g, 1, none⟩ (Value.int IntKind.u64 0)).setCell ⟨g + 1, 0, none⟩ (Value.bool false)).alloc (Obj.cells #[Value.int IntKind.u64 0, Value.int IntKind.u64 0] 24)) :=
    ((((Below.refl g w).setCell (p := ⟨g, 0, none⟩) (Nat.le_refl _) _).setCell (p := ⟨g, 1, none⟩) (Nat.le_refl _) _).setCell (p := ⟨g + 1, 0, none⟩) (by simp) _).alloc (by rw [HF]; omega) _
  exact ⟨rfl, _, rfl, .tuple #[], results_none rfl _ _ _, rfl, rfl, f1, f2, f3⟩
set_option maxHeartbeats 1000000 in
set_option maxRecDepth 100000 in
/-- What is tried returns. -/
theorem tried_ret (fid : Nat) (caps : Array Value) (x0 x1 : Int) (w : World)
    (hcf : ∀ (args : Array Value) (w : World), (callFunc fid args).run Try.prog w = .ok (.enter fid args) w)
    (hcl : Hid (∀ W : World, Below w.heap.size w W → Calls Try.prog fid caps W fun e W' => e = .returned (.agg #[.int .u64 x0, .int .u64 x1]) ∧ Below W.heap.size W W')) :
    Calls Try.prog 102 #[.func (.func fid) #[] caps] w fun e w' => e = .returned (.tuple #[.agg #[.int .u64 x0, .int .u64 x1], .bool true]) ∧ Below w.heap.size w w' := by
  have hmf : ∀ (fn : Fn) (first cap : Array Value) (w : World), (Instr.makeFunc fn first cap).run Try.prog w = .ok (.func fn first cap) w := fun _ _ _ _ => rfl
  go_enter_defers Try.func102, Try.ntmps102
  go_wp2_with fail
  refine (hcl.out _ (((Below.refl w.heap.size w).alloc (Nat.le_refl _) _).alloc (by simp) _)).mono ?_
  rintro e w1 ⟨rfl, hb⟩
  have g0 : w1.heap[w.heap.size]? = some (.cells #[.int .u64 0, .int .u64 0] 24 (0, 0)) := (hb.block _ (by simp; omega)).trans (blk_alloc (MapKept.heap_alloc w _).1 _)
  have g1 : w1.heap[w.heap.size + 1]? = some (.cells #[.bool false] 4 (0, 0)) := (hb.block _ (by simp)).trans (by have := (MapKept.heap_alloc (w.alloc (Obj.cells #[Value.int IntKind.u64 0, Value.int IntKind.u64 0] 24)) (Obj.cells #[Value.bool false] 4)).1; simpa using this)
  have c0 : w1.cell? ⟨w.heap.size, 0, none⟩ = some (.int .u64 0) := by rw [blk_cell g0]; rfl
  have c1 : w1.cell? ⟨w.heap.size, 1, none⟩ = some (.int .u64 0) := by rw [blk_cell g0]; rfl
  have c2 : w1.cell? ⟨w.heap.size + 1, 0, none⟩ = some (.bool false) := by rw [blk_cell g1]; rfl
  have z0 : w1.frozen? ⟨w.heap.size, 0, none⟩ = false := blk_frozen g0 0
  have z1 : w1.frozen? ⟨w.heap.size, 1, none⟩ = false := blk_frozen g0 1
  have z2 : w1.frozen? ⟨w.heap.size + 1, 0, none⟩ = false := blk_frozen g1 0
  have HB := Lib.hid hb
  have G0 := Lib.hid g0
  have G1 := Lib.hid g1
  clear hb g0 g1
  go_wp2
  have B : Below w.heap.size w w1 := (((Below.refl w.heap.size w).alloc (Nat.le_refl _) _).alloc (by simp) _).trans (HB.out.mono (by simp; omega))
  have k0 := blk_far (p := ⟨w.heap.size + 1, 0, none⟩) (blk_set (blk_set G0.out 0 (.int .u64 x0)) 1 (.int .u64 x1)) (by simp) (.bool true)
  have k1 := blk_set (blk_far (p := ⟨w.heap.size, 1, none⟩) (blk_far (p := ⟨w.heap.size, 0, none⟩) G1.out (by simp) (.int .u64 x0)) (by simp) (.int .u64 x1)) 0 (.bool true)
  refine leaves_cons (f := 131) (args := #[.pointer (some ⟨w.heap.size, 0, none⟩), .pointer (some ⟨w.heap.size + 1, 0, none⟩)]) (by simp) (by simp [go_sem]) ?_
  refine (tried_idle _ _ _).mono ?_
  rintro e u' w'' ⟨rfl, rfl, rfl⟩
  refine ⟨.tuple #[.agg #[.int .u64 x0, .int .u64 x1], .bool true], ?_, rfl, ((B.setCell (p := ⟨w.heap.size, 0, none⟩) (Nat.le_refl _) _).setCell (p := ⟨w.heap.size, 1, none⟩) (Nat.le_refl _) _).setCell (p := ⟨w.heap.size + 1, 0, none⟩) (by simp) _⟩
  have d0 := (blk_cell k0 0).trans (show _ = some (.int .u64 x0) from rfl)
  have d1 := (blk_cell k0 1).trans (show _ = some (.int .u64 x1) from rfl)
  have d2 := (blk_cell k1 0).trans (show _ = some (.bool true) from rfl)
  clear k0 k1
  generalize ((w1.setCell _ _).setCell _ _).setCell _ _ = W at d0 d1 d2 ⊢
  simp [results, Try.results102, go_sem, d0, d1, d2]
set_option maxHeartbeats 1000000 in
set_option maxRecDepth 100000 in
/-- What is tried panics. -/
theorem tried_panics (fid : Nat) (caps : Array Value) (w : World)
    (hcf : ∀ (args : Array Value) (w : World), (callFunc fid args).run Try.prog w = .ok (.enter fid args) w)
    (hcl : Hid (∀ W : World, Below w.heap.size w W → Calls Try.prog fid caps W fun e W' => (∃ pv, e = .panicked [{ v := .iface 9 pv, recovered := false }]) ∧ Below W.heap.size W W')) :
    Calls Try.prog 102 #[.func (.func fid) #[] caps] w fun e w' => e = .returned (.tuple #[.agg #[.int .u64 0, .int .u64 0], .bool false]) ∧ Below w.heap.size w w' := by
  have hmf : ∀ (fn : Fn) (first cap : Array Value) (w : World), (Instr.makeFunc fn first cap).run Try.prog w = .ok (.func fn first cap) w := fun _ _ _ _ => rfl
  go_enter_defers Try.func102, Try.ntmps102
  go_wp2_with fail
  refine (hcl.out _ (((Below.refl w.heap.size w).alloc (Nat.le_refl _) _).alloc (by simp) _)).mono ?_
  rintro e w1 ⟨⟨pv, rfl⟩, hb⟩
  have g0 : w1.heap[w.heap.size]? = some (.cells #[.int .u64 0, .int .u64 0] 24 (0, 0)) := (hb.block _ (by simp; omega)).trans (blk_alloc (MapKept.heap_alloc w _).1 _)
  have g1 : w1.heap[w.heap.size + 1]? = some (.cells #[.bool false] 4 (0, 0)) := (hb.block _ (by simp)).trans (by have := (MapKept.heap_alloc (w.alloc (Obj.cells #[Value.int IntKind.u64 0, Value.int IntKind.u64 0] 24)) (Obj.cells #[Value.bool false] 4)).1; simpa using this)
  have B : Below w.heap.size w w1 := (((Below.refl w.heap.size w).alloc (Nat.le_refl _) _).alloc (by simp) _).trans (hb.mono (by simp; omega))
  refine leaves_cons (f := 131) (args := #[.pointer (some ⟨w.heap.size, 0, none⟩), .pointer (some ⟨w.heap.size + 1, 0, none⟩)]) (by simp) (by simp [go_sem]) ?_
  refine (tried_catch w.heap.size 0 0 false 9 pv [] w1 g0 g1).mono ?_
  rintro e u' w2 ⟨rfl, rfl, k0, k1, hb2⟩
  refine ⟨.tuple #[.agg #[.int .u64 0, .int .u64 0], .bool false], ?_, rfl, B.trans hb2⟩
  have d0 := (blk_cell k0 0).trans (show _ = some (.int .u64 0) from rfl)
  have d1 := (blk_cell k0 1).trans (show _ = some (.int .u64 0) from rfl)
  have d2 := (blk_cell k1 0).trans (show _ = some (.bool false) from rfl)
  clear k0 k1
  simp [results, Try.results102, go_sem, d0, d1, d2]

/-! ### for (pub-hashloom/pub/uint128.Uint128).Sub -/
def uint128_Uint128_Sub.f (a0_0 a0_1 a1_0 a1_1 : Int) : Option (Int × Int) :=
  if U64 a0_0 ∧ U64 a0_1 ∧ U64 a1_0 ∧ U64 a1_1 ∧ N128 a1_0 a1_1 ≤ N128 a0_0 a0_1 then some (halves (N128 a0_0 a0_1 - N128 a1_0 a1_1)) else none
theorem sub_no (a b c d : Nat) (ha : a < 18446744073709551616) (hc : c < 18446744073709551616) (h : c + d * 18446744073709551616 ≤ a + b * 18446744073709551616) : (((sHi b d (sHi a c 0) : Nat) : Int) != 0) = false := by
  have : sHi b d (sHi a c 0) = 0 := by unfold sHi; split <;> split <;> omega
  rw [this]; rfl
theorem sub_yes (a b c d : Nat) (ha : a < 18446744073709551616) (hc : c < 18446744073709551616) (h : ¬ c + d * 18446744073709551616 ≤ a + b * 18446744073709551616) : (((sHi b d (sHi a c 0) : Nat) : Int) != 0) = true := by
  have : sHi b d (sHi a c 0) ≠ 0 := by unfold sHi; split <;> split <;> omega
  rw [bne_iff_ne]; omega
theorem sub_1 (a b c d : Nat) (ha : a < 18446744073709551616) (hb : b < 18446744073709551616) (hc : c < 18446744073709551616) (hd : d < 18446744073709551616) (h : c + d * 18446744073709551616 ≤ a + b * 18446744073709551616) : sLo a c 0 = (a + b * 18446744073709551616 - (c + d * 18446744073709551616)) % 18446744073709551616 := by unfold sLo; omega
theorem sub_2 (a b c d : Nat) (ha : a < 18446744073709551616) (hb : b < 18446744073709551616) (hc : c < 18446744073709551616) (hd : d < 18446744073709551616) (h : c + d * 18446744073709551616 ≤ a + b * 18446744073709551616) : sLo b d (sHi a c 0) = (a + b * 18446744073709551616 - (c + d * 18446744073709551616)) / 18446744073709551616 % 18446744073709551616 := by unfold sLo sHi; split <;> omega
set_option maxHeartbeats 2000000 in
set_option maxRecDepth 100000 in
theorem sub_nat (a b c d : Nat) (ha : a < 18446744073709551616) (hb : b < 18446744073709551616) (hc : c < 18446744073709551616) (hd : d < 18446744073709551616) (hk : (((sHi b d (sHi a c 0) : Nat) : Int) != 0) = false) (w : World) :
    Calls Try.prog 104 #[.agg #[.int .u64 a, .int .u64 b], .agg #[.int .u64 c, .int .u64 d]] w fun e w' => e = .returned (.agg #[.int .u64 (sLo a c 0 : Int), .int .u64 (sLo b d (sHi a c 0) : Int)]) ∧ Below w.heap.size w w' := by
  have r1 := run_sub64_0 a c
  have r2 := run_sub64 b d (sHi a c 0) sHi_le
  clear ha hb hc hd
  go_enter Try.func104, Try.ntmps104
  go_wp2
  refine bodyPost_ret (v := .agg #[.int .u64 (sLo a c 0 : Int), .int .u64 (sLo b d (sHi a c 0) : Int)]) (by simp [results, Try.results104, go_sem]) rfl ⟨rfl, ?_⟩
  exact (((Below.refl w.heap.size w).alloc (Nat.le_refl _) _).alloc (by simp) _).alloc (by simp; omega) _
set_option maxHeartbeats 2000000 in
set_option maxRecDepth 100000 in
theorem sub_nat_panics (a b c d : Nat) (ha : a < 18446744073709551616) (hb : b < 18446744073709551616) (hc : c < 18446744073709551616) (hd : d < 18446744073709551616) (hk : (((sHi b d (sHi a c 0) : Nat) : Int) != 0) = true) (w : World) :
    Calls Try.prog 104 #[.agg #[.int .u64 a, .int .u64 b], .agg #[.int .u64 c, .int .u64 d]] w fun e w' => (∃ pv, e = .panicked [{ v := .iface 9 pv, recovered := false }]) ∧ Below w.heap.size w w' := by
  have r1 := run_sub64_0 a c
  have r2 := run_sub64 b d (sHi a c 0) sHi_le
  clear ha hb hc hd
  go_enter Try.func104, Try.ntmps104
  go_wp2
  exact ⟨rfl, ⟨_, rfl⟩, (((Below.refl w.heap.size w).alloc (Nat.le_refl _) _).alloc (by simp) _).alloc (by simp; omega) _⟩
theorem uint128_Uint128_Sub.calls (a0_0 : Int) (a0_1 : Int) (a1_0 : Int) (a1_1 : Int) (r1 : Int) (r2 : Int) (w : World) (h : uint128_Uint128_Sub.f a0_0 a0_1 a1_0 a1_1 = some (r1, r2)) :
    Calls Try.prog 104 #[.agg #[.int .u64 a0_0, .int .u64 a0_1], .agg #[.int .u64 a1_0, .int .u64 a1_1]] w fun e w' => e = .returned (.agg #[.int .u64 r1, .int .u64 r2]) ∧ Below w.heap.size w w' := by
  unfold uint128_Uint128_Sub.f at h
  split at h
  case isFalse => cases h
  rename_i hb
  obtain ⟨ka, kb, kc, kd, kx⟩ := hb
  obtain ⟨a, rfl, ha⟩ := ka.nat
  obtain ⟨b, rfl, hb⟩ := kb.nat
  obtain ⟨c, rfl, hc⟩ := kc.nat
  obtain ⟨d, rfl, hd⟩ := kd.nat
  have e := Option.some.inj h
  simp only [halves, N128, Int.toNat_natCast, Prod.mk.injEq] at e kx
  rw [← sub_1 a b c d ha hb hc hd kx, ← sub_2 a b c d ha hb hc hd kx] at e
  obtain ⟨rfl, rfl⟩ := e
  exact sub_nat a b c d ha hb hc hd (sub_no a b c d ha hc kx) w
theorem uint128_Uint128_Sub.panics (a0_0 : Int) (a0_1 : Int) (a1_0 : Int) (a1_1 : Int) (w : World) (hu : U64 a0_0 ∧ U64 a0_1 ∧ U64 a1_0 ∧ U64 a1_1) (h : ¬ (N128 a1_0 a1_1 ≤ N128 a0_0 a0_1)) :
    Calls Try.prog 104 #[.agg #[.int .u64 a0_0, .int .u64 a0_1], .agg #[.int .u64 a1_0, .int .u64 a1_1]] w fun e w' => (∃ pv, e = .panicked [{ v := .iface 9 pv, recovered := false }]) ∧ Below w.heap.size w w' := by
  obtain ⟨ka, kb, kc, kd⟩ := hu
  obtain ⟨a, rfl, ha⟩ := ka.nat
  obtain ⟨b, rfl, hb⟩ := kb.nat
  obtain ⟨c, rfl, hc⟩ := kc.nat
  obtain ⟨d, rfl, hd⟩ := kd.nat
  simp only [N128, Int.toNat_natCast] at h
  exact sub_nat_panics a b c d ha hb hc hd (sub_yes a b c d ha hc h) w

/-! ### impl_WideSub: function 59 -/
theorem bcell {W w1 : World} (hb : Below W.heap.size W w1) : (∀ b o, b < W.heap.size → w1.cell? ⟨b, o, none⟩ = W.cell? ⟨b, o, none⟩) ∧ (∀ b o, b < W.heap.size → w1.frozen? ⟨b, o, none⟩ = W.frozen? ⟨b, o, none⟩) :=
  ⟨fun b o h => hb.cell (p := ⟨b, o, none⟩) h, fun b o h => hb.frozen (p := ⟨b, o, none⟩) h⟩
theorem alloc2_facts (w : World) (T : Nat) (x y : Value) : (w.alloc (.cells #[x, y] T)).cell? ⟨w.heap.size, 0, none⟩ = some x ∧ (w.alloc (.cells #[x, y] T)).cell? ⟨w.heap.size, 1, none⟩ = some y ∧
    (w.alloc (.cells #[x, y] T)).frozen? ⟨w.heap.size, 0, none⟩ = false ∧ (w.alloc (.cells #[x, y] T)).frozen? ⟨w.heap.size, 1, none⟩ = false ∧ w.heap.size < (w.alloc (.cells #[x, y] T)).heap.size ∧ Below w.heap.size w (w.alloc (.cells #[x, y] T)) := by
  refine ⟨?_, ?_, World.frozen?_alloc_at _ _ _ _ rfl, World.frozen?_alloc_at _ _ _ _ rfl, by simp, (Below.refl _ _).alloc (Nat.le_refl _) _⟩
  · rw [World.cell?_alloc_at _ _ _ _ rfl]; rfl
  · rw [World.cell?_alloc_at _ _ _ _ rfl]; rfl
/-- A call that panics, in a region that draws its order. -/
theorem pgoes_ {P : Program} {ops : Array Oper} {Q : Exit → Act → World → Prop} {oi : Oper} {N : Option Tmp} {a : Act} {w : World} {K : Act → World → Prop} {f : FuncId} {fn : Func} {as1 : Array Operand} {ts : Array TypeId} (hf : P.funcs[f]? = some fn) (hname : (fn.name == "runtime.NumGoroutine") = false) (hb : fn.body.isSome = true) (args : Array Value)
    (hw : Region.wanted oi (yielded ops a.tmps) = true) (hop : oi.op = .call { callee := .value (.func f), args := as1, argTypes := ts }) (hargs : as1.map a.eval = args)
    (h : Calls P f args w fun e w' => ∃ c, e = .panicked c ∧ Q (.panic c) a w') : if Region.wanted oi (yielded ops a.tmps) = true then Oper.wp P oi a w K Q else K (a.put N undef) w := by
  rw [if_pos hw]
  have he := enters_ hf hname hb args w
  have hrun : (execOp a.eval oi).run P w = .ok (.enter f args) w := by
    unfold execOp
    simp [hop, resolve, Deferred.ofValue, invoke, Act.eval, hargs, he]
  unfold Oper.wp
  rw [hrun, Oper.upon_enter]
  refine h.mono fun e w'' hh => ?_
  obtain ⟨c, rfl, hk⟩ := hh
  exact hk
set_option maxHeartbeats 1000000 in
set_option maxRecDepth 100000 in
theorem WideSub_1ret (a b c d : Int) (r1 r2 : Int) (p q : Nat) (w : World) (h : uint128_Uint128_Sub.f a b c d = some (r1, r2)) (lp : p < w.heap.size) (lq : q < w.heap.size)
    (p0 : w.cell? ⟨p, 0, none⟩ = some (.int .u64 a)) (p1 : w.cell? ⟨p, 1, none⟩ = some (.int .u64 b)) (q0 : w.cell? ⟨q, 0, none⟩ = some (.int .u64 c)) (q1 : w.cell? ⟨q, 1, none⟩ = some (.int .u64 d)) :
    Calls Try.prog 103 #[.pointer (some ⟨p, 0, none⟩), .pointer (some ⟨q, 0, none⟩)] w fun e w' => e = .returned (.agg #[.int .u64 r1, .int .u64 r2]) ∧ Below w.heap.size w w' := by
  have HH := Lib.hid h
  clear h
  go_enter Try.func103, Try.ntmps103
  go_wp2_with fail
  obtain ⟨w0, w1, f0, f1, lz, BB⟩ := alloc2_facts w 24 (.int .u64 0) (.int .u64 0)
  replace p0 := (BB.cell (p := ⟨p, 0, none⟩) (by exact lp)).trans p0
  replace p1 := (BB.cell (p := ⟨p, 1, none⟩) (by exact lp)).trans p1
  replace q0 := (BB.cell (p := ⟨q, 0, none⟩) (by exact lq)).trans q0
  replace q1 := (BB.cell (p := ⟨q, 1, none⟩) (by exact lq)).trans q1
  generalize w.alloc (.cells #[.int .u64 0, .int .u64 0] 24) = W0 at *
  refine start_ (n := 7) (S := fun w' => w'.cell? ⟨p, 0, none⟩ = some (.int .u64 a) ∧ w'.cell? ⟨p, 1, none⟩ = some (.int .u64 b) ∧ w'.cell? ⟨q, 0, none⟩ = some (.int .u64 c) ∧ w'.cell? ⟨q, 1, none⟩ = some (.int .u64 d)) (ds := []) #[false, false, false, false, false, false, false] (by kernel_rfl) rfl rfl ⟨p0, p1, q0, q1⟩ (fun hHeld => ?_)
  replace BB := BB.drew
  replace p0 : W0.drew.cell? ⟨p, 0, none⟩ = some (.int .u64 a) := p0
  replace p1 : W0.drew.cell? ⟨p, 1, none⟩ = some (.int .u64 b) := p1
  replace q0 : W0.drew.cell? ⟨q, 0, none⟩ = some (.int .u64 c) := q0
  replace q1 : W0.drew.cell? ⟨q, 1, none⟩ = some (.int .u64 d) := q1
  replace w0 : W0.drew.cell? ⟨w.heap.size, 0, none⟩ = some (.int .u64 0) := w0
  replace w1 : W0.drew.cell? ⟨w.heap.size, 1, none⟩ = some (.int .u64 0) := w1
  replace f0 : W0.drew.frozen? ⟨w.heap.size, 0, none⟩ = false := f0
  replace f1 : W0.drew.frozen? ⟨w.heap.size, 1, none⟩ = false := f1
  replace lz : w.heap.size < W0.drew.heap.size := lz
  generalize W0.drew = W1 at BB p0 p1 q0 q1 w0 w1 f0 f1 lz hHeld ⊢
  refine take_ (i := 0) (N := some 3) (v := ?_) (a' := ?_) #[true, false, false, false, false, false, false] rfl rfl (by kernel_rfl) (fun _ _ _ h => h) (Or.inl ⟨by rfl, ?_⟩) hHeld ?_ ?_
  rotate_left
  · rintro w' ⟨s0, s1, s2, s3⟩
    go_simp
    with_reducible rfl
  rotate_left
  · simp only [Act.put, List.setIfInBounds_toArray, List.set_cons_zero, List.set_cons_succ, i64_w, i32_w]
    rfl
  refine take_ (i := 2) (N := some 5) (v := ?_) (a' := ?_) #[true, false, true, false, false, false, false] rfl rfl (by kernel_rfl) (fun _ _ _ h => h) (Or.inl ⟨by rfl, ?_⟩) hHeld ?_ ?_
  rotate_left
  · rintro w' ⟨s0, s1, s2, s3⟩
    go_simp
    with_reducible rfl
  rotate_left
  · simp only [Act.put, List.setIfInBounds_toArray, List.set_cons_zero, List.set_cons_succ, i64_w, i32_w]
    rfl
  refine one_ (i := 1) (N := some 4) #[true, true, true, false, false, false, false] rfl rfl (by kernel_rfl) (by decide) (fun K hK => ?_)
  refine goes_ Try.func76 (by kernel_rfl) rfl #[.agg #[.int .u64 a, .int .u64 b]] (by rfl) rfl rfl (by (try simp only [List.map_toArray, List.map_cons, List.map_nil]); first | done | rfl) ?_
  refine (impl_Wide_u.calls a b a b _ rfl).mono ?_
  rintro e W2 ⟨rfl, hb⟩
  refine ⟨_, rfl, ?_⟩
  replace p0 := (hb.cell (p := ⟨p, 0, none⟩) (Nat.lt_trans lp lz)).trans p0
  replace p1 := (hb.cell (p := ⟨p, 1, none⟩) (Nat.lt_trans lp lz)).trans p1
  replace q0 := (hb.cell (p := ⟨q, 0, none⟩) (Nat.lt_trans lq lz)).trans q0
  replace q1 := (hb.cell (p := ⟨q, 1, none⟩) (Nat.lt_trans lq lz)).trans q1
  replace w0 := (hb.cell (p := ⟨w.heap.size, 0, none⟩) lz).trans w0
  replace w1 := (hb.cell (p := ⟨w.heap.size, 1, none⟩) lz).trans w1
  replace f0 := (hb.frozen (p := ⟨w.heap.size, 0, none⟩) lz).trans f0
  replace f1 := (hb.frozen (p := ⟨w.heap.size, 1, none⟩) lz).trans f1
  replace BB := BB.trans (hb.mono (Nat.le_of_lt lz))
  replace lz := Nat.lt_of_lt_of_le lz hb.size
  clear hb
  refine hK.out _ _ ⟨p0, p1, q0, q1⟩ (fun hHeld => ?_)
  clear hK K
  refine norm_ (a' := ?_) ?_ ?_
  rotate_left
  · show Act.put _ (some 4) _ = _
    simp only [Act.put, List.setIfInBounds_toArray, List.set_cons_zero, List.set_cons_succ, i64_w, i32_w]
    rfl
  refine one_ (i := 3) (N := some 6) #[true, true, true, true, false, false, false] rfl rfl (by kernel_rfl) (by decide) (fun K hK => ?_)
  refine goes_ Try.func76 (by kernel_rfl) rfl #[.agg #[.int .u64 c, .int .u64 d]] (by rfl) rfl rfl (by (try simp only [List.map_toArray, List.map_cons, List.map_nil]); first | done | rfl) ?_
  refine (impl_Wide_u.calls c d c d _ rfl).mono ?_
  rintro e W2 ⟨rfl, hb⟩
  refine ⟨_, rfl, ?_⟩
  replace p0 := (hb.cell (p := ⟨p, 0, none⟩) (Nat.lt_trans lp lz)).trans p0
  replace p1 := (hb.cell (p := ⟨p, 1, none⟩) (Nat.lt_trans lp lz)).trans p1
  replace q0 := (hb.cell (p := ⟨q, 0, none⟩) (Nat.lt_trans lq lz)).trans q0
  replace q1 := (hb.cell (p := ⟨q, 1, none⟩) (Nat.lt_trans lq lz)).trans q1
  replace w0 := (hb.cell (p := ⟨w.heap.size, 0, none⟩) lz).trans w0
  replace w1 := (hb.cell (p := ⟨w.heap.size, 1, none⟩) lz).trans w1
  replace f0 := (hb.frozen (p := ⟨w.heap.size, 0, none⟩) lz).trans f0
  replace f1 := (hb.frozen (p := ⟨w.heap.size, 1, none⟩) lz).trans f1
  replace BB := BB.trans (hb.mono (Nat.le_of_lt lz))
  replace lz := Nat.lt_of_lt_of_le lz hb.size
  clear hb
  refine hK.out _ _ ⟨p0, p1, q0, q1⟩ (fun hHeld => ?_)
  clear hK K
  refine norm_ (a' := ?_) ?_ ?_
  rotate_left
  · show Act.put _ (some 6) _ = _
    simp only [Act.put, List.setIfInBounds_toArray, List.set_cons_zero, List.set_cons_succ, i64_w, i32_w]
    rfl
  refine one_ (i := 4) (N := some 7) #[true, true, true, true, true, false, false] rfl rfl (by kernel_rfl) (by decide) (fun K hK => ?_)
  refine goes_ Try.func104 (by kernel_rfl) rfl #[.agg #[.int .u64 a, .int .u64 b], .agg #[.int .u64 c, .int .u64 d]] (by rfl) rfl rfl (by (try simp only [List.map_toArray, List.map_cons, List.map_nil]); first | done | rfl) ?_
  refine (uint128_Uint128_Sub.calls a b c d r1 r2 _ HH.out).mono ?_
  rintro e W2 ⟨rfl, hb⟩
  refine ⟨_, rfl, ?_⟩
  replace p0 := (hb.cell (p := ⟨p, 0, none⟩) (Nat.lt_trans lp lz)).trans p0
  replace p1 := (hb.cell (p := ⟨p, 1, none⟩) (Nat.lt_trans lp lz)).trans p1
  replace q0 := (hb.cell (p := ⟨q, 0, none⟩) (Nat.lt_trans lq lz)).trans q0
  replace q1 := (hb.cell (p := ⟨q, 1, none⟩) (Nat.lt_trans lq lz)).trans q1
  replace w0 := (hb.cell (p := ⟨w.heap.size, 0, none⟩) lz).trans w0
  replace w1 := (hb.cell (p := ⟨w.heap.size, 1, none⟩) lz).trans w1
  replace f0 := (hb.frozen (p := ⟨w.heap.size, 0, none⟩) lz).trans f0
  replace f1 := (hb.frozen (p := ⟨w.heap.size, 1, none⟩) lz).trans f1
  replace BB := BB.trans (hb.mono (Nat.le_of_lt lz))
  replace lz := Nat.lt_of_lt_of_le lz hb.size
  clear hb
  refine hK.out _ _ ⟨p0, p1, q0, q1⟩ (fun hHeld => ?_)
  clear hK K
  refine norm_ (a' := ?_) ?_ ?_
  rotate_left
  · show Act.put _ (some 7) _ = _
    simp only [Act.put, List.setIfInBounds_toArray, List.set_cons_zero, List.set_cons_succ, i64_w, i32_w]
    rfl
  refine one_ (i := 5) (N := some 8) #[true, true, true, true, true, true, false] rfl rfl (by kernel_rfl) (by decide) (fun K hK => ?_)
  refine goes_ Try.func80 (by kernel_rfl) rfl #[.agg #[.int .u64 r1, .int .u64 r2]] (by rfl) rfl rfl (by (try simp only [List.map_toArray, List.map_cons, List.map_nil]); first | done | rfl) ?_
  refine (impl_wide.calls r1 r2 r1 r2 _ rfl).mono ?_
  rintro e W2 ⟨rfl, hb⟩
  refine ⟨_, rfl, ?_⟩
  replace p0 := (hb.cell (p := ⟨p, 0, none⟩) (Nat.lt_trans lp lz)).trans p0
  replace p1 := (hb.cell (p := ⟨p, 1, none⟩) (Nat.lt_trans lp lz)).trans p1
  replace q0 := (hb.cell (p := ⟨q, 0, none⟩) (Nat.lt_trans lq lz)).trans q0
  replace q1 := (hb.cell (p := ⟨q, 1, none⟩) (Nat.lt_trans lq lz)).trans q1
  replace w0 := (hb.cell (p := ⟨w.heap.size, 0, none⟩) lz).trans w0
  replace w1 := (hb.cell (p := ⟨w.heap.size, 1, none⟩) lz).trans w1
  replace f0 := (hb.frozen (p := ⟨w.heap.size, 0, none⟩) lz).trans f0
  replace f1 := (hb.frozen (p := ⟨w.heap.size, 1, none⟩) lz).trans f1
  replace BB := BB.trans (hb.mono (Nat.le_of_lt lz))
  replace lz := Nat.lt_of_lt_of_le lz hb.size
  clear hb
  refine hK.out _ _ ⟨p0, p1, q0, q1⟩ (fun hHeld => ?_)
  clear hK K
  refine norm_ (a' := ?_) ?_ ?_
  rotate_left
  · show Act.put _ (some 8) _ = _
    simp only [Act.put, List.setIfInBounds_toArray, List.set_cons_zero, List.set_cons_succ, i64_w, i32_w]
    rfl
  refine one_ (i := 6) (N := none) #[true, true, true, true, true, true, true] rfl rfl (by kernel_rfl) (by decide) (fun K hK => ?_)
  refine skip_ (w1 := ?_) (by rfl) rfl ?_ ?_
  rotate_left
  · go_simp
    rfl
  refine hK.out _ _ ⟨(cell_far (p := ⟨w.heap.size, 1, none⟩) (by exact Nat.ne_of_lt lp) _).trans ((cell_far (p := ⟨w.heap.size, 0, none⟩) (by exact Nat.ne_of_lt lp) _).trans p0), (cell_far (p := ⟨w.heap.size, 1, none⟩) (by exact Nat.ne_of_lt lp) _).trans ((cell_far (p := ⟨w.heap.size, 0, none⟩) (by exact Nat.ne_of_lt lp) _).trans p1), (cell_far (p := ⟨w.heap.size, 1, none⟩) (by exact Nat.ne_of_lt lq) _).trans ((cell_far (p := ⟨w.heap.size, 0, none⟩) (by exact Nat.ne_of_lt lq) _).trans q0), (cell_far (p := ⟨w.heap.size, 1, none⟩) (by exact Nat.ne_of_lt lq) _).trans ((cell_far (p := ⟨w.heap.size, 0, none⟩) (by exact Nat.ne_of_lt lq) _).trans q1)⟩ (fun hHeld => ?_)
  clear hK K
  refine done_ (by kernel_rfl) ?_
  go_wp2
  refine bodyPost_ret (v := .agg #[.int .u64 r1, .int .u64 r2]) (by simp [results, Try.results103, go_sem, w0, w1]) rfl ⟨rfl, (BB.setCell (p := ⟨w.heap.size, 0, none⟩) (Nat.le_refl _) _).setCell (p := ⟨w.heap.size, 1, none⟩) (Nat.le_refl _) _⟩
set_option maxHeartbeats 1000000 in
set_option maxRecDepth 100000 in
theorem WideSub_1pan (a b c d : Int) (p q : Nat) (w : World) (hu : U64 a ∧ U64 b ∧ U64 c ∧ U64 d) (h : ¬ (N128 c d ≤ N128 a b)) (lp : p < w.heap.size) (lq : q < w.heap.size)
    (p0 : w.cell? ⟨p, 0, none⟩ = some (.int .u64 a)) (p1 : w.cell? ⟨p, 1, none⟩ = some (.int .u64 b)) (q0 : w.cell? ⟨q, 0, none⟩ = some (.int .u64 c)) (q1 : w.cell? ⟨q, 1, none⟩ = some (.int .u64 d)) :
    Calls Try.prog 103 #[.pointer (some ⟨p, 0, none⟩), .pointer (some ⟨q, 0, none⟩)] w fun e w' => (∃ pv, e = .panicked [{ v := .iface 9 pv, recovered := false }]) ∧ Below w.heap.size w w' := by
  have HH := Lib.hid hu
  have HN := Lib.hid h
  clear hu h
  go_enter Try.func103, Try.ntmps103
  go_wp2_with fail
  obtain ⟨w0, w1, f0, f1, lz, BB⟩ := alloc2_facts w 24 (.int .u64 0) (.int .u64 0)
  replace p0 := (BB.cell (p := ⟨p, 0, none⟩) (by exact lp)).trans p0
  replace p1 := (BB.cell (p := ⟨p, 1, none⟩) (by exact lp)).trans p1
  replace q0 := (BB.cell (p := ⟨q, 0, none⟩) (by exact lq)).trans q0
  replace q1 := (BB.cell (p := ⟨q, 1, none⟩) (by exact lq)).trans q1
  generalize w.alloc (.cells #[.int .u64 0, .int .u64 0] 24) = W0 at *
  refine start_ (n := 7) (S := fun w' => w'.cell? ⟨p, 0, none⟩ = some (.int .u64 a) ∧ w'.cell? ⟨p, 1, none⟩ = some (.int .u64 b) ∧ w'.cell? ⟨q, 0, none⟩ = some (.int .u64 c) ∧ w'.cell? ⟨q, 1, none⟩ = some (.int .u64 d)) (ds := []) #[false, false, false, false, false, false, false] (by kernel_rfl) rfl rfl ⟨p0, p1, q0, q1⟩ (fun hHeld => ?_)
  replace BB := BB.drew
  replace p0 : W0.drew.cell? ⟨p, 0, none⟩ = some (.int .u64 a) := p0
  replace p1 : W0.drew.cell? ⟨p, 1, none⟩ = some (.int .u64 b) := p1
  replace q0 : W0.drew.cell? ⟨q, 0, none⟩ = some (.int .u64 c) := q0
  replace q1 : W0.drew.cell? ⟨q, 1, none⟩ = some (.int .u64 d) := q1
  replace w0 : W0.drew.cell? ⟨w.heap.size, 0, none⟩ = some (.int .u64 0) := w0
  replace w1 : W0.drew.cell? ⟨w.heap.size, 1, none⟩ = some (.int .u64 0) := w1
  replace f0 : W0.drew.frozen? ⟨w.heap.size, 0, none⟩ = false := f0
  replace f1 : W0.drew.frozen? ⟨w.heap.size, 1, none⟩ = false := f1
  replace lz : w.heap.size < W0.drew.heap.size := lz
  generalize W0.drew = W1 at BB p0 p1 q0 q1 w0 w1 f0 f1 lz hHeld ⊢
  refine take_ (i := 0) (N := some 3) (v := ?_) (a' := ?_) #[true, false, false, false, false, false, false] rfl rfl (by kernel_rfl) (fun _ _ _ h => h) (Or.inl ⟨by rfl, ?_⟩) hHeld ?_ ?_
  rotate_left
  · rintro w' ⟨s0, s1, s2, s3⟩
    go_simp
    with_reducible rfl
  rotate_left
  · simp only [Act.put, List.setIfInBounds_toArray, List.set_cons_zero, List.set_cons_succ, i64_w, i32_w]
    rfl
  refine take_ (i := 2) (N := some 5) (v := ?_) (a' := ?_) #[true, false, true, false, false, false, false] rfl rfl (by kernel_rfl) (fun _ _ _ h => h) (Or.inl ⟨by rfl, ?_⟩) hHeld ?_ ?_
  rotate_left
  · rintro w' ⟨s0, s1, s2, s3⟩
    go_simp
    with_reducible rfl
  rotate_left
  · simp only [Act.put, List.setIfInBounds_toArray, List.set_cons_zero, List.set_cons_succ, i64_w, i32_w]
    rfl
  refine one_ (i := 1) (N := some 4) #[true, true, true, false, false, false, false] rfl rfl (by kernel_rfl) (by decide) (fun K hK => ?_)
  refine goes_ Try.func76 (by kernel_rfl) rfl #[.agg #[.int .u64 a, .int .u64 b]] (by rfl) rfl rfl (by (try simp only [List.map_toArray, List.map_cons, List.map_nil]); first | done | rfl) ?_
  refine (impl_Wide_u.calls a b a b _ rfl).mono ?_
  rintro e W2 ⟨rfl, hb⟩
  refine ⟨_, rfl, ?_⟩
  replace p0 := (hb.cell (p := ⟨p, 0, none⟩) (Nat.lt_trans lp lz)).trans p0
  replace p1 := (hb.cell (p := ⟨p, 1, none⟩) (Nat.lt_trans lp lz)).trans p1
  replace q0 := (hb.cell (p := ⟨q, 0, none⟩) (Nat.lt_trans lq lz)).trans q0
  replace q1 := (hb.cell (p := ⟨q, 1, none⟩) (Nat.lt_trans lq lz)).trans q1
  replace w0 := (hb.cell (p := ⟨w.heap.size, 0, none⟩) lz).trans w0
  replace w1 := (hb.cell (p := ⟨w.heap.size, 1, none⟩) lz).trans w1
  replace f0 := (hb.frozen (p := ⟨w.heap.size, 0, none⟩) lz).trans f0
  replace f1 := (hb.frozen (p := ⟨w.heap.size, 1, none⟩) lz).trans f1
  replace BB := BB.trans (hb.mono (Nat.le_of_lt lz))
  replace lz := Nat.lt_of_lt_of_le lz hb.size
  clear hb
  refine hK.out _ _ ⟨p0, p1, q0, q1⟩ (fun hHeld => ?_)
  clear hK K
  refine norm_ (a' := ?_) ?_ ?_
  rotate_left
  · show Act.put _ (some 4) _ = _
    simp only [Act.put, List.setIfInBounds_toArray, List.set_cons_zero, List.set_cons_succ, i64_w, i32_w]
    rfl
  refine one_ (i := 3) (N := some 6) #[true, true, true, true, false, false, false] rfl rfl (by kernel_rfl) (by decide) (fun K hK => ?_)
  refine goes_ Try.func76 (by kernel_rfl) rfl #[.agg #[.int .u64 c, .int .u64 d]] (by rfl) rfl rfl (by (try simp only [List.map_toArray, List.map_cons, List.map_nil]); first | done | rfl) ?_
  refine (impl_Wide_u.calls c d c d _ rfl).mono ?_
  rintro e W2 ⟨rfl, hb⟩
  refine ⟨_, rfl, ?_⟩
  replace p0 := (hb.cell (p := ⟨p, 0, none⟩) (Nat.lt_trans lp lz)).trans p0
  replace p1 := (hb.cell (p := ⟨p, 1, none⟩) (Nat.lt_trans lp lz)).trans p1
  replace q0 := (hb.cell (p := ⟨q, 0, none⟩) (Nat.lt_trans lq lz)).trans q0
  replace q1 := (hb.cell (p := ⟨q, 1, none⟩) (Nat.lt_trans lq lz)).trans q1
  replace w0 := (hb.cell (p := ⟨w.heap.size, 0, none⟩) lz).trans w0
  replace w1 := (hb.cell (p := ⟨w.heap.size, 1, none⟩) lz).trans w1
  replace f0 := (hb.frozen (p := ⟨w.heap.size, 0, none⟩) lz).trans f0
  replace f1 := (hb.frozen (p := ⟨w.heap.size, 1, none⟩) lz).trans f1
  replace BB := BB.trans (hb.mono (Nat.le_of_lt lz))
  replace lz := Nat.lt_of_lt_of_le lz hb.size
  clear hb
  refine hK.out _ _ ⟨p0, p1, q0, q1⟩ (fun hHeld => ?_)
  clear hK K
  refine norm_ (a' := ?_) ?_ ?_
  rotate_left
  · show Act.put _ (some 6) _ = _
    simp only [Act.put, List.setIfInBounds_toArray, List.set_cons_zero, List.set_cons_succ, i64_w, i32_w]
    rfl
  refine one_ (i := 4) (N := some 7) #[true, true, true, true, true, false, false] rfl rfl (by kernel_rfl) (by decide) (fun K hK => ?_)
  refine pgoes_ Try.func104 (by kernel_rfl) rfl #[.agg #[.int .u64 a, .int .u64 b], .agg #[.int .u64 c, .int .u64 d]] (by rfl) rfl (by (try simp only [List.map_toArray, List.map_cons, List.map_nil]); first | done | rfl) ?_
  refine (uint128_Uint128_Sub.panics a b c d _ HH.out HN.out).mono ?_
  rintro e W2 ⟨⟨pv, rfl⟩, hb⟩
  exact ⟨_, rfl, rfl, ⟨_, rfl⟩, BB.trans (hb.mono (Nat.le_of_lt lz))⟩
def impl_WideSub.f (a0_0 a0_1 a1_0 a1_1 : Int) : Option (Int × Int × Bool) :=
  if U64 a0_0 ∧ U64 a0_1 ∧ U64 a1_0 ∧ U64 a1_1 then (if N128 a1_0 a1_1 ≤ N128 a0_0 a0_1 then some ((halves (N128 a0_0 a0_1 - N128 a1_0 a1_1)).1, (halves (N128 a0_0 a0_1 - N128 a1_0 a1_1)).2, true) else some (0, 0, false)) else none
set_option maxHeartbeats 1000000 in
set_option maxRecDepth 100000 in
theorem impl_WideSub.calls (a0_0 : Int) (a0_1 : Int) (a1_0 : Int) (a1_1 : Int) (r1 : Int) (r2 : Int) (r3 : Bool) (w : World) (h : impl_WideSub.f a0_0 a0_1 a1_0 a1_1 = some (r1, r2, r3)) :
    Calls Try.prog 59 #[.agg #[.int .u64 a0_0, .int .u64 a0_1], .agg #[.int .u64 a1_0, .int .u64 a1_1]] w fun e w' => e = .returned (.tuple #[.agg #[.int .u64 r1, .int .u64 r2], .bool r3]) ∧ Below w.heap.size w w' := by
  have hmf : ∀ (fn : Fn) (first cap : Array Value) (w : World), (Instr.makeFunc fn first cap).run Try.prog w = .ok (.func fn first cap) w := fun _ _ _ _ => rfl
  unfold impl_WideSub.f at h
  split at h
  case isFalse => cases h
  rename_i hu
  have key : Calls Try.prog 102 #[.func (.func 103) #[] #[.pointer (some ⟨w.heap.size, 0, none⟩), .pointer (some ⟨w.heap.size + 1, 0, none⟩)]] (((w.alloc (.cells #[.int .u64 a0_0, .int .u64 a0_1] 24)).alloc (.cells #[.int .u64 a1_0, .int .u64 a1_1] 24)).alloc (.cells #[.int .u64 0, .int .u64 0] 24)) fun e w' =>
      e = .returned (.tuple #[.agg #[.int .u64 r1, .int .u64 r2], .bool r3]) ∧ Below (((w.alloc (.cells #[.int .u64 a0_0, .int .u64 a0_1] 24)).alloc (.cells #[.int .u64 a1_0, .int .u64 a1_1] 24)).alloc (.cells #[.int .u64 0, .int .u64 0] 24)).heap.size (((w.alloc (.cells #[.int .u64 a0_0, .int .u64 a0_1] 24)).alloc (.cells #[.int .u64 a1_0, .int .u64 a1_1] 24)).alloc (.cells #[.int .u64 0, .int .u64 0] 24)) w' := by
    have c0 : ∀ W : World, Below (((w.alloc (.cells #[.int .u64 a0_0, .int .u64 a0_1] 24)).alloc (.cells #[.int .u64 a1_0, .int .u64 a1_1] 24)).alloc (.cells #[.int .u64 0, .int .u64 0] 24)).heap.size (((w.alloc (.cells #[.int .u64 a0_0, .int .u64 a0_1] 24)).alloc (.cells #[.int .u64 a1_0, .int .u64 a1_1] 24)).alloc (.cells #[.int .u64 0, .int .u64 0] 24)) W → W.heap[w.heap.size]? = some (.cells #[.int .u64 a0_0, .int .u64 a0_1] 24) ∧ W.heap[w.heap.size + 1]? = some (.cells #[.int .u64 a1_0, .int .u64 a1_1] 24) ∧ w.heap.size + 1 < W.heap.size := by
      intro W hW
      have hs := hW.size
      simp only [World.size_alloc] at hs
      refine ⟨(hW.block _ (by simp only [World.size_alloc]; omega)).trans (blk_alloc (blk_alloc (MapKept.heap_alloc w _).1 _) _), (hW.block _ (by simp only [World.size_alloc]; omega)).trans (blk_alloc ?_ _), by omega⟩
      have := (MapKept.heap_alloc (w.alloc (.cells #[.int .u64 a0_0, .int .u64 a0_1] 24)) (.cells #[.int .u64 a1_0, .int .u64 a1_1] 24)).1
      rw [World.size_alloc] at this
      exact this
    split at h
    · rename_i hlt
      obtain ⟨rfl, rfl, rfl⟩ : (halves (N128 a0_0 a0_1 - N128 a1_0 a1_1)).1 = r1 ∧ (halves (N128 a0_0 a0_1 - N128 a1_0 a1_1)).2 = r2 ∧ true = r3 := by simpa using h
      refine tried_ret 103 _ _ _ _ (fun _ _ => rfl) (Lib.hid fun W hW => ?_)
      obtain ⟨k1, k2, k3⟩ := c0 W hW
      exact WideSub_1ret a0_0 a0_1 a1_0 a1_1 _ _ _ _ W (by unfold uint128_Uint128_Sub.f; rw [if_pos ⟨hu.1, hu.2.1, hu.2.2.1, hu.2.2.2, hlt⟩]) (by omega) (by omega) ((blk_cell k1 0).trans rfl) ((blk_cell k1 1).trans rfl) ((blk_cell k2 0).trans rfl) ((blk_cell k2 1).trans rfl)
    · rename_i hlt
      obtain ⟨rfl, rfl, rfl⟩ : (0 : Int) = r1 ∧ (0 : Int) = r2 ∧ false = r3 := by simpa using h
      refine tried_panics 103 _ _ (fun _ _ => rfl) (Lib.hid fun W hW => ?_)
      obtain ⟨k1, k2, k3⟩ := c0 W hW
      exact WideSub_1pan a0_0 a0_1 a1_0 a1_1 _ _ W hu hlt (by omega) (by omega) ((blk_cell k1 0).trans rfl) ((blk_cell k1 1).trans rfl) ((blk_cell k2 0).trans rfl) ((blk_cell k2 1).trans rfl)
  have HK := Lib.hid key
  clear key h hu
  go_enter Try.func59, Try.ntmps59
  go_wp2_with fail
  refine HK.out.mono ?_
  rintro e w1 ⟨rfl, hb⟩
  have hs := hb.size
  simp only [World.size_alloc] at hs
  have g2 : w1.heap[w.heap.size + 1 + 1]? = some (.cells #[.int .u64 0, .int .u64 0] 24) := (hb.block _ (by simp only [World.size_alloc]; omega)).trans (by
    have := (MapKept.heap_alloc ((w.alloc (.cells #[.int .u64 a0_0, .int .u64 a0_1] 24)).alloc (.cells #[.int .u64 a1_0, .int .u64 a1_1] 24)) (.cells #[.int .u64 0, .int .u64 0] 24)).1
    rw [World.size_alloc, World.size_alloc] at this
    exact this)
  have v0 : w1.cell? ⟨w.heap.size + 1 + 1, 0, none⟩ = some (.int .u64 0) := by rw [blk_cell g2]; rfl
  have v1 : w1.cell? ⟨w.heap.size + 1 + 1, 1, none⟩ = some (.int .u64 0) := by rw [blk_cell g2]; rfl
  have z0 : w1.frozen? ⟨w.heap.size + 1 + 1, 0, none⟩ = false := blk_frozen g2 0
  have z1 : w1.frozen? ⟨w.heap.size + 1 + 1, 1, none⟩ = false := blk_frozen g2 1
  have B : Below w.heap.size w w1 := ((((Below.refl w.heap.size w).alloc (Nat.le_refl _) _).alloc (by simp) _).alloc (by simp; omega) _).trans (hb.mono (by simp only [World.size_alloc]; omega))
  have HB := Lib.hid B
  clear hb g2 HK B
  go_wp2
  refine bodyPost_ret (v := .tuple #[.agg #[.int .u64 r1, .int .u64 r2], .bool r3]) (by simp [results, Try.results59, go_sem, v0, v1]) rfl ⟨rfl, (HB.out.setCell (p := ⟨w.heap.size + 1 + 1, 0, none⟩) (by simp; omega) _).setCell (p := ⟨w.heap.size + 1 + 1, 1, none⟩) (by simp; omega) _⟩

end Go.Proofs.Ytiifnofghicnaaa.PAll
