/- SumC: HvSum, HvSpU, HvSpR, HvStep, HvPk, HvNh, HvStep2, HvRem. -/
import Derived.Test.YtnehminojlocoaaDoorSumB
import Derived.Laws.Tables
import Derived.Great.BuildSlice
import Derived.Laws.MakeOwn
namespace Go.Proofs.YtnehminojlocoaaDoor.PAll
open Go.RowKit Go.Proofs.YtnehminojlocoaaDoorW.PrintWords Go.Proofs.YtnehminojlocoaaDoorW.PrintLast Go.Proofs.YtnehminojlocoaaDoorW.PrintMore
set_option linter.unusedVariables false
set_option linter.unusedSimpArgs false
/-- The state behind a text of n octets. -/
def hvS (y x : Nat → Int) (n : Nat) : Nat → Int := if n % 32 = 0 then updN (n / 32) (ini (keyN y)) x else hb (n % 32) (updN (n / 32) (ini (keyN y)) x) (fun i => if i < n % 32 then x (n / 32 * 32 + i) else 0)
theorem land32 (n : Nat) (h : n < 18446744073709551616) : n &&& 18446744073709551584 = n / 32 * 32 := by
  apply Nat.eq_of_testBit_eq
  intro i
  have e1 : (18446744073709551584 : Nat) = (2 ^ 59 - 1) <<< 5 := by decide
  have e2 : n / 32 * 32 = (n >>> 5) <<< 5 := by rw [Nat.shiftLeft_eq, Nat.shiftRight_eq_div_pow]
  rw [Nat.testBit_and, e1, e2, Nat.testBit_shiftLeft, Nat.testBit_shiftLeft, Nat.testBit_shiftRight, Nat.testBit_two_pow_sub_one]
  by_cases h5 : 5 ≤ i
  · rw [show 5 + (i - 5) = i by omega]
    by_cases h64 : i < 64
    · have h1 : i - 5 < 59 := by omega
      simp [h5, h1]
    · have h2 : n.testBit i = false := Nat.testBit_lt_two_pow (Nat.lt_of_lt_of_le (show n < 2 ^ 64 from h) (Nat.pow_le_pow_right (by decide) (by omega)))
      simp [h2]
  · simp [h5]
theorem andE (n : Nat) (h : n < 9223372036854775808) : (BitVec.ofInt 64 (n : Int) &&& BitVec.ofInt 64 (-32)).toNat = n / 32 * 32 := by
  rw [BitVec.toNat_and]
  have e1 : (BitVec.ofInt 64 (n : Int)).toNat = n := by
    rw [BitVec.toNat_ofInt]
    omega
  have e2 : (BitVec.ofInt 64 (-32)).toNat = 18446744073709551584 := by decide
  rw [e1, e2]
  exact land32 n (by omega)
theorem andm32 (n : Nat) (h : n < 9223372036854775808) : Go.bits .and .i64 (n : Int) (-32) = ((n / 32 * 32 : Nat) : Int) := by
  show IntKind.i64.wrap ((BitVec.ofInt 64 (n : Int) &&& BitVec.ofInt 64 (-32)).toNat : Int) = _
  rw [andE n h, i64_w]
  unfold wrap64
  omega
theorem arr_all (t e : TypeId) (k : Nat) (ht : Tryd.prog.underlying t = some (.array k e)) (hs : ∀ w, (Go.sizeOf e).run Tryd.prog w = .ok 1 w) (hk : 0 < k) (W : World) (b i : Nat) : (Instr.sliceAt t (.pointer (some ⟨b, i, none⟩)) none none none).run Tryd.prog W = .ok (.slice (some ⟨b, i, none⟩) k k) W := by
  have h2 : ¬ k = 0 := by omega
  simp [go_sem, Instr.sliceAt, Instr.sliceBounds, und ht, hs, Addr.add, h2]
theorem store_ops {P : Program} {ops : Array Oper} {Q : Exit → Act → World → Prop} {N : Nat} {β : Nat → Nat} {i b : Nat} {o : Oper} {t : TypeId} {x y : Operand} {cs : Array Value} {l : List Nat} {a : Act} {w w1 : World} {E : List (Nat × SV)} (ho : ops[i]? = some o) (hg : o.guard = none) (hd : o.dst = none) (hA : Has N β E a) (hop : o.op = .store t x y) (hx : a.eval x = .pointer (some ⟨b, 0, none⟩)) (hy : a.eval y = .agg cs)
    (hst : (storeVar t ⟨b, 0, none⟩ (.agg cs)).run P w = .ok () w1) (h : wpOps P ops Q l a w1) : wpOps P ops Q (i :: l) a w := by
  have hrun : (execOp a.eval o).run P w = .ok .skip w1 := by
    unfold execOp
    rw [hop]
    simp only [hx, hy, Instr.storeAt, Instr.sureAddr, Sem.run_bind, Sem.run_pure, Result.andThen_ok, hst]
  unfold wpOps
  simp only [ho]
  rw [if_pos (want_ hg)]
  refine Or.inl ?_
  unfold Oper.wp
  rw [hrun, Oper.upon_skip, hd]
  exact h
noncomputable def c8_13 : Code := match Tryd.f27.body with
  | some (.seq _ (.seq _ (.seq _ (.seq _ (.seq _ (.seq _ c)))))) => c
  | _ => .skip
noncomputable def c8_9 : Code := match Tryd.f27.body with
  | some (.seq _ (.seq _ (.seq _ (.seq _ (.seq _ c))))) => c
  | _ => .skip
def res8 (S : Nat → Int) : Value := .int .u64 (le8 (byt (add4 (mixN 4 S) 0 4 8 12)))
noncomputable def c16_13 : Code := match Tryd.f28.body with
  | some (.seq _ (.seq _ (.seq _ (.seq _ (.seq _ (.seq _ c)))))) => c
  | _ => .skip
noncomputable def c16_9 : Code := match Tryd.f28.body with
  | some (.seq _ (.seq _ (.seq _ (.seq _ (.seq _ c))))) => c
  | _ => .skip
def res16 (S : Nat → Int) : Value := .agg ((List.range 16).map (fin16 (mixN 6 S) (fun _ => .int .u8 0))).toArray
noncomputable def c32_13 : Code := match Tryd.f29.body with
  | some (.seq _ (.seq _ (.seq _ (.seq _ (.seq _ (.seq _ c)))))) => c
  | _ => .skip
noncomputable def c32_9 : Code := match Tryd.f29.body with
  | some (.seq _ (.seq _ (.seq _ (.seq _ (.seq _ c))))) => c
  | _ => .skip
def res32 (S : Nat → Int) : Value := .agg ((List.range 32).map (fin32 (mixN 10 S) (fun _ => .int .u8 0))).toArray
end Go.Proofs.YtnehminojlocoaaDoor.PAll
namespace Go.Proofs.YtnehminojlocoaaDoor.PAll
open Go.RowKit Go.Proofs.YtnehminojlocoaaDoorW.PrintWords Go.Proofs.YtnehminojlocoaaDoorW.PrintLast Go.Proofs.YtnehminojlocoaaDoorW.PrintMore
set_option linter.unusedVariables false
set_option linter.unusedSimpArgs false
theorem op_box {P : Program} {ρ : Operand → Value} {o : Oper} {t : TypeId} {x : Operand} {cs : Array Value} (ho : o.op = .box t x) (hx : ρ x = .agg cs) (W : World) : (execOp ρ o).run P W = .ok (.value (.pointer (some ⟨W.heap.size, 0, none⟩))) (W.alloc (.cells cs t)) := by
  unfold execOp
  rw [ho]
  simp [go_sem, hx]
theorem box_ops {P : Program} {ops : Array Oper} {Q : Exit → Act → World → Prop} {N : Nat} {β : Nat → Nat} {i d : Nat} {t : TypeId} {x : Operand} {cs : Array Value} {o : Oper} {l : List Nat} {a : Act} {w : World} {E : List (Nat × SV)} (ho : ops[i]? = some o) (hg : o.guard = none) (hd : o.dst = some d) (hN : d < N) (hA : Has N β E a) (hop : o.op = .box t x) (hx : a.eval x = .agg cs)
    (h : ∀ a', Has N β ((d, .v (.pointer (some ⟨w.heap.size, 0, none⟩))) :: E) a' → a'.defers = a.defers → wpOps P ops Q l a' (w.alloc (.cells cs t))) : wpOps P ops Q (i :: l) a w := by
  unfold wpOps
  simp only [ho]
  rw [if_pos (want_ hg)]
  refine Or.inl ?_
  unfold Oper.wp
  rw [op_box hop hx w, Oper.upon_value, hd]
  exact h _ (hA.put d hN (.v _)) rfl
/-- The published steps mix two numbers: the lower one, the higher one. -/
def pLo (one zero : Int) : Int := ((spec_zipped.f one zero).getD (0, 0)).2
def pHi (one zero : Int) : Int := ((spec_zipped.f one zero).getD (0, 0)).1
theorem oct_some (n f t : Int) (hf : 0 ≤ wrap64 (8 * f)) (ht : 0 ≤ wrap64 (8 * t)) : spec_octet.f n f t = some (shl .u64 (Go.bits .and .u64 (shr .u64 n (wrap64 (8 * f))) 255) (wrap64 (8 * t))) := by
  unfold spec_octet.f
  rw [if_pos hf, if_pos ht]
theorem zip_some (one zero : Int) : ∃ r, spec_zipped.f one zero = some r := by
  unfold spec_zipped.f
  rw [oct_some _ 3 0 (by decide +kernel) (by decide +kernel), Option.bind_some]
  rw [oct_some _ 4 1 (by decide +kernel) (by decide +kernel), Option.bind_some]
  rw [oct_some _ 2 2 (by decide +kernel) (by decide +kernel), Option.bind_some]
  rw [oct_some _ 5 3 (by decide +kernel) (by decide +kernel), Option.bind_some]
  rw [oct_some _ 6 4 (by decide +kernel) (by decide +kernel), Option.bind_some]
  rw [oct_some _ 1 5 (by decide +kernel) (by decide +kernel), Option.bind_some]
  rw [oct_some _ 7 6 (by decide +kernel) (by decide +kernel), Option.bind_some]
  rw [oct_some _ 0 7 (by decide +kernel) (by decide +kernel), Option.bind_some]
  rw [oct_some _ 3 0 (by decide +kernel) (by decide +kernel), Option.bind_some]
  rw [oct_some _ 4 1 (by decide +kernel) (by decide +kernel), Option.bind_some]
  rw [oct_some _ 2 2 (by decide +kernel) (by decide +kernel), Option.bind_some]
  rw [oct_some _ 5 3 (by decide +kernel) (by decide +kernel), Option.bind_some]
  rw [oct_some _ 1 4 (by decide +kernel) (by decide +kernel), Option.bind_some]
  rw [oct_some _ 6 5 (by decide +kernel) (by decide +kernel), Option.bind_some]
  rw [oct_some _ 0 6 (by decide +kernel) (by decide +kernel), Option.bind_some]
  rw [oct_some _ 7 7 (by decide +kernel) (by decide +kernel), Option.bind_some]
  exact ⟨_, rfl⟩
theorem zip_walk (one zero : Int) (w : World) : Calls Tryd.prog 45 #[.int .u64 one, .int .u64 zero] w fun e w' => e = .returned (.tuple #[.int .u64 (pHi one zero), .int .u64 (pLo one zero)]) ∧ Drawn0 w w' := by
  have h : spec_zipped.f one zero = some (pHi one zero, pLo one zero) := by
    obtain ⟨r, hr⟩ := zip_some one zero
    unfold pHi pLo
    rw [hr]
    rfl
  exact spec_zipped.calls one zero _ _ w h
def q1 (s : Nat → Int) (i : Nat) (l : Int) : Nat → Int := upd s (4 + i) (IntKind.u64.wrap (s (4 + i) + IntKind.u64.wrap (s (8 + i) + l)))
def q2 (s : Nat → Int) (i : Nat) : Nat → Int := upd s (8 + i) (Go.bits .xor .u64 (s (8 + i)) (IntKind.u64.wrap (Go.bits .and .u64 (s (4 + i)) 4294967295 * (s i / 4294967296))))
def q3 (s : Nat → Int) (i : Nat) : Nat → Int := upd s i (IntKind.u64.wrap (s i + s (12 + i)))
def q4 (s : Nat → Int) (i : Nat) : Nat → Int := upd s (12 + i) (Go.bits .xor .u64 (s (12 + i)) (IntKind.u64.wrap (Go.bits .and .u64 (s i) 4294967295 * (s (4 + i) / 4294967296))))
def q5 (s : Nat → Int) (f t i : Nat) : Nat → Int := zs (zs s (t + (i + 1)) (pHi (s (f + (i + 1))) (s (f + i)))) (t + i) (pLo (s (f + (i + 1))) (s (f + i)))
def qr (s : Nat → Int) (i : Nat) (l : Int) : Nat → Int := q4 (q3 (q2 (q1 s i l) i) i) i
/-- A state takes in four numbers, by the published steps. -/
def US (s : Nat → Int) (l : Nat → Int) : Nat → Int := q5 (q5 (q5 (q5 (qr (qr (qr (qr s 0 (l 0)) 1 (l 1)) 2 (l 2)) 3 (l 3)) 4 0 0) 4 0 2) 0 4 0) 0 4 2
theorem stm_upd (s : Nat → Int) (m : Nat → Value) (i : Nat) (x : Int) (h : i < 16) : upm (stm s m) i (.int .u64 x) = stm (upd s i x) m := by
  funext j
  unfold upm stm upd
  by_cases e : j = i
  · subst e
    rw [if_pos rfl, if_pos h, if_pos rfl]
  · rw [if_neg e]
    by_cases h2 : j < 16
    · rw [if_pos h2, if_pos h2, if_neg e]
    · rw [if_neg h2, if_neg h2]
noncomputable def up1 : Code := match Tryd.f36.body with
  | some (.seq _ c) => c
  | _ => .skip
set_option maxHeartbeats 8000000 in
set_option maxRecDepth 100000 in
theorem us_rest (g T lb : Nat) (s l : Nat → Int) (m : Nat → Value) (w W0 : World) (a0 : Act) (β : Nat → Nat) (M0 : Mw β [⟨g, T, 16, (stm s m)⟩, ⟨lb, 61, 4, (fun i => .int .u64 (l i))⟩] W0) (F0 : Fr [g] w W0) (h0 : Has 189 β [(0, .p 0 0), (3, .p 1 0)] a0) (d0 : a0.defers = []) :
    Code.wp Tryd.prog up1 (bodyPost Tryd.prog Tryd.f36 fun e w' => e = .returned (.tuple #[]) ∧ (⟨g, T, 16, stm (US s l) m⟩ : Bl).In w' ∧ Fr [g] w w') a0 W0 := by
  obtain ⟨rfl, _⟩ := id M0
  refine wp_seq ?_
  refine wp_seq ?_
  refine regM_seq (N := 189) (T := TT) (n := 1) (E2 := [(0, .p 0 0), (3, .p 1 0), (11, .v (.int .i64 0))]) tabOk h0 M0 rfl (by kernel_rfl) ⟨by kernel_rfl, by kernel_rfl, by kernel_rfl, trivial⟩ (fun a1 h1 d1 => ?_)
  show Code.wp _ _ _ _ _
  replace d1 := d1.trans d0
  clear h0 d0
  refine wp_block ?_
  refine wp_loop_rounds 5 ?_
  rw [rounds_succ]
  refine wp_seq ?_
  refine regM_seq (N := 189) (T := TT) (n := 1) (E2 := [(0, .p 0 0), (3, .p 1 0), (11, .v (.int .i64 0)), (12, .v (.bool true))]) tabOk h1 M0 rfl (by kernel_rfl) ⟨by kernel_rfl, by kernel_rfl, by kernel_rfl, by kernel_rfl, trivial⟩ (fun a2 h2 d2 => ?_)
  show Code.wp _ _ _ _ _
  replace d2 := d2.trans d1
  clear h1 d1
  refine wp_seq ?_
  refine wp_cond_true (h2.2 12 _ rfl) ?_
  refine wp_skip ?_
  show Code.wp _ _ _ _ _
  refine wp_seq ?_
  refine wp_block ?_
  refine wp_seq ?_
  refine regM_seq (N := 189) (T := TT) (n := 2) (E2 := [(0, .p 0 0), (3, .p 1 0), (4, .v (.int .i64 0)), (11, .v (.int .i64 0))]) tabOk h2 M0 rfl (by kernel_rfl) ⟨by kernel_rfl, by kernel_rfl, by kernel_rfl, by kernel_rfl, trivial⟩ (fun a3 h3 d3 => ?_)
  show Code.wp _ _ _ _ _
  replace d3 := d3.trans d2
  clear h2 d2
  refine wp_seq ?_
  refine regM_store (N := 189) (T := TT) (n := 20) (k := 0) (i := 4) (u := .int .u64 (IntKind.u64.wrap ((s 4) + (IntKind.u64.wrap ((s 8) + (l 0)))))) (E2 := [(0, .p 0 0), (3, .p 1 0), (4, .v (.int .i64 0)), (11, .v (.int .i64 0))]) (by kernel_rfl) tabOk h3 M0 rfl (by kernel_rfl) (by kernel_rfl) rfl ⟨by kernel_rfl, by kernel_rfl, by kernel_rfl, by kernel_rfl, trivial⟩ (fun _ _ _ _ hd h => And.intro (hd.trans (And.left h)) (And.right h)) (fun a4 W4 h4 d4 M4 G4 => ?_)
  show Code.wp _ _ _ _ _
  replace d4 := d4.trans d3
  replace M4 : Mw (bg [⟨g, T, 16, (stm s m)⟩, ⟨lb, 61, 4, (fun i => .int .u64 (l i))⟩]) [⟨g, T, 16, (upm (stm s m) 4 (.int .u64 (IntKind.u64.wrap ((s 4) + (IntKind.u64.wrap ((s 8) + (l 0)))))))⟩, ⟨lb, 61, 4, (fun i => .int .u64 (l i))⟩] W4 := M4
  have F4 := Fr.comp F0 G4 (fun x hx => Or.inl (by simp at hx; subst hx; simp))
  clear F0 G4
  clear h3 d3 M0
  rw [stm_upd _ _ _ _ (by decide)] at M4
  have e1 : q1 s 0 (l 0) = upd s 4 (IntKind.u64.wrap ((s 4) + (IntKind.u64.wrap ((s 8) + (l 0))))) := rfl
  rw [← e1] at M4
  clear e1
  generalize t1 : q1 s 0 (l 0) = s1 at M4
  refine wp_seq ?_
  refine regM_store (N := 189) (T := TT) (n := 25) (k := 0) (i := 8) (u := .int .u64 (Go.bits .xor .u64 (s1 8) (IntKind.u64.wrap (Go.bits .and .u64 (s1 4) 4294967295 * ((s1 0) / 4294967296))))) (E2 := [(0, .p 0 0), (3, .p 1 0), (4, .v (.int .i64 0)), (11, .v (.int .i64 0))]) (by kernel_rfl) tabOk h4 M4 rfl (by kernel_rfl) (by kernel_rfl) rfl ⟨by kernel_rfl, by kernel_rfl, by kernel_rfl, by kernel_rfl, trivial⟩ (fun _ _ _ _ hd h => And.intro (hd.trans (And.left h)) (And.right h)) (fun a5 W5 h5 d5 M5 G5 => ?_)
  show Code.wp _ _ _ _ _
  replace d5 := d5.trans d4
  replace M5 : Mw (bg [⟨g, T, 16, (stm s m)⟩, ⟨lb, 61, 4, (fun i => .int .u64 (l i))⟩]) [⟨g, T, 16, (upm (stm s1 m) 8 (.int .u64 (Go.bits .xor .u64 (s1 8) (IntKind.u64.wrap (Go.bits .and .u64 (s1 4) 4294967295 * ((s1 0) / 4294967296))))))⟩, ⟨lb, 61, 4, (fun i => .int .u64 (l i))⟩] W5 := M5
  have F5 := Fr.comp F4 G5 (fun x hx => Or.inl (by simp at hx; subst hx; simp))
  clear F4 G5
  clear h4 d4 M4
  rw [stm_upd _ _ _ _ (by decide)] at M5
  have e2 : q2 s1 0 = upd s1 8 (Go.bits .xor .u64 (s1 8) (IntKind.u64.wrap (Go.bits .and .u64 (s1 4) 4294967295 * ((s1 0) / 4294967296)))) := rfl
  rw [← e2] at M5
  clear e2
  generalize t2 : q2 s1 0 = s2 at M5
  refine wp_seq ?_
  refine regM_store (N := 189) (T := TT) (n := 16) (k := 0) (i := 0) (u := .int .u64 (IntKind.u64.wrap ((s2 0) + (s2 12)))) (E2 := [(0, .p 0 0), (3, .p 1 0), (4, .v (.int .i64 0)), (11, .v (.int .i64 0))]) (by kernel_rfl) tabOk h5 M5 rfl (by kernel_rfl) (by kernel_rfl) rfl ⟨by kernel_rfl, by kernel_rfl, by kernel_rfl, by kernel_rfl, trivial⟩ (fun _ _ _ _ hd h => And.intro (hd.trans (And.left h)) (And.right h)) (fun a6 W6 h6 d6 M6 G6 => ?_)
  show Code.wp _ _ _ _ _
  replace d6 := d6.trans d5
  replace M6 : Mw (bg [⟨g, T, 16, (stm s m)⟩, ⟨lb, 61, 4, (fun i => .int .u64 (l i))⟩]) [⟨g, T, 16, (upm (stm s2 m) 0 (.int .u64 (IntKind.u64.wrap ((s2 0) + (s2 12)))))⟩, ⟨lb, 61, 4, (fun i => .int .u64 (l i))⟩] W6 := M6
  have F6 := Fr.comp F5 G6 (fun x hx => Or.inl (by simp at hx; subst hx; simp))
  clear F5 G6
  clear h5 d5 M5
  rw [stm_upd _ _ _ _ (by decide)] at M6
  have e3 : q3 s2 0 = upd s2 0 (IntKind.u64.wrap ((s2 0) + (s2 12))) := rfl
  rw [← e3] at M6
  clear e3
  generalize t3 : q3 s2 0 = s3 at M6
  refine regM_store (N := 189) (T := TT) (n := 25) (k := 0) (i := 12) (u := .int .u64 (Go.bits .xor .u64 (s3 12) (IntKind.u64.wrap (Go.bits .and .u64 (s3 0) 4294967295 * ((s3 4) / 4294967296))))) (E2 := [(0, .p 0 0), (3, .p 1 0), (11, .v (.int .i64 0))]) (by kernel_rfl) tabOk h6 M6 rfl (by kernel_rfl) (by kernel_rfl) rfl ⟨by kernel_rfl, by kernel_rfl, by kernel_rfl, trivial⟩ (fun _ _ _ _ hd h => And.intro (hd.trans (And.left h)) (And.right h)) (fun a7 W7 h7 d7 M7 G7 => ?_)
  show Code.wp _ _ _ _ _
  replace d7 := d7.trans d6
  replace M7 : Mw (bg [⟨g, T, 16, (stm s m)⟩, ⟨lb, 61, 4, (fun i => .int .u64 (l i))⟩]) [⟨g, T, 16, (upm (stm s3 m) 12 (.int .u64 (Go.bits .xor .u64 (s3 12) (IntKind.u64.wrap (Go.bits .and .u64 (s3 0) 4294967295 * ((s3 4) / 4294967296))))))⟩, ⟨lb, 61, 4, (fun i => .int .u64 (l i))⟩] W7 := M7
  have F7 := Fr.comp F6 G7 (fun x hx => Or.inl (by simp at hx; subst hx; simp))
  clear F6 G7
  clear h6 d6 M6
  rw [stm_upd _ _ _ _ (by decide)] at M7
  have e4 : q4 s3 0 = upd s3 12 (Go.bits .xor .u64 (s3 12) (IntKind.u64.wrap (Go.bits .and .u64 (s3 0) 4294967295 * ((s3 4) / 4294967296)))) := rfl
  rw [← e4] at M7
  clear e4
  generalize t4 : q4 s3 0 = s4 at M7
  refine regM_seq (N := 189) (T := TT) (n := 2) (E2 := [(0, .p 0 0), (3, .p 1 0), (11, .v (.int .i64 1))]) tabOk h7 M7 rfl (by kernel_rfl) ⟨by kernel_rfl, by kernel_rfl, by kernel_rfl, trivial⟩ (fun a8 h8 d8 => ?_)
  replace d8 := d8.trans d7
  clear h7 d7
  show Code.rounds _ _ _ _ _ _
  rw [rounds_succ]
  refine wp_seq ?_
  refine regM_seq (N := 189) (T := TT) (n := 1) (E2 := [(0, .p 0 0), (3, .p 1 0), (11, .v (.int .i64 1)), (12, .v (.bool true))]) tabOk h8 M7 rfl (by kernel_rfl) ⟨by kernel_rfl, by kernel_rfl, by kernel_rfl, by kernel_rfl, trivial⟩ (fun a9 h9 d9 => ?_)
  show Code.wp _ _ _ _ _
  replace d9 := d9.trans d8
  clear h8 d8
  refine wp_seq ?_
  refine wp_cond_true (h9.2 12 _ rfl) ?_
  refine wp_skip ?_
  show Code.wp _ _ _ _ _
  refine wp_seq ?_
  refine wp_block ?_
  refine wp_seq ?_
  refine regM_seq (N := 189) (T := TT) (n := 2) (E2 := [(0, .p 0 0), (3, .p 1 0), (4, .v (.int .i64 1)), (11, .v (.int .i64 1))]) tabOk h9 M7 rfl (by kernel_rfl) ⟨by kernel_rfl, by kernel_rfl, by kernel_rfl, by kernel_rfl, trivial⟩ (fun a10 h10 d10 => ?_)
  show Code.wp _ _ _ _ _
  replace d10 := d10.trans d9
  clear h9 d9
  refine wp_seq ?_
  refine regM_store (N := 189) (T := TT) (n := 20) (k := 0) (i := 5) (u := .int .u64 (IntKind.u64.wrap ((s4 5) + (IntKind.u64.wrap ((s4 9) + (l 1)))))) (E2 := [(0, .p 0 0), (3, .p 1 0), (4, .v (.int .i64 1)), (11, .v (.int .i64 1))]) (by kernel_rfl) tabOk h10 M7 rfl (by kernel_rfl) (by kernel_rfl) rfl ⟨by kernel_rfl, by kernel_rfl, by kernel_rfl, by kernel_rfl, trivial⟩ (fun _ _ _ _ hd h => And.intro (hd.trans (And.left h)) (And.right h)) (fun a11 W11 h11 d11 M11 G11 => ?_)
  show Code.wp _ _ _ _ _
  replace d11 := d11.trans d10
  replace M11 : Mw (bg [⟨g, T, 16, (stm s m)⟩, ⟨lb, 61, 4, (fun i => .int .u64 (l i))⟩]) [⟨g, T, 16, (upm (stm s4 m) 5 (.int .u64 (IntKind.u64.wrap ((s4 5) + (IntKind.u64.wrap ((s4 9) + (l 1)))))))⟩, ⟨lb, 61, 4, (fun i => .int .u64 (l i))⟩] W11 := M11
  have F11 := Fr.comp F7 G11 (fun x hx => Or.inl (by simp at hx; subst hx; simp))
  clear F7 G11
  clear h10 d10 M7
  rw [stm_upd _ _ _ _ (by decide)] at M11
  have e5 : q1 s4 1 (l 1) = upd s4 5 (IntKind.u64.wrap ((s4 5) + (IntKind.u64.wrap ((s4 9) + (l 1))))) := rfl
  rw [← e5] at M11
  clear e5
  generalize t5 : q1 s4 1 (l 1) = s5 at M11
  refine wp_seq ?_
  refine regM_store (N := 189) (T := TT) (n := 25) (k := 0) (i := 9) (u := .int .u64 (Go.bits .xor .u64 (s5 9) (IntKind.u64.wrap (Go.bits .and .u64 (s5 5) 4294967295 * ((s5 1) / 4294967296))))) (E2 := [(0, .p 0 0), (3, .p 1 0), (4, .v (.int .i64 1)), (11, .v (.int .i64 1))]) (by kernel_rfl) tabOk h11 M11 rfl (by kernel_rfl) (by kernel_rfl) rfl ⟨by kernel_rfl, by kernel_rfl, by kernel_rfl, by kernel_rfl, trivial⟩ (fun _ _ _ _ hd h => And.intro (hd.trans (And.left h)) (And.right h)) (fun a12 W12 h12 d12 M12 G12 => ?_)
  show Code.wp _ _ _ _ _
  replace d12 := d12.trans d11
  replace M12 : Mw (bg [⟨g, T, 16, (stm s m)⟩, ⟨lb, 61, 4, (fun i => .int .u64 (l i))⟩]) [⟨g, T, 16, (upm (stm s5 m) 9 (.int .u64 (Go.bits .xor .u64 (s5 9) (IntKind.u64.wrap (Go.bits .and .u64 (s5 5) 4294967295 * ((s5 1) / 4294967296))))))⟩, ⟨lb, 61, 4, (fun i => .int .u64 (l i))⟩] W12 := M12
  have F12 := Fr.comp F11 G12 (fun x hx => Or.inl (by simp at hx; subst hx; simp))
  clear F11 G12
  clear h11 d11 M11
  rw [stm_upd _ _ _ _ (by decide)] at M12
  have e6 : q2 s5 1 = upd s5 9 (Go.bits .xor .u64 (s5 9) (IntKind.u64.wrap (Go.bits .and .u64 (s5 5) 4294967295 * ((s5 1) / 4294967296)))) := rfl
  rw [← e6] at M12
  clear e6
  generalize t6 : q2 s5 1 = s6 at M12
  refine wp_seq ?_
  refine regM_store (N := 189) (T := TT) (n := 16) (k := 0) (i := 1) (u := .int .u64 (IntKind.u64.wrap ((s6 1) + (s6 13)))) (E2 := [(0, .p 0 0), (3, .p 1 0), (4, .v (.int .i64 1)), (11, .v (.int .i64 1))]) (by kernel_rfl) tabOk h12 M12 rfl (by kernel_rfl) (by kernel_rfl) rfl ⟨by kernel_rfl, by kernel_rfl, by kernel_rfl, by kernel_rfl, trivial⟩ (fun _ _ _ _ hd h => And.intro (hd.trans (And.left h)) (And.right h)) (fun a13 W13 h13 d13 M13 G13 => ?_)
  show Code.wp _ _ _ _ _
  replace d13 := d13.trans d12
  replace M13 : Mw (bg [⟨g, T, 16, (stm s m)⟩, ⟨lb, 61, 4, (fun i => .int .u64 (l i))⟩]) [⟨g, T, 16, (upm (stm s6 m) 1 (.int .u64 (IntKind.u64.wrap ((s6 1) + (s6 13)))))⟩, ⟨lb, 61, 4, (fun i => .int .u64 (l i))⟩] W13 := M13
  have F13 := Fr.comp F12 G13 (fun x hx => Or.inl (by simp at hx; subst hx; simp))
  clear F12 G13
  clear h12 d12 M12
  rw [stm_upd _ _ _ _ (by decide)] at M13
  have e7 : q3 s6 1 = upd s6 1 (IntKind.u64.wrap ((s6 1) + (s6 13))) := rfl
  rw [← e7] at M13
  clear e7
  generalize t7 : q3 s6 1 = s7 at M13
  refine regM_store (N := 189) (T := TT) (n := 25) (k := 0) (i := 13) (u := .int .u64 (Go.bits .xor .u64 (s7 13) (IntKind.u64.wrap (Go.bits .and .u64 (s7 1) 4294967295 * ((s7 5) / 4294967296))))) (E2 := [(0, .p 0 0), (3, .p 1 0), (11, .v (.int .i64 1))]) (by kernel_rfl) tabOk h13 M13 rfl (by kernel_rfl) (by kernel_rfl) rfl ⟨by kernel_rfl, by kernel_rfl, by kernel_rfl, trivial⟩ (fun _ _ _ _ hd h => And.intro (hd.trans (And.left h)) (And.right h)) (fun a14 W14 h14 d14 M14 G14 => ?_)
  show Code.wp _ _ _ _ _
  replace d14 := d14.trans d13
  replace M14 : Mw (bg [⟨g, T, 16, (stm s m)⟩, ⟨lb, 61, 4, (fun i => .int .u64 (l i))⟩]) [⟨g, T, 16, (upm (stm s7 m) 13 (.int .u64 (Go.bits .xor .u64 (s7 13) (IntKind.u64.wrap (Go.bits .and .u64 (s7 1) 4294967295 * ((s7 5) / 4294967296))))))⟩, ⟨lb, 61, 4, (fun i => .int .u64 (l i))⟩] W14 := M14
  have F14 := Fr.comp F13 G14 (fun x hx => Or.inl (by simp at hx; subst hx; simp))
  clear F13 G14
  clear h13 d13 M13
  rw [stm_upd _ _ _ _ (by decide)] at M14
  have e8 : q4 s7 1 = upd s7 13 (Go.bits .xor .u64 (s7 13) (IntKind.u64.wrap (Go.bits .and .u64 (s7 1) 4294967295 * ((s7 5) / 4294967296)))) := rfl
  rw [← e8] at M14
  clear e8
  generalize t8 : q4 s7 1 = s8 at M14
  refine regM_seq (N := 189) (T := TT) (n := 2) (E2 := [(0, .p 0 0), (3, .p 1 0), (11, .v (.int .i64 2))]) tabOk h14 M14 rfl (by kernel_rfl) ⟨by kernel_rfl, by kernel_rfl, by kernel_rfl, trivial⟩ (fun a15 h15 d15 => ?_)
  replace d15 := d15.trans d14
  clear h14 d14
  show Code.rounds _ _ _ _ _ _
  rw [rounds_succ]
  refine wp_seq ?_
  refine regM_seq (N := 189) (T := TT) (n := 1) (E2 := [(0, .p 0 0), (3, .p 1 0), (11, .v (.int .i64 2)), (12, .v (.bool true))]) tabOk h15 M14 rfl (by kernel_rfl) ⟨by kernel_rfl, by kernel_rfl, by kernel_rfl, by kernel_rfl, trivial⟩ (fun a16 h16 d16 => ?_)
  show Code.wp _ _ _ _ _
  replace d16 := d16.trans d15
  clear h15 d15
  refine wp_seq ?_
  refine wp_cond_true (h16.2 12 _ rfl) ?_
  refine wp_skip ?_
  show Code.wp _ _ _ _ _
  refine wp_seq ?_
  refine wp_block ?_
  refine wp_seq ?_
  refine regM_seq (N := 189) (T := TT) (n := 2) (E2 := [(0, .p 0 0), (3, .p 1 0), (4, .v (.int .i64 2)), (11, .v (.int .i64 2))]) tabOk h16 M14 rfl (by kernel_rfl) ⟨by kernel_rfl, by kernel_rfl, by kernel_rfl, by kernel_rfl, trivial⟩ (fun a17 h17 d17 => ?_)
  show Code.wp _ _ _ _ _
  replace d17 := d17.trans d16
  clear h16 d16
  refine wp_seq ?_
  refine regM_store (N := 189) (T := TT) (n := 20) (k := 0) (i := 6) (u := .int .u64 (IntKind.u64.wrap ((s8 6) + (IntKind.u64.wrap ((s8 10) + (l 2)))))) (E2 := [(0, .p 0 0), (3, .p 1 0), (4, .v (.int .i64 2)), (11, .v (.int .i64 2))]) (by kernel_rfl) tabOk h17 M14 rfl (by kernel_rfl) (by kernel_rfl) rfl ⟨by kernel_rfl, by kernel_rfl, by kernel_rfl, by kernel_rfl, trivial⟩ (fun _ _ _ _ hd h => And.intro (hd.trans (And.left h)) (And.right h)) (fun a18 W18 h18 d18 M18 G18 => ?_)
  show Code.wp _ _ _ _ _
  replace d18 := d18.trans d17
  replace M18 : Mw (bg [⟨g, T, 16, (stm s m)⟩, ⟨lb, 61, 4, (fun i => .int .u64 (l i))⟩]) [⟨g, T, 16, (upm (stm s8 m) 6 (.int .u64 (IntKind.u64.wrap ((s8 6) + (IntKind.u64.wrap ((s8 10) + (l 2)))))))⟩, ⟨lb, 61, 4, (fun i => .int .u64 (l i))⟩] W18 := M18
  have F18 := Fr.comp F14 G18 (fun x hx => Or.inl (by simp at hx; subst hx; simp))
  clear F14 G18
  clear h17 d17 M14
  rw [stm_upd _ _ _ _ (by decide)] at M18
  have e9 : q1 s8 2 (l 2) = upd s8 6 (IntKind.u64.wrap ((s8 6) + (IntKind.u64.wrap ((s8 10) + (l 2))))) := rfl
  rw [← e9] at M18
  clear e9
  generalize t9 : q1 s8 2 (l 2) = s9 at M18
  refine wp_seq ?_
  refine regM_store (N := 189) (T := TT) (n := 25) (k := 0) (i := 10) (u := .int .u64 (Go.bits .xor .u64 (s9 10) (IntKind.u64.wrap (Go.bits .and .u64 (s9 6) 4294967295 * ((s9 2) / 4294967296))))) (E2 := [(0, .p 0 0), (3, .p 1 0), (4, .v (.int .i64 2)), (11, .v (.int .i64 2))]) (by kernel_rfl) tabOk h18 M18 rfl (by kernel_rfl) (by kernel_rfl) rfl ⟨by kernel_rfl, by kernel_rfl, by kernel_rfl, by kernel_rfl, trivial⟩ (fun _ _ _ _ hd h => And.intro (hd.trans (And.left h)) (And.right h)) (fun a19 W19 h19 d19 M19 G19 => ?_)
  show Code.wp _ _ _ _ _
  replace d19 := d19.trans d18
  replace M19 : Mw (bg [⟨g, T, 16, (stm s m)⟩, ⟨lb, 61, 4, (fun i => .int .u64 (l i))⟩]) [⟨g, T, 16, (upm (stm s9 m) 10 (.int .u64 (Go.bits .xor .u64 (s9 10) (IntKind.u64.wrap (Go.bits .and .u64 (s9 6) 4294967295 * ((s9 2) / 4294967296))))))⟩, ⟨lb, 61, 4, (fun i => .int .u64 (l i))⟩] W19 := M19
  have F19 := Fr.comp F18 G19 (fun x hx => Or.inl (by simp at hx; subst hx; simp))
  clear F18 G19
  clear h18 d18 M18
  rw [stm_upd _ _ _ _ (by decide)] at M19
  have e10 : q2 s9 2 = upd s9 10 (Go.bits .xor .u64 (s9 10) (IntKind.u64.wrap (Go.bits .and .u64 (s9 6) 4294967295 * ((s9 2) / 4294967296)))) := rfl
  rw [← e10] at M19
  clear e10
  generalize t10 : q2 s9 2 = s10 at M19
  refine wp_seq ?_
  refine regM_store (N := 189) (T := TT) (n := 16) (k := 0) (i := 2) (u := .int .u64 (IntKind.u64.wrap ((s10 2) + (s10 14)))) (E2 := [(0, .p 0 0), (3, .p 1 0), (4, .v (.int .i64 2)), (11, .v (.int .i64 2))]) (by kernel_rfl) tabOk h19 M19 rfl (by kernel_rfl) (by kernel_rfl) rfl ⟨by kernel_rfl, by kernel_rfl, by kernel_rfl, by kernel_rfl, trivial⟩ (fun _ _ _ _ hd h => And.intro (hd.trans (And.left h)) (And.right h)) (fun a20 W20 h20 d20 M20 G20 => ?_)
  show Code.wp _ _ _ _ _
  replace d20 := d20.trans d19
  replace M20 : Mw (bg [⟨g, T, 16, (stm s m)⟩, ⟨lb, 61, 4, (fun i => .int .u64 (l i))⟩]) [⟨g, T, 16, (upm (stm s10 m) 2 (.int .u64 (IntKind.u64.wrap ((s10 2) + (s10 14)))))⟩, ⟨lb, 61, 4, (fun i => .int .u64 (l i))⟩] W20 := M20
  have F20 := Fr.comp F19 G20 (fun x hx => Or.inl (by simp at hx; subst hx; simp))
  clear F19 G20
  clear h19 d19 M19
  rw [stm_upd _ _ _ _ (by decide)] at M20
  have e11 : q3 s10 2 = upd s10 2 (IntKind.u64.wrap ((s10 2) + (s10 14))) := rfl
  rw [← e11] at M20
  clear e11
  generalize t11 : q3 s10 2 = s11 at M20
  refine regM_store (N := 189) (T := TT) (n := 25) (k := 0) (i := 14) (u := .int .u64 (Go.bits .xor .u64 (s11 14) (IntKind.u64.wrap (Go.bits .and .u64 (s11 2) 4294967295 * ((s11 6) / 4294967296))))) (E2 := [(0, .p 0 0), (3, .p 1 0), (11, .v (.int .i64 2))]) (by kernel_rfl) tabOk h20 M20 rfl (by kernel_rfl) (by kernel_rfl) rfl ⟨by kernel_rfl, by kernel_rfl, by kernel_rfl, trivial⟩ (fun _ _ _ _ hd h => And.intro (hd.trans (And.left h)) (And.right h)) (fun a21 W21 h21 d21 M21 G21 => ?_)
  show Code.wp _ _ _ _ _
  replace d21 := d21.trans d20
  replace M21 : Mw (bg [⟨g, T, 16, (stm s m)⟩, ⟨lb, 61, 4, (fun i => .int .u64 (l i))⟩]) [⟨g, T, 16, (upm (stm s11 m) 14 (.int .u64 (Go.bits .xor .u64 (s11 14) (IntKind.u64.wrap (Go.bits .and .u64 (s11 2) 4294967295 * ((s11 6) / 4294967296))))))⟩, ⟨lb, 61, 4, (fun i => .int .u64 (l i))⟩] W21 := M21
  have F21 := Fr.comp F20 G21 (fun x hx => Or.inl (by simp at hx; subst hx; simp))
  clear F20 G21
  clear h20 d20 M20
  rw [stm_upd _ _ _ _ (by decide)] at M21
  have e12 : q4 s11 2 = upd s11 14 (Go.bits .xor .u64 (s11 14) (IntKind.u64.wrap (Go.bits .and .u64 (s11 2) 4294967295 * ((s11 6) / 4294967296)))) := rfl
  rw [← e12] at M21
  clear e12
  generalize t12 : q4 s11 2 = s12 at M21
  refine regM_seq (N := 189) (T := TT) (n := 2) (E2 := [(0, .p 0 0), (3, .p 1 0), (11, .v (.int .i64 3))]) tabOk h21 M21 rfl (by kernel_rfl) ⟨by kernel_rfl, by kernel_rfl, by kernel_rfl, trivial⟩ (fun a22 h22 d22 => ?_)
  replace d22 := d22.trans d21
  clear h21 d21
  show Code.rounds _ _ _ _ _ _
  rw [rounds_succ]
  refine wp_seq ?_
  refine regM_seq (N := 189) (T := TT) (n := 1) (E2 := [(0, .p 0 0), (3, .p 1 0), (11, .v (.int .i64 3)), (12, .v (.bool true))]) tabOk h22 M21 rfl (by kernel_rfl) ⟨by kernel_rfl, by kernel_rfl, by kernel_rfl, by kernel_rfl, trivial⟩ (fun a23 h23 d23 => ?_)
  show Code.wp _ _ _ _ _
  replace d23 := d23.trans d22
  clear h22 d22
  refine wp_seq ?_
  refine wp_cond_true (h23.2 12 _ rfl) ?_
  refine wp_skip ?_
  show Code.wp _ _ _ _ _
  refine wp_seq ?_
  refine wp_block ?_
  refine wp_seq ?_
  refine regM_seq (N := 189) (T := TT) (n := 2) (E2 := [(0, .p 0 0), (3, .p 1 0), (4, .v (.int .i64 3)), (11, .v (.int .i64 3))]) tabOk h23 M21 rfl (by kernel_rfl) ⟨by kernel_rfl, by kernel_rfl, by kernel_rfl, by kernel_rfl, trivial⟩ (fun a24 h24 d24 => ?_)
  show Code.wp _ _ _ _ _
  replace d24 := d24.trans d23
  clear h23 d23
  refine wp_seq ?_
  refine regM_store (N := 189) (T := TT) (n := 20) (k := 0) (i := 7) (u := .int .u64 (IntKind.u64.wrap ((s12 7) + (IntKind.u64.wrap ((s12 11) + (l 3)))))) (E2 := [(0, .p 0 0), (3, .p 1 0), (4, .v (.int .i64 3)), (11, .v (.int .i64 3))]) (by kernel_rfl) tabOk h24 M21 rfl (by kernel_rfl) (by kernel_rfl) rfl ⟨by kernel_rfl, by kernel_rfl, by kernel_rfl, by kernel_rfl, trivial⟩ (fun _ _ _ _ hd h => And.intro (hd.trans (And.left h)) (And.right h)) (fun a25 W25 h25 d25 M25 G25 => ?_)
  show Code.wp _ _ _ _ _
  replace d25 := d25.trans d24
  replace M25 : Mw (bg [⟨g, T, 16, (stm s m)⟩, ⟨lb, 61, 4, (fun i => .int .u64 (l i))⟩]) [⟨g, T, 16, (upm (stm s12 m) 7 (.int .u64 (IntKind.u64.wrap ((s12 7) + (IntKind.u64.wrap ((s12 11) + (l 3)))))))⟩, ⟨lb, 61, 4, (fun i => .int .u64 (l i))⟩] W25 := M25
  have F25 := Fr.comp F21 G25 (fun x hx => Or.inl (by simp at hx; subst hx; simp))
  clear F21 G25
  clear h24 d24 M21
  rw [stm_upd _ _ _ _ (by decide)] at M25
  have e13 : q1 s12 3 (l 3) = upd s12 7 (IntKind.u64.wrap ((s12 7) + (IntKind.u64.wrap ((s12 11) + (l 3))))) := rfl
  rw [← e13] at M25
  clear e13
  generalize t13 : q1 s12 3 (l 3) = s13 at M25
  refine wp_seq ?_
  refine regM_store (N := 189) (T := TT) (n := 25) (k := 0) (i := 11) (u := .int .u64 (Go.bits .xor .u64 (s13 11) (IntKind.u64.wrap (Go.bits .and .u64 (s13 7) 4294967295 * ((s13 3) / 4294967296))))) (E2 := [(0, .p 0 0), (3, .p 1 0), (4, .v (.int .i64 3)), (11, .v (.int .i64 3))]) (by kernel_rfl) tabOk h25 M25 rfl (by kernel_rfl) (by kernel_rfl) rfl ⟨by kernel_rfl, by kernel_rfl, by kernel_rfl, by kernel_rfl, trivial⟩ (fun _ _ _ _ hd h => And.intro (hd.trans (And.left h)) (And.right h)) (fun a26 W26 h26 d26 M26 G26 => ?_)
  show Code.wp _ _ _ _ _
  replace d26 := d26.trans d25
  replace M26 : Mw (bg [⟨g, T, 16, (stm s m)⟩, ⟨lb, 61, 4, (fun i => .int .u64 (l i))⟩]) [⟨g, T, 16, (upm (stm s13 m) 11 (.int .u64 (Go.bits .xor .u64 (s13 11) (IntKind.u64.wrap (Go.bits .and .u64 (s13 7) 4294967295 * ((s13 3) / 4294967296))))))⟩, ⟨lb, 61, 4, (fun i => .int .u64 (l i))⟩] W26 := M26
  have F26 := Fr.comp F25 G26 (fun x hx => Or.inl (by simp at hx; subst hx; simp))
  clear F25 G26
  clear h25 d25 M25
  rw [stm_upd _ _ _ _ (by decide)] at M26
  have e14 : q2 s13 3 = upd s13 11 (Go.bits .xor .u64 (s13 11) (IntKind.u64.wrap (Go.bits .and .u64 (s13 7) 4294967295 * ((s13 3) / 4294967296)))) := rfl
  rw [← e14] at M26
  clear e14
  generalize t14 : q2 s13 3 = s14 at M26
  refine wp_seq ?_
  refine regM_store (N := 189) (T := TT) (n := 16) (k := 0) (i := 3) (u := .int .u64 (IntKind.u64.wrap ((s14 3) + (s14 15)))) (E2 := [(0, .p 0 0), (3, .p 1 0), (4, .v (.int .i64 3)), (11, .v (.int .i64 3))]) (by kernel_rfl) tabOk h26 M26 rfl (by kernel_rfl) (by kernel_rfl) rfl ⟨by kernel_rfl, by kernel_rfl, by kernel_rfl, by kernel_rfl, trivial⟩ (fun _ _ _ _ hd h => And.intro (hd.trans (And.left h)) (And.right h)) (fun a27 W27 h27 d27 M27 G27 => ?_)
  show Code.wp _ _ _ _ _
  replace d27 := d27.trans d26
  replace M27 : Mw (bg [⟨g, T, 16, (stm s m)⟩, ⟨lb, 61, 4, (fun i => .int .u64 (l i))⟩]) [⟨g, T, 16, (upm (stm s14 m) 3 (.int .u64 (IntKind.u64.wrap ((s14 3) + (s14 15)))))⟩, ⟨lb, 61, 4, (fun i => .int .u64 (l i))⟩] W27 := M27
  have F27 := Fr.comp F26 G27 (fun x hx => Or.inl (by simp at hx; subst hx; simp))
  clear F26 G27
  clear h26 d26 M26
  rw [stm_upd _ _ _ _ (by decide)] at M27
  have e15 : q3 s14 3 = upd s14 3 (IntKind.u64.wrap ((s14 3) + (s14 15))) := rfl
  rw [← e15] at M27
  clear e15
  generalize t15 : q3 s14 3 = s15 at M27
  refine regM_store (N := 189) (T := TT) (n := 25) (k := 0) (i := 15) (u := .int .u64 (Go.bits .xor .u64 (s15 15) (IntKind.u64.wrap (Go.bits .and .u64 (s15 3) 4294967295 * ((s15 7) / 4294967296))))) (E2 := [(0, .p 0 0), (3, .p 1 0), (11, .v (.int .i64 3))]) (by kernel_rfl) tabOk h27 M27 rfl (by kernel_rfl) (by kernel_rfl) rfl ⟨by kernel_rfl, by kernel_rfl, by kernel_rfl, trivial⟩ (fun _ _ _ _ hd h => And.intro (hd.trans (And.left h)) (And.right h)) (fun a28 W28 h28 d28 M28 G28 => ?_)
  show Code.wp _ _ _ _ _
  replace d28 := d28.trans d27
  replace M28 : Mw (bg [⟨g, T, 16, (stm s m)⟩, ⟨lb, 61, 4, (fun i => .int .u64 (l i))⟩]) [⟨g, T, 16, (upm (stm s15 m) 15 (.int .u64 (Go.bits .xor .u64 (s15 15) (IntKind.u64.wrap (Go.bits .and .u64 (s15 3) 4294967295 * ((s15 7) / 4294967296))))))⟩, ⟨lb, 61, 4, (fun i => .int .u64 (l i))⟩] W28 := M28
  have F28 := Fr.comp F27 G28 (fun x hx => Or.inl (by simp at hx; subst hx; simp))
  clear F27 G28
  clear h27 d27 M27
  rw [stm_upd _ _ _ _ (by decide)] at M28
  have e16 : q4 s15 3 = upd s15 15 (Go.bits .xor .u64 (s15 15) (IntKind.u64.wrap (Go.bits .and .u64 (s15 3) 4294967295 * ((s15 7) / 4294967296)))) := rfl
  rw [← e16] at M28
  clear e16
  generalize t16 : q4 s15 3 = s16 at M28
  refine regM_seq (N := 189) (T := TT) (n := 2) (E2 := [(0, .p 0 0), (3, .p 1 0), (11, .v (.int .i64 4))]) tabOk h28 M28 rfl (by kernel_rfl) ⟨by kernel_rfl, by kernel_rfl, by kernel_rfl, trivial⟩ (fun a29 h29 d29 => ?_)
  replace d29 := d29.trans d28
  clear h28 d28
  show Code.rounds _ _ _ _ _ _
  rw [rounds_succ]
  refine wp_seq ?_
  refine regM_seq (N := 189) (T := TT) (n := 1) (E2 := [(0, .p 0 0), (3, .p 1 0), (11, .v (.int .i64 4)), (12, .v (.bool false))]) tabOk h29 M28 rfl (by kernel_rfl) ⟨by kernel_rfl, by kernel_rfl, by kernel_rfl, by kernel_rfl, trivial⟩ (fun a30 h30 d30 => ?_)
  show Code.wp _ _ _ _ _
  replace d30 := d30.trans d29
  clear h29 d29
  refine wp_seq ?_
  refine wp_cond_false (h30.2 12 _ rfl) ?_
  refine wp_exit ?_
  refine then_exit (then_exit (exit_in ?_))
  show Code.wp _ _ _ _ _
  refine wp_seq ?_
  refine wp_seq ?_
  refine regM_seq (N := 189) (T := TT) (n := 1) (E2 := [(0, .p 0 0), (3, .p 1 0), (5, .v (.int .i64 0))]) tabOk h30 M28 rfl (by kernel_rfl) ⟨by kernel_rfl, by kernel_rfl, by kernel_rfl, trivial⟩ (fun a31 h31 d31 => ?_)
  show Code.wp _ _ _ _ _
  replace d31 := d31.trans d30
  clear h30 d30
  refine wp_block ?_
  refine wp_loop_rounds 3 ?_
  rw [rounds_succ]
  refine wp_seq ?_
  refine wp_seq ?_
  refine regM_seq (N := 189) (T := TT) (n := 2) (E2 := [(0, .p 0 0), (3, .p 1 0), (5, .v (.int .i64 0)), (102, .v (.bool true))]) tabOk h31 M28 rfl (by kernel_rfl) ⟨by kernel_rfl, by kernel_rfl, by kernel_rfl, by kernel_rfl, trivial⟩ (fun a32 h32 d32 => ?_)
  show Code.wp _ _ _ _ _
  replace d32 := d32.trans d31
  clear h31 d31
  refine wp_cond_true (h32.2 102 _ rfl) ?_
  refine wp_skip ?_
  show Code.wp _ _ _ _ _
  refine wp_seq ?_
  refine wp_block ?_
  refine wp_seq ?_
  refine reg_call_keep (S := fun V => Mw (bg [⟨g, T, 16, (stm s m)⟩, ⟨lb, 61, 4, (fun i => .int .u64 (l i))⟩]) [⟨g, T, 16, (stm s16 m)⟩, ⟨lb, 61, 4, (fun i => .int .u64 (l i))⟩] V ∧ Fr [g] w V) (N := 189) (T := TT) (M := bm [⟨g, T, 16, (stm s16 m)⟩, ⟨lb, 61, 4, (fun i => .int .u64 (l i))⟩]) (j := 13) (l1 := [0, 1, 2, 3, 4, 5, 6, 7, 8, 9, 10, 11, 12]) (l2 := [14, 15, 16, 17, 18]) (f := 45) (d := 119) (v := .tuple #[.int .u64 (pHi (s16 5) (s16 4)), .int .u64 (pLo (s16 5) (s16 4))]) (args := [.v (.int .u64 (s16 5)), .v (.int .u64 (s16 4))]) (E2 := [(0, .p 0 0), (3, .p 1 0), (5, .v (.int .i64 0)), (6, .v (.int .u64 (pHi (s16 5) (s16 4)))), (7, .v (.int .u64 (pLo (s16 5) (s16 4))))]) (by kernel_rfl) tabOk (fun V h => h.1.mem) h32 ⟨M28.drew, F28.drew⟩ rfl (by kernel_rfl) (by kernel_rfl) Tryd.func45 rfl rfl
    (fun V hV => (zip_walk (s16 5) (s16 4) V).mono fun e W' hh => ⟨hh.1, hV.1.onB hh.2.below, hV.2.trans (Fr.ofBelow _ hh.2.below)⟩) (by kernel_rfl) ⟨by kernel_rfl, by kernel_rfl, by kernel_rfl, by kernel_rfl, by kernel_rfl, trivial⟩ (fun _ _ _ _ hd h => And.intro (hd.trans (And.left h)) (And.right h)) (fun a33 W33 h33 d33 hV => ?_)
  show Code.wp _ _ _ _ _
  obtain ⟨M33, F33⟩ := hV
  replace d33 := d33.trans d32
  clear h32 d32 M28 F28
  refine wp_seq ?_
  refine regM_store (N := 189) (T := TT) (n := 12) (k := 0) (i := 1) (u := .int .u64 (IntKind.u64.wrap ((s16 1) + (pHi (s16 5) (s16 4))))) (E2 := [(0, .p 0 0), (3, .p 1 0), (5, .v (.int .i64 0)), (7, .v (.int .u64 (pLo (s16 5) (s16 4))))]) (by kernel_rfl) tabOk h33 M33 rfl (by kernel_rfl) (by kernel_rfl) rfl ⟨by kernel_rfl, by kernel_rfl, by kernel_rfl, by kernel_rfl, trivial⟩ (fun _ _ _ _ hd h => And.intro (hd.trans (And.left h)) (And.right h)) (fun a34 W34 h34 d34 M34 G34 => ?_)
  show Code.wp _ _ _ _ _
  replace d34 := d34.trans d33
  replace M34 : Mw (bg [⟨g, T, 16, (stm s m)⟩, ⟨lb, 61, 4, (fun i => .int .u64 (l i))⟩]) [⟨g, T, 16, (upm (stm s16 m) 1 (.int .u64 (IntKind.u64.wrap ((s16 1) + (pHi (s16 5) (s16 4))))))⟩, ⟨lb, 61, 4, (fun i => .int .u64 (l i))⟩] W34 := M34
  have F34 := Fr.comp F33 G34 (fun x hx => Or.inl (by simp at hx; subst hx; simp))
  clear F33 G34
  clear h33 d33 M33
  rw [stm_upd _ _ _ _ (by decide)] at M34
  have e17 : zs s16 1 (pHi (s16 5) (s16 4)) = upd s16 1 (IntKind.u64.wrap ((s16 1) + (pHi (s16 5) (s16 4)))) := rfl
  rw [← e17] at M34
  clear e17
  generalize t17 : zs s16 1 (pHi (s16 5) (s16 4)) = s17 at M34
  refine regM_store (N := 189) (T := TT) (n := 11) (k := 0) (i := 0) (u := .int .u64 (IntKind.u64.wrap ((s17 0) + (pLo (s16 5) (s16 4))))) (E2 := [(0, .p 0 0), (3, .p 1 0), (5, .v (.int .i64 0))]) (by kernel_rfl) tabOk h34 M34 rfl (by kernel_rfl) (by kernel_rfl) rfl ⟨by kernel_rfl, by kernel_rfl, by kernel_rfl, trivial⟩ (fun _ _ _ _ hd h => And.intro (hd.trans (And.left h)) (And.right h)) (fun a35 W35 h35 d35 M35 G35 => ?_)
  show Code.wp _ _ _ _ _
  replace d35 := d35.trans d34
  replace M35 : Mw (bg [⟨g, T, 16, (stm s m)⟩, ⟨lb, 61, 4, (fun i => .int .u64 (l i))⟩]) [⟨g, T, 16, (upm (stm s17 m) 0 (.int .u64 (IntKind.u64.wrap ((s17 0) + (pLo (s16 5) (s16 4))))))⟩, ⟨lb, 61, 4, (fun i => .int .u64 (l i))⟩] W35 := M35
  have F35 := Fr.comp F34 G35 (fun x hx => Or.inl (by simp at hx; subst hx; simp))
  clear F34 G35
  clear h34 d34 M34
  rw [stm_upd _ _ _ _ (by decide)] at M35
  have e18 : zs s17 0 (pLo (s16 5) (s16 4)) = upd s17 0 (IntKind.u64.wrap ((s17 0) + (pLo (s16 5) (s16 4)))) := rfl
  rw [← e18] at M35
  clear e18
  generalize t18 : zs s17 0 (pLo (s16 5) (s16 4)) = s18 at M35
  refine regM_seq (N := 189) (T := TT) (n := 3) (E2 := [(0, .p 0 0), (3, .p 1 0), (5, .v (.int .i64 2))]) tabOk h35 M35 rfl (by kernel_rfl) ⟨by kernel_rfl, by kernel_rfl, by kernel_rfl, trivial⟩ (fun a36 h36 d36 => ?_)
  replace d36 := d36.trans d35
  clear h35 d35
  show Code.rounds _ _ _ _ _ _
  rw [rounds_succ]
  refine wp_seq ?_
  refine wp_seq ?_
  refine regM_seq (N := 189) (T := TT) (n := 2) (E2 := [(0, .p 0 0), (3, .p 1 0), (5, .v (.int .i64 2)), (102, .v (.bool true))]) tabOk h36 M35 rfl (by kernel_rfl) ⟨by kernel_rfl, by kernel_rfl, by kernel_rfl, by kernel_rfl, trivial⟩ (fun a37 h37 d37 => ?_)
  show Code.wp _ _ _ _ _
  replace d37 := d37.trans d36
  clear h36 d36
  refine wp_cond_true (h37.2 102 _ rfl) ?_
  refine wp_skip ?_
  show Code.wp _ _ _ _ _
  refine wp_seq ?_
  refine wp_block ?_
  refine wp_seq ?_
  refine reg_call_keep (S := fun V => Mw (bg [⟨g, T, 16, (stm s m)⟩, ⟨lb, 61, 4, (fun i => .int .u64 (l i))⟩]) [⟨g, T, 16, (stm s18 m)⟩, ⟨lb, 61, 4, (fun i => .int .u64 (l i))⟩] V ∧ Fr [g] w V) (N := 189) (T := TT) (M := bm [⟨g, T, 16, (stm s18 m)⟩, ⟨lb, 61, 4, (fun i => .int .u64 (l i))⟩]) (j := 13) (l1 := [0, 1, 2, 3, 4, 5, 6, 7, 8, 9, 10, 11, 12]) (l2 := [14, 15, 16, 17, 18]) (f := 45) (d := 119) (v := .tuple #[.int .u64 (pHi (s18 7) (s18 6)), .int .u64 (pLo (s18 7) (s18 6))]) (args := [.v (.int .u64 (s18 7)), .v (.int .u64 (s18 6))]) (E2 := [(0, .p 0 0), (3, .p 1 0), (5, .v (.int .i64 2)), (6, .v (.int .u64 (pHi (s18 7) (s18 6)))), (7, .v (.int .u64 (pLo (s18 7) (s18 6))))]) (by kernel_rfl) tabOk (fun V h => h.1.mem) h37 ⟨M35.drew, F35.drew⟩ rfl (by kernel_rfl) (by kernel_rfl) Tryd.func45 rfl rfl
    (fun V hV => (zip_walk (s18 7) (s18 6) V).mono fun e W' hh => ⟨hh.1, hV.1.onB hh.2.below, hV.2.trans (Fr.ofBelow _ hh.2.below)⟩) (by kernel_rfl) ⟨by kernel_rfl, by kernel_rfl, by kernel_rfl, by kernel_rfl, by kernel_rfl, trivial⟩ (fun _ _ _ _ hd h => And.intro (hd.trans (And.left h)) (And.right h)) (fun a38 W38 h38 d38 hV => ?_)
  show Code.wp _ _ _ _ _
  obtain ⟨M38, F38⟩ := hV
  replace d38 := d38.trans d37
  clear h37 d37 M35 F35
  refine wp_seq ?_
  refine regM_store (N := 189) (T := TT) (n := 12) (k := 0) (i := 3) (u := .int .u64 (IntKind.u64.wrap ((s18 3) + (pHi (s18 7) (s18 6))))) (E2 := [(0, .p 0 0), (3, .p 1 0), (5, .v (.int .i64 2)), (7, .v (.int .u64 (pLo (s18 7) (s18 6))))]) (by kernel_rfl) tabOk h38 M38 rfl (by kernel_rfl) (by kernel_rfl) rfl ⟨by kernel_rfl, by kernel_rfl, by kernel_rfl, by kernel_rfl, trivial⟩ (fun _ _ _ _ hd h => And.intro (hd.trans (And.left h)) (And.right h)) (fun a39 W39 h39 d39 M39 G39 => ?_)
  show Code.wp _ _ _ _ _
  replace d39 := d39.trans d38
  replace M39 : Mw (bg [⟨g, T, 16, (stm s m)⟩, ⟨lb, 61, 4, (fun i => .int .u64 (l i))⟩]) [⟨g, T, 16, (upm (stm s18 m) 3 (.int .u64 (IntKind.u64.wrap ((s18 3) + (pHi (s18 7) (s18 6))))))⟩, ⟨lb, 61, 4, (fun i => .int .u64 (l i))⟩] W39 := M39
  have F39 := Fr.comp F38 G39 (fun x hx => Or.inl (by simp at hx; subst hx; simp))
  clear F38 G39
  clear h38 d38 M38
  rw [stm_upd _ _ _ _ (by decide)] at M39
  have e19 : zs s18 3 (pHi (s18 7) (s18 6)) = upd s18 3 (IntKind.u64.wrap ((s18 3) + (pHi (s18 7) (s18 6)))) := rfl
  rw [← e19] at M39
  clear e19
  generalize t19 : zs s18 3 (pHi (s18 7) (s18 6)) = s19 at M39
  refine regM_store (N := 189) (T := TT) (n := 11) (k := 0) (i := 2) (u := .int .u64 (IntKind.u64.wrap ((s19 2) + (pLo (s18 7) (s18 6))))) (E2 := [(0, .p 0 0), (3, .p 1 0), (5, .v (.int .i64 2))]) (by kernel_rfl) tabOk h39 M39 rfl (by kernel_rfl) (by kernel_rfl) rfl ⟨by kernel_rfl, by kernel_rfl, by kernel_rfl, trivial⟩ (fun _ _ _ _ hd h => And.intro (hd.trans (And.left h)) (And.right h)) (fun a40 W40 h40 d40 M40 G40 => ?_)
  show Code.wp _ _ _ _ _
  replace d40 := d40.trans d39
  replace M40 : Mw (bg [⟨g, T, 16, (stm s m)⟩, ⟨lb, 61, 4, (fun i => .int .u64 (l i))⟩]) [⟨g, T, 16, (upm (stm s19 m) 2 (.int .u64 (IntKind.u64.wrap ((s19 2) + (pLo (s18 7) (s18 6))))))⟩, ⟨lb, 61, 4, (fun i => .int .u64 (l i))⟩] W40 := M40
  have F40 := Fr.comp F39 G40 (fun x hx => Or.inl (by simp at hx; subst hx; simp))
  clear F39 G40
  clear h39 d39 M39
  rw [stm_upd _ _ _ _ (by decide)] at M40
  have e20 : zs s19 2 (pLo (s18 7) (s18 6)) = upd s19 2 (IntKind.u64.wrap ((s19 2) + (pLo (s18 7) (s18 6)))) := rfl
  rw [← e20] at M40
  clear e20
  generalize t20 : zs s19 2 (pLo (s18 7) (s18 6)) = s20 at M40
  refine regM_seq (N := 189) (T := TT) (n := 3) (E2 := [(0, .p 0 0), (3, .p 1 0), (5, .v (.int .i64 4))]) tabOk h40 M40 rfl (by kernel_rfl) ⟨by kernel_rfl, by kernel_rfl, by kernel_rfl, trivial⟩ (fun a41 h41 d41 => ?_)
  replace d41 := d41.trans d40
  clear h40 d40
  show Code.rounds _ _ _ _ _ _
  rw [rounds_succ]
  refine wp_seq ?_
  refine wp_seq ?_
  refine regM_seq (N := 189) (T := TT) (n := 2) (E2 := [(0, .p 0 0), (3, .p 1 0), (5, .v (.int .i64 4)), (102, .v (.bool false))]) tabOk h41 M40 rfl (by kernel_rfl) ⟨by kernel_rfl, by kernel_rfl, by kernel_rfl, by kernel_rfl, trivial⟩ (fun a42 h42 d42 => ?_)
  show Code.wp _ _ _ _ _
  replace d42 := d42.trans d41
  clear h41 d41
  refine wp_cond_false (h42.2 102 _ rfl) ?_
  refine wp_exit ?_
  refine then_exit (then_exit (exit_in ?_))
  show Code.wp _ _ _ _ _
  refine wp_seq ?_
  refine regM_seq (N := 189) (T := TT) (n := 1) (E2 := [(0, .p 0 0), (3, .p 1 0), (8, .v (.int .i64 0))]) tabOk h42 M40 rfl (by kernel_rfl) ⟨by kernel_rfl, by kernel_rfl, by kernel_rfl, trivial⟩ (fun a43 h43 d43 => ?_)
  show Code.wp _ _ _ _ _
  replace d43 := d43.trans d42
  clear h42 d42
  refine wp_block ?_
  refine wp_loop_rounds 3 ?_
  rw [rounds_succ]
  refine wp_seq ?_
  refine wp_seq ?_
  refine regM_seq (N := 189) (T := TT) (n := 2) (E2 := [(0, .p 0 0), (3, .p 1 0), (8, .v (.int .i64 0)), (146, .v (.bool true))]) tabOk h43 M40 rfl (by kernel_rfl) ⟨by kernel_rfl, by kernel_rfl, by kernel_rfl, by kernel_rfl, trivial⟩ (fun a44 h44 d44 => ?_)
  show Code.wp _ _ _ _ _
  replace d44 := d44.trans d43
  clear h43 d43
  refine wp_cond_true (h44.2 146 _ rfl) ?_
  refine wp_skip ?_
  show Code.wp _ _ _ _ _
  refine wp_seq ?_
  refine wp_block ?_
  refine wp_seq ?_
  refine reg_call_keep (S := fun V => Mw (bg [⟨g, T, 16, (stm s m)⟩, ⟨lb, 61, 4, (fun i => .int .u64 (l i))⟩]) [⟨g, T, 16, (stm s20 m)⟩, ⟨lb, 61, 4, (fun i => .int .u64 (l i))⟩] V ∧ Fr [g] w V) (N := 189) (T := TT) (M := bm [⟨g, T, 16, (stm s20 m)⟩, ⟨lb, 61, 4, (fun i => .int .u64 (l i))⟩]) (j := 13) (l1 := [0, 1, 2, 3, 4, 5, 6, 7, 8, 9, 10, 11, 12]) (l2 := [14, 15, 16, 17, 18]) (f := 45) (d := 163) (v := .tuple #[.int .u64 (pHi (s20 1) (s20 0)), .int .u64 (pLo (s20 1) (s20 0))]) (args := [.v (.int .u64 (s20 1)), .v (.int .u64 (s20 0))]) (E2 := [(0, .p 0 0), (3, .p 1 0), (8, .v (.int .i64 0)), (9, .v (.int .u64 (pHi (s20 1) (s20 0)))), (10, .v (.int .u64 (pLo (s20 1) (s20 0))))]) (by kernel_rfl) tabOk (fun V h => h.1.mem) h44 ⟨M40.drew, F40.drew⟩ rfl (by kernel_rfl) (by kernel_rfl) Tryd.func45 rfl rfl
    (fun V hV => (zip_walk (s20 1) (s20 0) V).mono fun e W' hh => ⟨hh.1, hV.1.onB hh.2.below, hV.2.trans (Fr.ofBelow _ hh.2.below)⟩) (by kernel_rfl) ⟨by kernel_rfl, by kernel_rfl, by kernel_rfl, by kernel_rfl, by kernel_rfl, trivial⟩ (fun _ _ _ _ hd h => And.intro (hd.trans (And.left h)) (And.right h)) (fun a45 W45 h45 d45 hV => ?_)
  show Code.wp _ _ _ _ _
  obtain ⟨M45, F45⟩ := hV
  replace d45 := d45.trans d44
  clear h44 d44 M40 F40
  refine wp_seq ?_
  refine regM_store (N := 189) (T := TT) (n := 12) (k := 0) (i := 5) (u := .int .u64 (IntKind.u64.wrap ((s20 5) + (pHi (s20 1) (s20 0))))) (E2 := [(0, .p 0 0), (3, .p 1 0), (8, .v (.int .i64 0)), (10, .v (.int .u64 (pLo (s20 1) (s20 0))))]) (by kernel_rfl) tabOk h45 M45 rfl (by kernel_rfl) (by kernel_rfl) rfl ⟨by kernel_rfl, by kernel_rfl, by kernel_rfl, by kernel_rfl, trivial⟩ (fun _ _ _ _ hd h => And.intro (hd.trans (And.left h)) (And.right h)) (fun a46 W46 h46 d46 M46 G46 => ?_)
  show Code.wp _ _ _ _ _
  replace d46 := d46.trans d45
  replace M46 : Mw (bg [⟨g, T, 16, (stm s m)⟩, ⟨lb, 61, 4, (fun i => .int .u64 (l i))⟩]) [⟨g, T, 16, (upm (stm s20 m) 5 (.int .u64 (IntKind.u64.wrap ((s20 5) + (pHi (s20 1) (s20 0))))))⟩, ⟨lb, 61, 4, (fun i => .int .u64 (l i))⟩] W46 := M46
  have F46 := Fr.comp F45 G46 (fun x hx => Or.inl (by simp at hx; subst hx; simp))
  clear F45 G46
  clear h45 d45 M45
  rw [stm_upd _ _ _ _ (by decide)] at M46
  have e21 : zs s20 5 (pHi (s20 1) (s20 0)) = upd s20 5 (IntKind.u64.wrap ((s20 5) + (pHi (s20 1) (s20 0)))) := rfl
  rw [← e21] at M46
  clear e21
  generalize t21 : zs s20 5 (pHi (s20 1) (s20 0)) = s21 at M46
  refine regM_store (N := 189) (T := TT) (n := 11) (k := 0) (i := 4) (u := .int .u64 (IntKind.u64.wrap ((s21 4) + (pLo (s20 1) (s20 0))))) (E2 := [(0, .p 0 0), (3, .p 1 0), (8, .v (.int .i64 0))]) (by kernel_rfl) tabOk h46 M46 rfl (by kernel_rfl) (by kernel_rfl) rfl ⟨by kernel_rfl, by kernel_rfl, by kernel_rfl, trivial⟩ (fun _ _ _ _ hd h => And.intro (hd.trans (And.left h)) (And.right h)) (fun a47 W47 h47 d47 M47 G47 => ?_)
  show Code.wp _ _ _ _ _
  replace d47 := d47.trans d46
  replace M47 : Mw (bg [⟨g, T, 16, (stm s m)⟩, ⟨lb, 61, 4, (fun i => .int .u64 (l i))⟩]) [⟨g, T, 16, (upm (stm s21 m) 4 (.int .u64 (IntKind.u64.wrap ((s21 4) + (pLo (s20 1) (s20 0))))))⟩, ⟨lb, 61, 4, (fun i => .int .u64 (l i))⟩] W47 := M47
  have F47 := Fr.comp F46 G47 (fun x hx => Or.inl (by simp at hx; subst hx; simp))
  clear F46 G47
  clear h46 d46 M46
  rw [stm_upd _ _ _ _ (by decide)] at M47
  have e22 : zs s21 4 (pLo (s20 1) (s20 0)) = upd s21 4 (IntKind.u64.wrap ((s21 4) + (pLo (s20 1) (s20 0)))) := rfl
  rw [← e22] at M47
  clear e22
  generalize t22 : zs s21 4 (pLo (s20 1) (s20 0)) = s22 at M47
  refine regM_seq (N := 189) (T := TT) (n := 3) (E2 := [(0, .p 0 0), (3, .p 1 0), (8, .v (.int .i64 2))]) tabOk h47 M47 rfl (by kernel_rfl) ⟨by kernel_rfl, by kernel_rfl, by kernel_rfl, trivial⟩ (fun a48 h48 d48 => ?_)
  replace d48 := d48.trans d47
  clear h47 d47
  show Code.rounds _ _ _ _ _ _
  rw [rounds_succ]
  refine wp_seq ?_
  refine wp_seq ?_
  refine regM_seq (N := 189) (T := TT) (n := 2) (E2 := [(0, .p 0 0), (3, .p 1 0), (8, .v (.int .i64 2)), (146, .v (.bool true))]) tabOk h48 M47 rfl (by kernel_rfl) ⟨by kernel_rfl, by kernel_rfl, by kernel_rfl, by kernel_rfl, trivial⟩ (fun a49 h49 d49 => ?_)
  show Code.wp _ _ _ _ _
  replace d49 := d49.trans d48
  clear h48 d48
  refine wp_cond_true (h49.2 146 _ rfl) ?_
  refine wp_skip ?_
  show Code.wp _ _ _ _ _
  refine wp_seq ?_
  refine wp_block ?_
  refine wp_seq ?_
  refine reg_call_keep (S := fun V => Mw (bg [⟨g, T, 16, (stm s m)⟩, ⟨lb, 61, 4, (fun i => .int .u64 (l i))⟩]) [⟨g, T, 16, (stm s22 m)⟩, ⟨lb, 61, 4, (fun i => .int .u64 (l i))⟩] V ∧ Fr [g] w V) (N := 189) (T := TT) (M := bm [⟨g, T, 16, (stm s22 m)⟩, ⟨lb, 61, 4, (fun i => .int .u64 (l i))⟩]) (j := 13) (l1 := [0, 1, 2, 3, 4, 5, 6, 7, 8, 9, 10, 11, 12]) (l2 := [14, 15, 16, 17, 18]) (f := 45) (d := 163) (v := .tuple #[.int .u64 (pHi (s22 3) (s22 2)), .int .u64 (pLo (s22 3) (s22 2))]) (args := [.v (.int .u64 (s22 3)), .v (.int .u64 (s22 2))]) (E2 := [(0, .p 0 0), (3, .p 1 0), (8, .v (.int .i64 2)), (9, .v (.int .u64 (pHi (s22 3) (s22 2)))), (10, .v (.int .u64 (pLo (s22 3) (s22 2))))]) (by kernel_rfl) tabOk (fun V h => h.1.mem) h49 ⟨M47.drew, F47.drew⟩ rfl (by kernel_rfl) (by kernel_rfl) Tryd.func45 rfl rfl
    (fun V hV => (zip_walk (s22 3) (s22 2) V).mono fun e W' hh => ⟨hh.1, hV.1.onB hh.2.below, hV.2.trans (Fr.ofBelow _ hh.2.below)⟩) (by kernel_rfl) ⟨by kernel_rfl, by kernel_rfl, by kernel_rfl, by kernel_rfl, by kernel_rfl, trivial⟩ (fun _ _ _ _ hd h => And.intro (hd.trans (And.left h)) (And.right h)) (fun a50 W50 h50 d50 hV => ?_)
  show Code.wp _ _ _ _ _
  obtain ⟨M50, F50⟩ := hV
  replace d50 := d50.trans d49
  clear h49 d49 M47 F47
  refine wp_seq ?_
  refine regM_store (N := 189) (T := TT) (n := 12) (k := 0) (i := 7) (u := .int .u64 (IntKind.u64.wrap ((s22 7) + (pHi (s22 3) (s22 2))))) (E2 := [(0, .p 0 0), (3, .p 1 0), (8, .v (.int .i64 2)), (10, .v (.int .u64 (pLo (s22 3) (s22 2))))]) (by kernel_rfl) tabOk h50 M50 rfl (by kernel_rfl) (by kernel_rfl) rfl ⟨by kernel_rfl, by kernel_rfl, by kernel_rfl, by kernel_rfl, trivial⟩ (fun _ _ _ _ hd h => And.intro (hd.trans (And.left h)) (And.right h)) (fun a51 W51 h51 d51 M51 G51 => ?_)
  show Code.wp _ _ _ _ _
  replace d51 := d51.trans d50
  replace M51 : Mw (bg [⟨g, T, 16, (stm s m)⟩, ⟨lb, 61, 4, (fun i => .int .u64 (l i))⟩]) [⟨g, T, 16, (upm (stm s22 m) 7 (.int .u64 (IntKind.u64.wrap ((s22 7) + (pHi (s22 3) (s22 2))))))⟩, ⟨lb, 61, 4, (fun i => .int .u64 (l i))⟩] W51 := M51
  have F51 := Fr.comp F50 G51 (fun x hx => Or.inl (by simp at hx; subst hx; simp))
  clear F50 G51
  clear h50 d50 M50
  rw [stm_upd _ _ _ _ (by decide)] at M51
  have e23 : zs s22 7 (pHi (s22 3) (s22 2)) = upd s22 7 (IntKind.u64.wrap ((s22 7) + (pHi (s22 3) (s22 2)))) := rfl
  rw [← e23] at M51
  clear e23
  generalize t23 : zs s22 7 (pHi (s22 3) (s22 2)) = s23 at M51
  refine regM_store (N := 189) (T := TT) (n := 11) (k := 0) (i := 6) (u := .int .u64 (IntKind.u64.wrap ((s23 6) + (pLo (s22 3) (s22 2))))) (E2 := [(0, .p 0 0), (3, .p 1 0), (8, .v (.int .i64 2))]) (by kernel_rfl) tabOk h51 M51 rfl (by kernel_rfl) (by kernel_rfl) rfl ⟨by kernel_rfl, by kernel_rfl, by kernel_rfl, trivial⟩ (fun _ _ _ _ hd h => And.intro (hd.trans (And.left h)) (And.right h)) (fun a52 W52 h52 d52 M52 G52 => ?_)
  show Code.wp _ _ _ _ _
  replace d52 := d52.trans d51
  replace M52 : Mw (bg [⟨g, T, 16, (stm s m)⟩, ⟨lb, 61, 4, (fun i => .int .u64 (l i))⟩]) [⟨g, T, 16, (upm (stm s23 m) 6 (.int .u64 (IntKind.u64.wrap ((s23 6) + (pLo (s22 3) (s22 2))))))⟩, ⟨lb, 61, 4, (fun i => .int .u64 (l i))⟩] W52 := M52
  have F52 := Fr.comp F51 G52 (fun x hx => Or.inl (by simp at hx; subst hx; simp))
  clear F51 G52
  clear h51 d51 M51
  rw [stm_upd _ _ _ _ (by decide)] at M52
  have e24 : zs s23 6 (pLo (s22 3) (s22 2)) = upd s23 6 (IntKind.u64.wrap ((s23 6) + (pLo (s22 3) (s22 2)))) := rfl
  rw [← e24] at M52
  clear e24
  generalize t24 : zs s23 6 (pLo (s22 3) (s22 2)) = s24 at M52
  refine regM_seq (N := 189) (T := TT) (n := 3) (E2 := [(0, .p 0 0), (3, .p 1 0), (8, .v (.int .i64 4))]) tabOk h52 M52 rfl (by kernel_rfl) ⟨by kernel_rfl, by kernel_rfl, by kernel_rfl, trivial⟩ (fun a53 h53 d53 => ?_)
  replace d53 := d53.trans d52
  clear h52 d52
  show Code.rounds _ _ _ _ _ _
  rw [rounds_succ]
  refine wp_seq ?_
  refine wp_seq ?_
  refine regM_seq (N := 189) (T := TT) (n := 2) (E2 := [(0, .p 0 0), (3, .p 1 0), (8, .v (.int .i64 4)), (146, .v (.bool false))]) tabOk h53 M52 rfl (by kernel_rfl) ⟨by kernel_rfl, by kernel_rfl, by kernel_rfl, by kernel_rfl, trivial⟩ (fun a54 h54 d54 => ?_)
  show Code.wp _ _ _ _ _
  replace d54 := d54.trans d53
  clear h53 d53
  refine wp_cond_false (h54.2 146 _ rfl) ?_
  refine wp_exit ?_
  refine then_exit (then_exit (exit_in ?_))
  have e : s24 = US s l := by
    subst t1
    subst t2
    subst t3
    subst t4
    subst t5
    subst t6
    subst t7
    subst t8
    subst t9
    subst t10
    subst t11
    subst t12
    subst t13
    subst t14
    subst t15
    subst t16
    subst t17
    subst t18
    subst t19
    subst t20
    subst t21
    subst t22
    subst t23
    subst t24
    rfl
  have M9 := M52.2.get (k := 0) rfl
  rw [e] at M9
  exact ⟨d54, _, results_none rfl _ _ _, rfl, M9, F52⟩
set_option maxHeartbeats 8000000 in
set_option maxRecDepth 100000 in
theorem us_walk (g T : Nat) (s l : Nat → Int) (m : Nat → Value) (w : World) (hs : (⟨g, T, 16, stm s m⟩ : Bl).In w) :
    Calls Tryd.prog 36 #[.pointer (some ⟨g, 0, none⟩), .agg #[.int .u64 (l 0), .int .u64 (l 1), .int .u64 (l 2), .int .u64 (l 3)]] w fun e w' => e = .returned (.tuple #[]) ∧ (⟨g, T, 16, stm (US s l) m⟩ : Bl).In w' ∧ Fr [g] w w' := by
  refine calls_of_wp Tryd.func36 rfl ?_
  have hA := has_two (β := fun _ => 0) (.v (.pointer (some ⟨g, 0, none⟩))) (.v (.agg #[.int .u64 (l 0), .int .u64 (l 1), .int .u64 (l 2), .int .u64 (l 3)])) 187
  have lg : g < w.heap.size := hs.lt
  refine wp_seq ?_
  refine wp_region ?_
  refine box_ops (N := 189) (i := 0) (d := 3) (l := []) rfl rfl rfl (by decide) hA rfl (hA.2 1 _ rfl) (fun a1 h1 d1 => ?_)
  have F1 := (Fr.refl [] w).alloc (.cells #[.int .u64 (l 0), .int .u64 (l 1), .int .u64 (l 2), .int .u64 (l 3)] 61)
  have M0 : Mw (bg [⟨g, T, 16, stm s m⟩, ⟨w.heap.size, 61, 4, fun i => .int .u64 (l i)⟩]) [⟨g, T, 16, stm s m⟩, ⟨w.heap.size, 61, 4, fun i => .int .u64 (l i)⟩] (w.alloc (.cells #[.int .u64 (l 0), .int .u64 (l 1), .int .u64 (l 2), .int .u64 (l 3)] 61)) := by
    refine ⟨rfl, hs.on F1 (by simp), ?_, ⟨_, (MapKept.heap_alloc w _).1, rfl, fun i hi => ?_⟩, by simp, trivial⟩
    · intro c hc
      simp only [List.mem_cons, List.not_mem_nil, or_false] at hc
      subst hc
      show w.heap.size ≠ g
      omega
    · have hi' : i < 4 := hi
      rcases (by omega : i = 0 ∨ i = 1 ∨ i = 2 ∨ i = 3) with rfl | rfl | rfl | rfl
      all_goals rfl
  exact us_rest g T w.heap.size s l m w _ a1 _ M0 (F1.mono (by simp)) (has_list h1.1 ⟨h1.2 0 _ rfl, h1.2 3 _ rfl, trivial⟩) d1
end Go.Proofs.YtnehminojlocoaaDoor.PAll
namespace Go.Proofs.YtnehminojlocoaaDoor.PAll
open Go.RowKit Go.Proofs.YtnehminojlocoaaDoorW.PrintWords Go.Proofs.YtnehminojlocoaaDoorW.PrintLast Go.Proofs.YtnehminojlocoaaDoorW.PrintMore
set_option linter.unusedVariables false
set_option linter.unusedSimpArgs false
/-- Eight octets as a number, the lowest first. -/
def N8 (x : Nat → Int) : Int := x 0 + x 1 * 256 + x 2 * 65536 + x 3 * 16777216 + x 4 * 4294967296 + x 5 * 1099511627776 + x 6 * 281474976710656 + x 7 * 72057594037927936
def Oct (n : Nat) (x : Nat → Int) : Prop := ∀ i, i < n → 0 ≤ x i ∧ x i < 256
theorem Oct.from {n : Nat} {x : Nat → Int} (h : Oct n x) (k m : Nat) (hk : k + m ≤ n) : Oct m (fun i => x (k + i)) := fun i hi => h (k + i) (by omega)
theorem or_int (s x m q : Int) (n : Nat) (hs : 0 ≤ s) (hn : s < ((2 ^ n : Nat) : Int)) (hq : 0 ≤ q) (hx : q * ((2 ^ n : Nat) : Int) = x) (hx2 : x + s < 18446744073709551616) (hm : x + s = m) : Go.bits .or .u64 s x = m := by
  obtain ⟨s, rfl⟩ := Int.eq_ofNat_of_zero_le hs
  obtain ⟨q, rfl⟩ := Int.eq_ofNat_of_zero_le hq
  have hs' : s < 2 ^ n := by omega
  have e : x = ((q * 2 ^ n : Nat) : Int) := by rw [← hx, Int.natCast_mul]
  subst e
  rw [u64_or_nat s (q * 2 ^ n) (by omega) (by omega), ← hm]
  have h6 := Nat.two_pow_add_eq_or_of_lt hs' q
  rw [Nat.or_comm, Nat.mul_comm q, ← h6]
  omega
theorem w64 (x : Int) (h0 : 0 ≤ x) (h1 : x < 18446744073709551616) : IntKind.u64.wrap x = x := by
  rw [IntKind.wrap_u64]
  omega
theorem le8_law (x : Nat → Int) (h : Oct 8 x) : le8 x = N8 x := by
  have h0 := h 0 (by decide)
  have h1 := h 1 (by decide)
  have h2 := h 2 (by decide)
  have h3 := h 3 (by decide)
  have h4 := h 4 (by decide)
  have h5 := h 5 (by decide)
  have h6 := h 6 (by decide)
  have h7 := h 7 (by decide)
  unfold le8 N8
  generalize x 0 = a0 at *
  generalize x 1 = a1 at *
  generalize x 2 = a2 at *
  generalize x 3 = a3 at *
  generalize x 4 = a4 at *
  generalize x 5 = a5 at *
  generalize x 6 = a6 at *
  generalize x 7 = a7 at *
  clear h
  rw [w64 a0 (by omega) (by omega), w64 a1 (by omega) (by omega), w64 a2 (by omega) (by omega), w64 a3 (by omega) (by omega), w64 a4 (by omega) (by omega), w64 a5 (by omega) (by omega), w64 a6 (by omega) (by omega), w64 a7 (by omega) (by omega)]
  rw [w64 (a1 * 256) (by omega) (by omega), w64 (a2 * 65536) (by omega) (by omega), w64 (a3 * 16777216) (by omega) (by omega), w64 (a4 * 4294967296) (by omega) (by omega), w64 (a5 * 1099511627776) (by omega) (by omega), w64 (a6 * 281474976710656) (by omega) (by omega), w64 (a7 * 72057594037927936) (by omega) (by omega)]
  rw [or_int a0 (a1 * 256) _ a1 8 (by omega) (by omega) (by omega) (by omega) (by omega) rfl]
  rw [or_int _ (a2 * 65536) _ a2 16 (by omega) (by omega) (by omega) (by omega) (by omega) rfl]
  rw [or_int _ (a3 * 16777216) _ a3 24 (by omega) (by omega) (by omega) (by omega) (by omega) rfl]
  rw [or_int _ (a4 * 4294967296) _ a4 32 (by omega) (by omega) (by omega) (by omega) (by omega) rfl]
  rw [or_int _ (a5 * 1099511627776) _ a5 40 (by omega) (by omega) (by omega) (by omega) (by omega) rfl]
  rw [or_int _ (a6 * 281474976710656) _ a6 48 (by omega) (by omega) (by omega) (by omega) (by omega) rfl]
  rw [or_int _ (a7 * 72057594037927936) _ a7 56 (by omega) (by omega) (by omega) (by omega) (by omega) rfl]
  omega
theorem or_comm64 (a b : Int) (h0 : 0 ≤ a) (h1 : a < 18446744073709551616) (h2 : 0 ≤ b) (h3 : b < 18446744073709551616) : Go.bits .or .u64 a b = Go.bits .or .u64 b a := by
  obtain ⟨a, rfl⟩ := Int.eq_ofNat_of_zero_le h0
  obtain ⟨b, rfl⟩ := Int.eq_ofNat_of_zero_le h2
  rw [u64_or_nat a b (by omega) (by omega), u64_or_nat b a (by omega) (by omega), Nat.or_comm]
theorem hr_step (k : Nat) (l : List Int) (a B x : Int) (m : Nat) (hm : m < l.length) (h64 : m < 9223372036854775808) (h0 : 0 ≤ a) (h1 : a < B) (hB : B * 256 ≤ 18446744073709551616) (hx : rd l (m : Int) = x) (h2 : 0 ≤ x) (h3 : x < 256) :
    spec_HashRead.l0 (k + 1) l a (m : Int) = spec_HashRead.l0 k l (a * 256 + x) ((m : Int) - 1) := by
  have e2 : wrap64 ((m : Int) - 1) = (m : Int) - 1 := by
    unfold wrap64
    omega
  have e3 : Go.bits .or .u64 (IntKind.u64.wrap (a * 256)) (IntKind.u64.wrap x) = a * 256 + x := by
    rw [w64 (a * 256) (by omega) (by omega), w64 x h2 (by omega), or_comm64 _ _ (by omega) (by omega) (by omega) (by omega), or_int x (a * 256) (a * 256 + x) a 8 (by omega) (by omega) (by omega) (by omega) (by omega) rfl]
  conv => lhs; unfold spec_HashRead.l0
  rw [if_pos (by omega), if_pos (by omega), if_pos (by omega), hx, e3, e2]
theorem hr_law (l : List Int) (x : Nat → Int) (hl : 8 ≤ l.length) (hr : ∀ i : Nat, i < 8 → rd l (i : Int) = x i) (h : Oct 8 x) : spec_HashRead.f 9 l = some (N8 x) := by
  have h0 := h 0 (by decide)
  have h1 := h 1 (by decide)
  have h2 := h 2 (by decide)
  have h3 := h 3 (by decide)
  have h4 := h 4 (by decide)
  have h5 := h 5 (by decide)
  have h6 := h 6 (by decide)
  have h7 := h 7 (by decide)
  unfold spec_HashRead.f N8
  have s7 := hr_step 8 l 0 1 (x 7) 7 (by omega) (by omega) (by omega) (by omega) (by omega) (hr 7 (by omega)) (by omega) (by omega)
  have s6 := hr_step 7 l (0 * 256 + x 7) 256 (x 6) 6 (by omega) (by omega) (by omega) (by omega) (by omega) (hr 6 (by omega)) (by omega) (by omega)
  have s5 := hr_step 6 l ((0 * 256 + x 7) * 256 + x 6) 65536 (x 5) 5 (by omega) (by omega) (by omega) (by omega) (by omega) (hr 5 (by omega)) (by omega) (by omega)
  have s4 := hr_step 5 l (((0 * 256 + x 7) * 256 + x 6) * 256 + x 5) 16777216 (x 4) 4 (by omega) (by omega) (by omega) (by omega) (by omega) (hr 4 (by omega)) (by omega) (by omega)
  have s3 := hr_step 4 l ((((0 * 256 + x 7) * 256 + x 6) * 256 + x 5) * 256 + x 4) 4294967296 (x 3) 3 (by omega) (by omega) (by omega) (by omega) (by omega) (hr 3 (by omega)) (by omega) (by omega)
  have s2 := hr_step 3 l (((((0 * 256 + x 7) * 256 + x 6) * 256 + x 5) * 256 + x 4) * 256 + x 3) 1099511627776 (x 2) 2 (by omega) (by omega) (by omega) (by omega) (by omega) (hr 2 (by omega)) (by omega) (by omega)
  have s1 := hr_step 2 l ((((((0 * 256 + x 7) * 256 + x 6) * 256 + x 5) * 256 + x 4) * 256 + x 3) * 256 + x 2) 281474976710656 (x 1) 1 (by omega) (by omega) (by omega) (by omega) (by omega) (hr 1 (by omega)) (by omega) (by omega)
  have s0 := hr_step 1 l (((((((0 * 256 + x 7) * 256 + x 6) * 256 + x 5) * 256 + x 4) * 256 + x 3) * 256 + x 2) * 256 + x 1) 72057594037927936 (x 0) 0 (by omega) (by omega) (by omega) (by omega) (by omega) (hr 0 (by omega)) (by omega) (by omega)
  refine s7.trans (s6.trans (s5.trans (s4.trans (s3.trans (s2.trans (s1.trans (s0.trans ?_)))))))
  unfold spec_HashRead.l0
  rw [if_neg (by decide)]
  congr 1
  omega
theorem bts_C {b o n : Nat} {x : Nat → Int} {W : World} (h : Bts b o n x W) (hn : n ≤ 9223372036854775807) : Kd.C (Kd.int .u8) W (some ⟨b, o, none⟩) n ((List.range n).map x) := by
  refine ⟨by simp, hn, fun _ => ⟨_, rfl, fun j p hp => ⟨[.int .u8 p], rfl, rfl, fun i u hu => ?_⟩⟩⟩
  obtain ⟨hj, rfl⟩ := List.getElem?_eq_some_iff.1 hp
  have hj' : j < n := by simpa using hj
  cases i with
  | zero =>
    obtain rfl := Option.some.inj hu
    have := h j hj'
    show W.cell? (Addr.add ⟨b, o, none⟩ (j * 1 + 0)) = _
    have e : (Addr.add ⟨b, o, none⟩ (j * 1 + 0)) = ⟨b, o + j, none⟩ := by
      by_cases h0 : j = 0
      · simp [h0, Addr.add]
      · simp [h0, Addr.add]
    rw [e, this]
    simp
  | succ i => simp at hu
theorem hr_walk (b o n c : Nat) (x : Nat → Int) (w : World) (hn : 8 ≤ n) (hm : n ≤ 9223372036854775807) (hc : n ≤ c) (hx : Bts b o n x w) (ho : Oct 8 x) :
    Calls Tryd.prog 20 #[.slice (some ⟨b, o, none⟩) n c] w fun e w' => e = .returned (.int .u64 (N8 x)) ∧ Drawn0 w w' := by
  have h := spec_HashRead.calls 9 (some ⟨b, o, none⟩) c ((List.range n).map x) (N8 x) w (by rw [List.length_map, List.length_range]; exact bts_C hx hm) (by simpa using hc) (hr_law _ x (by simpa using hn) (fun i hi => ?_) ho)
  · rw [List.length_map, List.length_range] at h
    exact h
  · unfold rd
    rw [Int.toNat_natCast, List.getD_eq_getElem?_getD, List.getElem?_map, List.getElem?_range (by omega)]
    rfl
end Go.Proofs.YtnehminojlocoaaDoor.PAll
namespace Go.Proofs.YtnehminojlocoaaDoor.PAll
open Go.RowKit Go.Proofs.YtnehminojlocoaaDoorW.PrintWords Go.Proofs.YtnehminojlocoaaDoorW.PrintLast Go.Proofs.YtnehminojlocoaaDoorW.PrintMore
set_option linter.unusedVariables false
set_option linter.unusedSimpArgs false
section
variable {P : Program} {ops : Array Oper} {Q : Exit → Act → World → Prop} {S : World → Prop} {ds : List Nat} {N : Nat} {β : Nat → Nat} {M : Nat → Nat → Option Value} {T : TypeId → Option Ty}
/-- A step whose value is shown by hand. -/
theorem segV {i d fuel : Nat} {o : Oper} {s : SV} {L : Array Bool} {E : List (Nat × SV)} {a : Act} {w : World} (hQ : ∀ c (a a' : Act) w, a'.defers = a.defers → Q (.panic c) a w → Q (.panic c) a' w) (hS : S w) (hA : Has N β E a)
    (ho : ops[i]? = some o) (hg : o.guard = none) (hd : o.dst = some d) (hN : d < N) (hc : takeB .any ops ds L (L.setIfInBounds i true) i = true) (hrun : ∀ W, S W → (execOp a.eval o).run P W = .ok (.value (s.den β)) W)
    (h : ∀ a', Has N β ((d, s) :: E) a' → a'.defers = a.defers → wpAnyLast P .any ops Q S ds fuel (L.setIfInBounds i true) a' w) : wpAnyLast P .any ops Q S ds (fuel + 1) L a w :=
  take_ (i := i) (N := some d) (v := s.den β) (a' := a.put (some d) (s.den β)) _ ho hd hc (fun c a w h => hQ c _ _ w (put_defs _ _ _).symm h) (Or.inl ⟨want_ hg, hrun⟩) hS rfl (h _ (hA.put d hN s) (put_defs _ _ _))
/-- Pure steps. -/
theorem segP (hT : TabOk P T) (hM : ∀ W, S W → MemOk β M W) (hQ : ∀ c (a a' : Act) w, a'.defers = a.defers → Q (.panic c) a w → Q (.panic c) a' w) {w : World} (hS : S w) (l : List Nat) (fuel : Nat) (E2 : List (Nat × SV)) {L : Array Bool} {E : List (Nat × SV)} {a : Act} (hA : Has N β E a)
    (hB : schedB ops ds l L = true) (hs : (evs N T M ops l E).isSome = true) (hsub : Sub (evs N T M ops l E) E2)
    (h : ∀ a', Has N β E2 a' → a'.defers = a.defers → wpAnyLast P .any ops Q S ds fuel (marks l L) a' w) : wpAnyLast P .any ops Q S ds (fuel + l.length) L a w := by
  obtain ⟨E', he⟩ := Option.isSome_iff_exists.1 hs
  rw [he] at hsub
  exact seg_ hT hM hQ hS l hB he hA (fun a' h1 h2 => h a' (sub_ok h1 hsub) h2)
/-- The end. -/
theorem segE {L : Array Bool} {a : Act} {w : World} {n : Nat} (hr : (Region.ready .any ops L == []) = true) (h : Q .normal a w) : wpAnyLast P .any ops Q S ds n L a w := done_ hr h
/-- A call that keeps S. -/
theorem segC {j d f fuel : Nat} {v : Value} {args : List SV} {fn : Func} {L : Array Bool} {E : List (Nat × SV)} {a : Act} {w : World} (hS : S w) (hA : Has N β E a)
    (hB : (readyB .any ops L (L.setIfInBounds j true) j && !(ds.contains j)) = true) (hcl : clV N ops j (some E) = some (f, d, args)) (hf : P.funcs[f]? = some fn) (hname : (fn.name == "runtime.NumGoroutine") = false) (hb : fn.body.isSome = true)
    (hC : Calls P f (args.map (SV.den β)).toArray w fun e W' => e = .returned v ∧ S W')
    (h : ∀ a' W, Has N β ((d, .v v) :: E) a' → a'.defers = a.defers → S W → wpAnyLast P .any ops Q S ds fuel (L.setIfInBounds j true) a' W) : wpAnyLast P .any ops Q S ds (fuel + 1) L a w := by
  simp only [Bool.and_eq_true, Bool.not_eq_true', List.contains_eq_mem, decide_eq_false_iff_not] at hB
  obtain ⟨hB2, hB6⟩ := hB
  obtain ⟨E1, o1, he1, ho1, hg1, hd1, hN1, xs0, ts, hop1, hargs⟩ := clV_ok hcl
  obtain rfl := Option.some.inj he1
  refine one_ (i := j) (N := some d) _ ho1 hd1 hB2 hB6 (fun K hK => ?_)
  refine call_if hg1 hd1 hN1 hA hf hname hb hop1 hargs (fun v' W' => v' = v ∧ S W') (hC.mono fun e W' hh => ⟨v, hh.1, rfl, hh.2⟩) (fun v' W' a2 hR h3 h4 => ?_)
  obtain ⟨rfl, hS'⟩ := hR
  exact hK.out _ _ hS' (fun _ => h a2 W' h3 h4 hS')
/-- The last step: a call that may write. -/
theorem lastC {j d f fuel : Nat} {args : List SV} {fn : Func} {L : Array Bool} {E : List (Nat × SV)} {a : Act} {w : World} (hA : Has N β E a)
    (hB : (readyB .any ops L (L.setIfInBounds j true) j && (ds.contains j && (Region.ready .any ops (L.setIfInBounds j true) == []))) = true) (hcl : clV N ops j (some E) = some (f, d, args)) (hf : P.funcs[f]? = some fn) (hname : (fn.name == "runtime.NumGoroutine") = false) (hb : fn.body.isSome = true)
    (R : Value → World → Prop) (hC : Calls P f (args.map (SV.den β)).toArray w fun e W' => ∃ v, e = .returned v ∧ R v W')
    (h : ∀ a' v W, Has N β ((d, .v v) :: E) a' → a'.defers = a.defers → R v W → Q .normal a' W) : wpAnyLast P .any ops Q S ds (fuel + 1) L a w := by
  simp only [Bool.and_eq_true, List.contains_eq_mem, decide_eq_true_eq] at hB
  obtain ⟨hB2, hB6, hB4⟩ := hB
  obtain ⟨E1, o1, he1, ho1, hg1, hd1, hN1, xs0, ts, hop1, hargs⟩ := clV_ok hcl
  obtain rfl := Option.some.inj he1
  refine last_ (i := j) (N := some d) _ ho1 hd1 hB2 hB6 (fun K hK => ?_)
  exact call_if hg1 hd1 hN1 hA hf hname hb hop1 hargs R hC (fun v W' a2 hR h3 h4 => hK.out _ _ (done_ hB4 (h a2 v W' h3 h4 hR)))
/-- A composite of an array or a record. -/
theorem op_build {ρ : Operand → Value} {o : Oper} {W : World} {t : TypeId} {parts : Array (Nat × Operand)} {cells : Array Value} (ho : o.op = .build t parts) (h : P.built t (parts.map fun (i, x) => (i, ρ x)).toList = some cells) : (execOp ρ o).run P W = .ok (.value (.agg cells)) W := by
  unfold execOp
  simp only [ho, Sem.run_bind, run_build W t _ cells h, Result.andThen_ok]
  rfl
/-- The parts of a composite, as the walk knows them. -/
def partL (E : List (Nat × SV)) : List (Nat × Operand) → Option (List (Nat × Value))
  | [] => some []
  | (i, x) :: l => match evO E x, partL E l with
    | some (.v s), some r => some ((i, s) :: r)
    | _, _ => none
theorem partL_ok {E : List (Nat × SV)} {a : Act} (hA : Has N β E a) : ∀ {l : List (Nat × Operand)} {r : List (Nat × Value)}, partL E l = some r → l.map (fun (i, x) => (i, a.eval x)) = r
  | [], r, h => by obtain rfl := Option.some.inj h; rfl
  | (i, x) :: l, r, h => by
    unfold partL at h
    split at h
    · next s r' h1 h2 =>
      obtain rfl := Option.some.inj h
      show (i, a.eval x) :: List.map (fun (i, x) => (i, a.eval x)) l = _
      rw [partL_ok hA h2, evO_ok hA h1]
      rfl
    · cases h
/-- Which composite an operation builds, into which slot. -/
def buV (P : Program) (N : Nat) (ops : Array Oper) (j : Nat) (r : Option (List (Nat × SV))) : Option (Nat × Array Value) :=
  match r, ops[j]? with
  | some E, some o => match o.op, o.guard, o.dst with
    | .build t ps, none, some d => match Nat.blt d N, (partL E ps.toList).bind (P.built t) with
      | true, some cs => some (d, cs)
      | _, _ => none
    | _, _, _ => none
  | _, _ => none
theorem buV_ok {j d : Nat} {cs : Array Value} {r : Option (List (Nat × SV))} (h : buV P N ops j r = some (d, cs)) : ∃ E o, r = some E ∧ ops[j]? = some o ∧ o.guard = none ∧ o.dst = some d ∧ d < N ∧ ∀ (a : Act) (W : World), Has N β E a → (execOp a.eval o).run P W = .ok (.value (.agg cs)) W := by
  unfold buV at h
  split at h
  · next E o ho =>
    split at h
    · next t ps d0 hop hg hd =>
      split at h
      · next cs' hN hcs =>
        simp only [Option.some.injEq, Prod.mk.injEq] at h
        obtain ⟨rfl, rfl⟩ := h
        obtain ⟨r', hr', hb⟩ := Option.bind_eq_some_iff.1 hcs
        refine ⟨E, o, rfl, ho, hg, hd, Eq.mp Nat.blt_eq hN, fun a W hA => op_build hop ?_⟩
        rw [Array.toList_map, partL_ok hA hr']
        exact hb
      · cases h
    · cases h
  · cases h
theorem segB {i d fuel : Nat} {cs : Array Value} {L : Array Bool} {E : List (Nat × SV)} {a : Act} {w : World} (hQ : ∀ c (a a' : Act) w, a'.defers = a.defers → Q (.panic c) a w → Q (.panic c) a' w) (hS : S w) (hA : Has N β E a)
    (hbu : buV P N ops i (some E) = some (d, cs)) (hc : takeB .any ops ds L (L.setIfInBounds i true) i = true)
    (h : ∀ a', Has N β ((d, .v (.agg cs)) :: E) a' → a'.defers = a.defers → wpAnyLast P .any ops Q S ds fuel (L.setIfInBounds i true) a' w) : wpAnyLast P .any ops Q S ds (fuel + 1) L a w := by
  obtain ⟨E1, o, he, ho, hg, hd, hN, hrun⟩ := buV_ok (β := β) hbu
  obtain rfl := Option.some.inj he
  exact segV hQ hS hA ho hg hd hN hc (s := .v (.agg cs)) (fun W hW => hrun a W hA) h
theorem build_ops {i d : Nat} {cs : Array Value} {l : List Nat} {a : Act} {w : World} {E : List (Nat × SV)} (hA : Has N β E a) (hbu : buV P N ops i (some E) = some (d, cs))
    (h : ∀ a', Has N β ((d, .v (.agg cs)) :: E) a' → a'.defers = a.defers → wpOps P ops Q l a' w) : wpOps P ops Q (i :: l) a w := by
  obtain ⟨E1, o, he, ho, hg, hd, hN, hrun⟩ := buV_ok (β := β) hbu
  obtain rfl := Option.some.inj he
  exact given_ops ho hg hd hN hA (hrun a w hA) h
/-- A slice expression with a low bound, in steps. -/
theorem segS {i d fuel b o n c lo : Nat} {t : TypeId} {L : Array Bool} {E : List (Nat × SV)} {a : Act} {w : World} (hT : TabOk P T) (hQ : ∀ c (a a' : Act) w, a'.defers = a.defers → Q (.panic c) a w → Q (.panic c) a' w) (hS : S w) (hA : Has N β E a)
    (hsl : slG N ops i (some E) = some (d, t, .v (.slice (some ⟨b, o, none⟩) n c), some (.v (.int .i64 (lo : Int))), none)) (ht : T t = some .sl) (hlo : lo < n) (hc0 : n ≤ c) (hc : takeB .any ops ds L (L.setIfInBounds i true) i = true)
    (h : ∀ a', Has N β ((d, .v (.slice (some ⟨b, o + lo, none⟩) (n - lo) (c - lo))) :: E) a' → a'.defers = a.defers → wpAnyLast P .any ops Q S ds fuel (L.setIfInBounds i true) a' w) : wpAnyLast P .any ops Q S ds (fuel + 1) L a w := by
  obtain ⟨E1, o1, he1, ho1, hg1, hd1, hN1, hop1⟩ := slG_ok (P := P) (β := β) hsl
  obtain rfl := Option.some.inj he1
  refine segV hQ hS hA ho1 hg1 hd1 hN1 hc (s := .v (.slice (some ⟨b, o + lo, none⟩) (n - lo) (c - lo))) (fun W hW => hop1 a W _ hA ?_) h
  obtain ⟨e, h6, h7⟩ := hT _ _ ht
  have hne : ¬ c = lo := by omega
  have h1 : lo ≤ n := by omega
  show (Instr.sliceAt t (.slice (some ⟨b, o, none⟩) n c) (some (.int .i64 (lo : Int))) none none).run P W = _
  by_cases h0 : lo = 0
  · subst h0
    simp [go_sem, Instr.sliceAt, Instr.slice, Instr.sliceBounds, Instr.sliceBound, und h6, h7, Addr.add, hne]
    rfl
  · simp [go_sem, Instr.sliceAt, Instr.slice, Instr.sliceBounds, Instr.sliceBound, und h6, h7, Addr.add, hne, h1, hc0, h0]
    rfl
end
section
variable {P : Program} {ops : Array Oper} {Q : Exit → Act → World → Prop} {S : World → Prop} {ds : List Nat} {N : Nat} {β : Nat → Nat} {M : Nat → Nat → Option Value} {T : TypeId → Option Ty}
/-- Which function a call calls that is held in a slot. -/
def ctV (N : Nat) (ops : Array Oper) (j : Nat) (r : Option (List (Nat × SV))) : Option (Nat × Nat × List SV) :=
  match r, ops[j]? with
  | some E, some o => match o.op, o.guard, o.dst with
    | .call c, none, some d => match c.callee, Nat.blt d N with
      | .value (.tmp t), true => match look E t with
        | some (.v (.func (.func f) ⟨[]⟩ ⟨[]⟩)) => (argL E c.args.toList).map fun l => (f, d, l)
        | _ => none
      | _, _ => none
    | _, _, _ => none
  | _, _ => none
theorem goesT {oi : Oper} {D : Option Tmp} {a : Act} {w : World} {K : Act → World → Prop} {f : FuncId} {fn : Func} {xs : Array Operand} {ts : Array TypeId} {t : Tmp} (hf : P.funcs[f]? = some fn) (hname : (fn.name == "runtime.NumGoroutine") = false) (hb : fn.body.isSome = true) (args : Array Value)
    (hw : Region.wanted oi (yielded ops a.tmps) = true) (hN : oi.dst = D) (hop : oi.op = .call { callee := .value (.tmp t), args := xs, argTypes := ts }) (ht : a.eval (.tmp t) = .func (.func f) #[] #[]) (hargs : xs.map a.eval = args)
    (h : Calls P f args w fun e w' => ∃ v, e = .returned v ∧ K (a.put D v) w') : if Region.wanted oi (yielded ops a.tmps) = true then Oper.wp P oi a w K Q else K (a.put D undef) w := by
  refine call_ f args hw hN ?_ h
  have he := enters_ hf hname hb args w
  unfold execOp
  rw [hop]
  simp only [resolve, ht]
  simp [Deferred.ofValue, invoke, hargs, he]
/-- A call, by a slot, that keeps S. -/
theorem segT {j d f fuel : Nat} {v : Value} {args : List SV} {fn : Func} {L : Array Bool} {E : List (Nat × SV)} {a : Act} {w : World} (hS : S w) (hA : Has N β E a)
    (hB : (readyB .any ops L (L.setIfInBounds j true) j && !(ds.contains j)) = true) (hcl : ctV N ops j (some E) = some (f, d, args)) (hf : P.funcs[f]? = some fn) (hname : (fn.name == "runtime.NumGoroutine") = false) (hb : fn.body.isSome = true)
    (hC : Calls P f (args.map (SV.den β)).toArray w fun e W' => e = .returned v ∧ S W')
    (h : ∀ a' W, Has N β ((d, .v v) :: E) a' → a'.defers = a.defers → S W → wpAnyLast P .any ops Q S ds fuel (L.setIfInBounds j true) a' W) : wpAnyLast P .any ops Q S ds (fuel + 1) L a w := by
  simp only [Bool.and_eq_true, Bool.not_eq_true', List.contains_eq_mem, decide_eq_false_iff_not] at hB
  obtain ⟨hB2, hB6⟩ := hB
  unfold ctV at hcl
  split at hcl
  · next E0 o hE ho1 =>
    obtain rfl := Option.some.inj hE
    split at hcl
    · next c d0 hop hg1 hd1 =>
      split at hcl
      · next t hc hN1 =>
        split at hcl
        · next f0 hlk =>
          obtain ⟨l0, hargs, he⟩ := Option.map_eq_some_iff.1 hcl
          simp only [Prod.mk.injEq] at he
          obtain ⟨rfl, rfl, rfl⟩ := he
          obtain ⟨callee, xs0, ats⟩ := c
          obtain rfl : callee = _ := hc
          refine one_ (i := j) (N := some d0) _ ho1 hd1 hB2 hB6 (fun K hK => ?_)
          refine goesT hf hname hb _ (want_ hg1) hd1 hop (hA.2 t _ hlk) ?_ (hC.mono fun e w' hh => ⟨v, hh.1, hK.out _ _ hh.2 (fun _ => h _ w' (hA.put d0 (Eq.mp Nat.blt_eq hN1) (.v v)) (put_defs _ _ _) hh.2)⟩)
          rw [← argL_ok hA hargs, ← Array.toList_map, Array.toArray_toList]
        · cases hcl
      · cases hcl
    · cases hcl
  · cases hcl
end
end Go.Proofs.YtnehminojlocoaaDoor.PAll
namespace Go.Proofs.YtnehminojlocoaaDoor.PAll
open Go.RowKit Go.Proofs.YtnehminojlocoaaDoorW.PrintWords Go.Proofs.YtnehminojlocoaaDoorW.PrintLast Go.Proofs.YtnehminojlocoaaDoorW.PrintMore
set_option linter.unusedVariables false
set_option linter.unusedSimpArgs false
/-- Number i of a text. -/
def lan (x : Nat → Int) (i : Nat) : Int := N8 (fun j => x (8 * i + j))
theorem noMem {β : Nat → Nat} {W : World} : MemOk β (fun _ _ => none) W := fun _ _ _ h => by cases h
set_option maxHeartbeats 8000000 in
set_option maxRecDepth 100000 in
theorem packet_walk (g T : Nat) (s : Nat → Int) (m : Nat → Value) (b o n c : Nat) (x : Nat → Int) (w : World) (hs : (⟨g, T, 16, stm s m⟩ : Bl).In w) (hn : 32 ≤ n) (hm : n ≤ 9223372036854775807) (hc : n ≤ c) (hx : Bts b o n x w) (ho : Oct 32 x) :
    Calls Tryd.prog 21 #[.pointer (some ⟨g, 0, none⟩), .slice (some ⟨b, o, none⟩) n c] w fun e w' => e = .returned (.tuple #[]) ∧ (⟨g, T, 16, stm (US s (lan x)) m⟩ : Bl).In w' ∧ Fr [g] w w' := by
  refine calls_of_wp Tryd.func21 rfl ?_
  have h0 := has_two (β := fun _ => g) (.p 0 0) (.v (.slice (some ⟨b, o, none⟩) n c)) 16
  have d0 : (⟨#[SV.den (fun _ => g) (.p 0 0), SV.den (fun _ => g) (.v (.slice (some ⟨b, o, none⟩) n c))] ++ Array.replicate 16 undef, []⟩ : Act).defers = [] := rfl
  have hb0 : Below w.heap.size w w.drew := (Below.refl _ _).drew
  refine start_ (S := fun W => Below w.heap.size w W) (ds := [13]) (n := 14) _ (by kernel_rfl) rfl rfl hb0 (fun hS0 => ?_)
  clear hb0
  refine segP (T := TT) (M := fun _ _ => none) (N := 18) tabOk (fun _ _ => noMem) (fun _ _ _ _ hd h => And.intro (hd.trans (And.left h)) (And.right h)) hS0 [0, 1, 3, 6, 9] 9 [(0, .p 0 0), (1, .v (.slice (some ⟨b, o, none⟩) n c)), (4, .p 0 0), (5, .v (.slice (some ⟨b, o, none⟩) n c)), (7, .v (.slice (some ⟨b, o, none⟩) n c)), (10, .v (.slice (some ⟨b, o, none⟩) n c)), (13, .v (.slice (some ⟨b, o, none⟩) n c))] h0 (by kernel_rfl) (by kernel_rfl) ⟨by kernel_rfl, by kernel_rfl, by kernel_rfl, by kernel_rfl, by kernel_rfl, by kernel_rfl, by kernel_rfl, trivial⟩ (fun a1 h1 d1 => ?_)
  replace d1 := d1.trans d0
  clear h0 d0
  refine segS (N := 18) (i := 4) (d := 8) (b := b) (o := o) (n := n) (c := c) (lo := 8) (t := 22) tabOk (fun _ _ _ _ hd h => And.intro (hd.trans (And.left h)) (And.right h)) hS0 h1 (by kernel_rfl) (by kernel_rfl) (by omega) (by omega) (by kernel_rfl) (fun a2 h2 d2 => ?_)
  replace d2 := d2.trans d1
  clear h1 d1
  replace h2 := sub_ok (E := [(0, .p 0 0), (1, .v (.slice (some ⟨b, o, none⟩) n c)), (4, .p 0 0), (5, .v (.slice (some ⟨b, o, none⟩) n c)), (7, .v (.slice (some ⟨b, o, none⟩) n c)), (8, .v (.slice (some ⟨b, o + 8, none⟩) (n - 8) (c - 8))), (10, .v (.slice (some ⟨b, o, none⟩) n c)), (13, .v (.slice (some ⟨b, o, none⟩) n c))]) h2 ⟨by kernel_rfl, by kernel_rfl, by kernel_rfl, by kernel_rfl, by kernel_rfl, by kernel_rfl, by kernel_rfl, by kernel_rfl, trivial⟩
  refine segS (N := 18) (i := 7) (d := 11) (b := b) (o := o) (n := n) (c := c) (lo := 16) (t := 22) tabOk (fun _ _ _ _ hd h => And.intro (hd.trans (And.left h)) (And.right h)) hS0 h2 (by kernel_rfl) (by kernel_rfl) (by omega) (by omega) (by kernel_rfl) (fun a3 h3 d3 => ?_)
  replace d3 := d3.trans d2
  clear h2 d2
  replace h3 := sub_ok (E := [(0, .p 0 0), (1, .v (.slice (some ⟨b, o, none⟩) n c)), (4, .p 0 0), (5, .v (.slice (some ⟨b, o, none⟩) n c)), (7, .v (.slice (some ⟨b, o, none⟩) n c)), (8, .v (.slice (some ⟨b, o + 8, none⟩) (n - 8) (c - 8))), (10, .v (.slice (some ⟨b, o, none⟩) n c)), (11, .v (.slice (some ⟨b, o + 16, none⟩) (n - 16) (c - 16))), (13, .v (.slice (some ⟨b, o, none⟩) n c))]) h3 ⟨by kernel_rfl, by kernel_rfl, by kernel_rfl, by kernel_rfl, by kernel_rfl, by kernel_rfl, by kernel_rfl, by kernel_rfl, by kernel_rfl, trivial⟩
  refine segS (N := 18) (i := 10) (d := 14) (b := b) (o := o) (n := n) (c := c) (lo := 24) (t := 22) tabOk (fun _ _ _ _ hd h => And.intro (hd.trans (And.left h)) (And.right h)) hS0 h3 (by kernel_rfl) (by kernel_rfl) (by omega) (by omega) (by kernel_rfl) (fun a4 h4 d4 => ?_)
  replace d4 := d4.trans d3
  clear h3 d3
  replace h4 := sub_ok (E := [(0, .p 0 0), (1, .v (.slice (some ⟨b, o, none⟩) n c)), (4, .p 0 0), (5, .v (.slice (some ⟨b, o, none⟩) n c)), (7, .v (.slice (some ⟨b, o, none⟩) n c)), (8, .v (.slice (some ⟨b, o + 8, none⟩) (n - 8) (c - 8))), (10, .v (.slice (some ⟨b, o, none⟩) n c)), (11, .v (.slice (some ⟨b, o + 16, none⟩) (n - 16) (c - 16))), (13, .v (.slice (some ⟨b, o, none⟩) n c)), (14, .v (.slice (some ⟨b, o + 24, none⟩) (n - 24) (c - 24)))]) h4 ⟨by kernel_rfl, by kernel_rfl, by kernel_rfl, by kernel_rfl, by kernel_rfl, by kernel_rfl, by kernel_rfl, by kernel_rfl, by kernel_rfl, by kernel_rfl, trivial⟩
  refine segC (N := 18) (j := 2) (d := 6) (f := 20) (v := (.int .u64 (N8 x))) (args := [.v (.slice (some ⟨b, o, none⟩) n c)]) hS0 h4 (by kernel_rfl) (by kernel_rfl) Tryd.func20 rfl rfl
    ((hr_walk b o n c x _ (by omega) hm hc (hx.onB hS0) (fun i hi => ho i (by omega))).mono fun e W' hh => ⟨hh.1, hS0.trans (hh.2.below.mono hS0.size)⟩) (fun a5 W5 h5 d5 hS5 => ?_)
  clear hS0
  replace d5 := d5.trans d4
  clear h4 d4
  replace h5 := sub_ok (E := [(0, .p 0 0), (1, .v (.slice (some ⟨b, o, none⟩) n c)), (4, .p 0 0), (5, .v (.slice (some ⟨b, o, none⟩) n c)), (6, .v (.int .u64 (N8 x))), (7, .v (.slice (some ⟨b, o, none⟩) n c)), (8, .v (.slice (some ⟨b, o + 8, none⟩) (n - 8) (c - 8))), (10, .v (.slice (some ⟨b, o, none⟩) n c)), (11, .v (.slice (some ⟨b, o + 16, none⟩) (n - 16) (c - 16))), (13, .v (.slice (some ⟨b, o, none⟩) n c)), (14, .v (.slice (some ⟨b, o + 24, none⟩) (n - 24) (c - 24)))]) h5 ⟨by kernel_rfl, by kernel_rfl, by kernel_rfl, by kernel_rfl, by kernel_rfl, by kernel_rfl, by kernel_rfl, by kernel_rfl, by kernel_rfl, by kernel_rfl, by kernel_rfl, trivial⟩
  refine segC (N := 18) (j := 5) (d := 9) (f := 20) (v := (.int .u64 (N8 (fun j => x (8 + j))))) (args := [.v (.slice (some ⟨b, o + 8, none⟩) (n - 8) (c - 8))]) hS5 h5 (by kernel_rfl) (by kernel_rfl) Tryd.func20 rfl rfl
    ((hr_walk b (o + 8) (n - 8) (c - 8) (fun j => x (8 + j)) _ (by omega) (by omega) (by omega) ((hx.onB hS5).from 8 (n - 8) (by omega)) (fun i hi => ho (8 + i) (by omega))).mono fun e W' hh => ⟨hh.1, hS5.trans (hh.2.below.mono hS5.size)⟩) (fun a6 W6 h6 d6 hS6 => ?_)
  clear hS5
  replace d6 := d6.trans d5
  clear h5 d5
  replace h6 := sub_ok (E := [(0, .p 0 0), (1, .v (.slice (some ⟨b, o, none⟩) n c)), (4, .p 0 0), (5, .v (.slice (some ⟨b, o, none⟩) n c)), (6, .v (.int .u64 (N8 x))), (7, .v (.slice (some ⟨b, o, none⟩) n c)), (8, .v (.slice (some ⟨b, o + 8, none⟩) (n - 8) (c - 8))), (9, .v (.int .u64 (N8 (fun j => x (8 + j))))), (10, .v (.slice (some ⟨b, o, none⟩) n c)), (11, .v (.slice (some ⟨b, o + 16, none⟩) (n - 16) (c - 16))), (13, .v (.slice (some ⟨b, o, none⟩) n c)), (14, .v (.slice (some ⟨b, o + 24, none⟩) (n - 24) (c - 24)))]) h6 ⟨by kernel_rfl, by kernel_rfl, by kernel_rfl, by kernel_rfl, by kernel_rfl, by kernel_rfl, by kernel_rfl, by kernel_rfl, by kernel_rfl, by kernel_rfl, by kernel_rfl, by kernel_rfl, trivial⟩
  refine segC (N := 18) (j := 8) (d := 12) (f := 20) (v := (.int .u64 (N8 (fun j => x (16 + j))))) (args := [.v (.slice (some ⟨b, o + 16, none⟩) (n - 16) (c - 16))]) hS6 h6 (by kernel_rfl) (by kernel_rfl) Tryd.func20 rfl rfl
    ((hr_walk b (o + 16) (n - 16) (c - 16) (fun j => x (16 + j)) _ (by omega) (by omega) (by omega) ((hx.onB hS6).from 16 (n - 16) (by omega)) (fun i hi => ho (16 + i) (by omega))).mono fun e W' hh => ⟨hh.1, hS6.trans (hh.2.below.mono hS6.size)⟩) (fun a7 W7 h7 d7 hS7 => ?_)
  clear hS6
  replace d7 := d7.trans d6
  clear h6 d6
  replace h7 := sub_ok (E := [(0, .p 0 0), (1, .v (.slice (some ⟨b, o, none⟩) n c)), (4, .p 0 0), (5, .v (.slice (some ⟨b, o, none⟩) n c)), (6, .v (.int .u64 (N8 x))), (7, .v (.slice (some ⟨b, o, none⟩) n c)), (8, .v (.slice (some ⟨b, o + 8, none⟩) (n - 8) (c - 8))), (9, .v (.int .u64 (N8 (fun j => x (8 + j))))), (10, .v (.slice (some ⟨b, o, none⟩) n c)), (11, .v (.slice (some ⟨b, o + 16, none⟩) (n - 16) (c - 16))), (12, .v (.int .u64 (N8 (fun j => x (16 + j))))), (13, .v (.slice (some ⟨b, o, none⟩) n c)), (14, .v (.slice (some ⟨b, o + 24, none⟩) (n - 24) (c - 24)))]) h7 ⟨by kernel_rfl, by kernel_rfl, by kernel_rfl, by kernel_rfl, by kernel_rfl, by kernel_rfl, by kernel_rfl, by kernel_rfl, by kernel_rfl, by kernel_rfl, by kernel_rfl, by kernel_rfl, by kernel_rfl, trivial⟩
  refine segC (N := 18) (j := 11) (d := 15) (f := 20) (v := (.int .u64 (N8 (fun j => x (24 + j))))) (args := [.v (.slice (some ⟨b, o + 24, none⟩) (n - 24) (c - 24))]) hS7 h7 (by kernel_rfl) (by kernel_rfl) Tryd.func20 rfl rfl
    ((hr_walk b (o + 24) (n - 24) (c - 24) (fun j => x (24 + j)) _ (by omega) (by omega) (by omega) ((hx.onB hS7).from 24 (n - 24) (by omega)) (fun i hi => ho (24 + i) (by omega))).mono fun e W' hh => ⟨hh.1, hS7.trans (hh.2.below.mono hS7.size)⟩) (fun a8 W8 h8 d8 hS8 => ?_)
  clear hS7
  replace d8 := d8.trans d7
  clear h7 d7
  replace h8 := sub_ok (E := [(0, .p 0 0), (1, .v (.slice (some ⟨b, o, none⟩) n c)), (4, .p 0 0), (5, .v (.slice (some ⟨b, o, none⟩) n c)), (6, .v (.int .u64 (N8 x))), (7, .v (.slice (some ⟨b, o, none⟩) n c)), (8, .v (.slice (some ⟨b, o + 8, none⟩) (n - 8) (c - 8))), (9, .v (.int .u64 (N8 (fun j => x (8 + j))))), (10, .v (.slice (some ⟨b, o, none⟩) n c)), (11, .v (.slice (some ⟨b, o + 16, none⟩) (n - 16) (c - 16))), (12, .v (.int .u64 (N8 (fun j => x (16 + j))))), (13, .v (.slice (some ⟨b, o, none⟩) n c)), (14, .v (.slice (some ⟨b, o + 24, none⟩) (n - 24) (c - 24))), (15, .v (.int .u64 (N8 (fun j => x (24 + j)))))]) h8 ⟨by kernel_rfl, by kernel_rfl, by kernel_rfl, by kernel_rfl, by kernel_rfl, by kernel_rfl, by kernel_rfl, by kernel_rfl, by kernel_rfl, by kernel_rfl, by kernel_rfl, by kernel_rfl, by kernel_rfl, by kernel_rfl, trivial⟩
  refine segB (N := 18) (i := 12) (d := 16) (cs := #[.int .u64 (N8 x), .int .u64 (N8 (fun j => x (8 + j))), .int .u64 (N8 (fun j => x (16 + j))), .int .u64 (N8 (fun j => x (24 + j)))]) (fun _ _ _ _ hd h => And.intro (hd.trans (And.left h)) (And.right h)) hS8 h8 (by kernel_rfl) (by kernel_rfl) (fun a9 h9 d9 => ?_)
  replace d9 := d9.trans d8
  clear h8 d8
  replace h9 := sub_ok (E := [(0, .p 0 0), (4, .p 0 0), (16, .v (.agg #[.int .u64 (N8 x), .int .u64 (N8 (fun j => x (8 + j))), .int .u64 (N8 (fun j => x (16 + j))), .int .u64 (N8 (fun j => x (24 + j)))]))]) h9 ⟨by kernel_rfl, by kernel_rfl, by kernel_rfl, trivial⟩
  have e0 : (.int .u64 (N8 x) : Value) = .int .u64 (lan x 0) := by
    unfold lan
    simp only [Nat.mul_zero, Nat.zero_add]
  refine lastC (N := 18) (j := 13) (d := 17) (f := 36) (args := [.p 0 0, .v (.agg #[.int .u64 (N8 x), .int .u64 (N8 (fun j => x (8 + j))), .int .u64 (N8 (fun j => x (16 + j))), .int .u64 (N8 (fun j => x (24 + j)))])]) h9 (by kernel_rfl) (by kernel_rfl) Tryd.func36 rfl rfl (fun v W' => v = .tuple #[] ∧ (⟨g, T, 16, stm (US s (lan x)) m⟩ : Bl).In W' ∧ Fr [g] w W') ?_ (fun a v W h d hR => ?_)
  · have key := us_walk g T s (lan x) m _ (hs.on (Fr.ofBelow [] hS8) (by simp))
    rw [← e0] at key
    exact key.mono fun e W' hh => ⟨_, hh.1, rfl, hh.2.1, (Fr.ofBelow [g] hS8).trans hh.2.2⟩
  · obtain ⟨rfl, h1, h2⟩ := hR
    exact ⟨d.trans d9, _, results_none rfl _ _ _, rfl, h1, h2⟩
theorem has_one {β : Nat → Nat} (x0 : SV) (k : Nat) : Has (1 + k) β [(0, x0)] ⟨#[x0.den β] ++ Array.replicate k undef, []⟩ := by
  refine has_list (by simp) ⟨?_, trivial⟩
  show ((#[x0.den β] ++ Array.replicate k undef).getD 0 undef) = _
  rw [Array.getD_eq_getD_getElem?, Array.getElem?_append_left (by simp)]
  rfl
/-- A number's halves, turned. -/
def half (n : Int) : Int := Go.bits .or .u64 (n / 4294967296) (IntKind.u64.wrap (n * 4294967296))
set_option maxHeartbeats 8000000 in
set_option maxRecDepth 100000 in
theorem half_walk (x : Int) (w : World) : Calls Tryd.prog 38 #[.int .u64 x] w fun e w' => e = .returned (.int .u64 (half x)) ∧ Fr [] w w' := by
  refine calls_of_wp Tryd.func38 rfl ?_
  have h0 := has_one (β := fun _ => 0) (.v (.int .u64 x)) 7
  refine wp_seq ?_
  refine reg_seq (N := 8) (T := TT) (M := fun _ _ => none) (n := 1) (E2 := [(0, .v (.int .u64 x))]) tabOk h0 noMem rfl (by kernel_rfl) ⟨by kernel_rfl, trivial⟩ (fun a1 h1 d1 => ?_)
  show Code.wp _ _ _ _ _
  refine wp_seq ?_
  refine reg_seq (N := 8) (T := TT) (M := fun _ _ => none) (n := 6) (E2 := [(2, .v (.int .u64 (half x)))]) tabOk h1 noMem rfl (by kernel_rfl) ⟨by kernel_rfl, trivial⟩ (fun a2 h2 d2 => ?_)
  show Code.wp _ _ _ _ _
  refine wp_ret ?_
  refine ⟨d2.trans d1, _, results_tmp rfl _ _ _, ?_, Fr.refl _ _⟩
  exact congrArg Ending.returned (h2.2 2 _ rfl)
/-- The numbers that a state takes in of its own. -/
def own4 (s : Nat → Int) (i : Nat) : Int := half (s ((i + 2) % 4))
set_option maxHeartbeats 8000000 in
set_option maxRecDepth 100000 in
theorem mixed_walk (g T : Nat) (s : Nat → Int) (m : Nat → Value) (w : World) (hs : (⟨g, T, 16, stm s m⟩ : Bl).In w) :
    Calls Tryd.prog 23 #[.pointer (some ⟨g, 0, none⟩)] w fun e w' => e = .returned (.tuple #[]) ∧ (⟨g, T, 16, stm (US s (own4 s)) m⟩ : Bl).In w' ∧ Fr [g] w w' := by
  refine calls_of_wp Tryd.func23 rfl ?_
  have h0 := has_one (β := bg [⟨g, T, 16, stm s m⟩]) (.p 0 0) 33
  have M0 : Mw (bg [⟨g, T, 16, stm s m⟩]) [⟨g, T, 16, stm s m⟩] w := ⟨rfl, hs, by simp, trivial⟩
  refine wp_seq ?_
  refine reg_seq (N := 34) (T := TT) (M := fun _ _ => none) (n := 1) (E2 := [(0, .p 0 0), (2, .v (.func (.func 38) #[] #[]))]) tabOk h0 noMem rfl (by kernel_rfl) ⟨by kernel_rfl, by kernel_rfl, trivial⟩ (fun a1 h1 d1 => ?_)
  show Code.wp _ _ _ _ _
  have hb0 : Fr [] w w.drew := (Fr.refl [] w).drew
  refine start_ (S := fun W => Mw (bg [⟨g, T, 16, stm s m⟩]) [⟨g, T, 16, stm s m⟩] W ∧ Fr [] w W) (ds := [30]) (n := 31) _ (by kernel_rfl) rfl rfl ⟨M0.drew, hb0⟩ (fun hS1 => ?_)
  clear hb0
  refine segP (T := TT) (M := bm [⟨g, T, 16, stm s m⟩]) (N := 34) tabOk (fun V h => h.1.mem) (fun _ _ _ _ hd h => And.intro (hd.trans (And.left h)) (And.right h)) hS1 [0, 1, 2, 3, 4, 5, 6, 8, 9, 10, 11, 12, 13, 15, 16, 17, 18, 19, 20, 22, 23, 24, 25, 26, 27] 6 [(3, .p 0 0), (4, .v (.func (.func 38) #[] #[])), (9, .v (.int .u64 (s 2))), (11, .v (.func (.func 38) #[] #[])), (16, .v (.int .u64 (s 3))), (18, .v (.func (.func 38) #[] #[])), (23, .v (.int .u64 (s 0))), (25, .v (.func (.func 38) #[] #[])), (30, .v (.int .u64 (s 1)))] h1 (by kernel_rfl) (by kernel_rfl) ⟨by kernel_rfl, by kernel_rfl, by kernel_rfl, by kernel_rfl, by kernel_rfl, by kernel_rfl, by kernel_rfl, by kernel_rfl, by kernel_rfl, trivial⟩ (fun a2 h2 d2 => ?_)
  replace d2 := d2.trans d1
  clear h1 d1
  refine segT (N := 34) (j := 7) (d := 10) (f := 38) (v := (.int .u64 (half (s 2)))) (args := [.v (.int .u64 (s 2))]) hS1 h2 (by kernel_rfl) (by kernel_rfl) Tryd.func38 rfl rfl
    ((half_walk (s 2) _).mono fun e W' hh => ⟨hh.1, ⟨hS1.1.1, hS1.1.2.on hh.2 (by simp)⟩, hS1.2.trans hh.2⟩) (fun a3 W3 h3 d3 hS3 => ?_)
  clear hS1
  replace d3 := d3.trans d2
  clear h2 d2
  replace h3 := sub_ok (E := [(3, .p 0 0), (4, .v (.func (.func 38) #[] #[])), (9, .v (.int .u64 (s 2))), (10, .v (.int .u64 (half (s 2)))), (11, .v (.func (.func 38) #[] #[])), (16, .v (.int .u64 (s 3))), (18, .v (.func (.func 38) #[] #[])), (23, .v (.int .u64 (s 0))), (25, .v (.func (.func 38) #[] #[])), (30, .v (.int .u64 (s 1)))]) h3 ⟨by kernel_rfl, by kernel_rfl, by kernel_rfl, by kernel_rfl, by kernel_rfl, by kernel_rfl, by kernel_rfl, by kernel_rfl, by kernel_rfl, by kernel_rfl, trivial⟩
  refine segT (N := 34) (j := 14) (d := 17) (f := 38) (v := (.int .u64 (half (s 3)))) (args := [.v (.int .u64 (s 3))]) hS3 h3 (by kernel_rfl) (by kernel_rfl) Tryd.func38 rfl rfl
    ((half_walk (s 3) _).mono fun e W' hh => ⟨hh.1, ⟨hS3.1.1, hS3.1.2.on hh.2 (by simp)⟩, hS3.2.trans hh.2⟩) (fun a4 W4 h4 d4 hS4 => ?_)
  clear hS3
  replace d4 := d4.trans d3
  clear h3 d3
  replace h4 := sub_ok (E := [(3, .p 0 0), (4, .v (.func (.func 38) #[] #[])), (9, .v (.int .u64 (s 2))), (10, .v (.int .u64 (half (s 2)))), (11, .v (.func (.func 38) #[] #[])), (16, .v (.int .u64 (s 3))), (17, .v (.int .u64 (half (s 3)))), (18, .v (.func (.func 38) #[] #[])), (23, .v (.int .u64 (s 0))), (25, .v (.func (.func 38) #[] #[])), (30, .v (.int .u64 (s 1)))]) h4 ⟨by kernel_rfl, by kernel_rfl, by kernel_rfl, by kernel_rfl, by kernel_rfl, by kernel_rfl, by kernel_rfl, by kernel_rfl, by kernel_rfl, by kernel_rfl, by kernel_rfl, trivial⟩
  refine segT (N := 34) (j := 21) (d := 24) (f := 38) (v := (.int .u64 (half (s 0)))) (args := [.v (.int .u64 (s 0))]) hS4 h4 (by kernel_rfl) (by kernel_rfl) Tryd.func38 rfl rfl
    ((half_walk (s 0) _).mono fun e W' hh => ⟨hh.1, ⟨hS4.1.1, hS4.1.2.on hh.2 (by simp)⟩, hS4.2.trans hh.2⟩) (fun a5 W5 h5 d5 hS5 => ?_)
  clear hS4
  replace d5 := d5.trans d4
  clear h4 d4
  replace h5 := sub_ok (E := [(3, .p 0 0), (4, .v (.func (.func 38) #[] #[])), (9, .v (.int .u64 (s 2))), (10, .v (.int .u64 (half (s 2)))), (11, .v (.func (.func 38) #[] #[])), (16, .v (.int .u64 (s 3))), (17, .v (.int .u64 (half (s 3)))), (18, .v (.func (.func 38) #[] #[])), (23, .v (.int .u64 (s 0))), (24, .v (.int .u64 (half (s 0)))), (25, .v (.func (.func 38) #[] #[])), (30, .v (.int .u64 (s 1)))]) h5 ⟨by kernel_rfl, by kernel_rfl, by kernel_rfl, by kernel_rfl, by kernel_rfl, by kernel_rfl, by kernel_rfl, by kernel_rfl, by kernel_rfl, by kernel_rfl, by kernel_rfl, by kernel_rfl, trivial⟩
  refine segT (N := 34) (j := 28) (d := 31) (f := 38) (v := (.int .u64 (half (s 1)))) (args := [.v (.int .u64 (s 1))]) hS5 h5 (by kernel_rfl) (by kernel_rfl) Tryd.func38 rfl rfl
    ((half_walk (s 1) _).mono fun e W' hh => ⟨hh.1, ⟨hS5.1.1, hS5.1.2.on hh.2 (by simp)⟩, hS5.2.trans hh.2⟩) (fun a6 W6 h6 d6 hS6 => ?_)
  clear hS5
  replace d6 := d6.trans d5
  clear h5 d5
  replace h6 := sub_ok (E := [(3, .p 0 0), (4, .v (.func (.func 38) #[] #[])), (9, .v (.int .u64 (s 2))), (10, .v (.int .u64 (half (s 2)))), (11, .v (.func (.func 38) #[] #[])), (16, .v (.int .u64 (s 3))), (17, .v (.int .u64 (half (s 3)))), (18, .v (.func (.func 38) #[] #[])), (23, .v (.int .u64 (s 0))), (24, .v (.int .u64 (half (s 0)))), (25, .v (.func (.func 38) #[] #[])), (30, .v (.int .u64 (s 1))), (31, .v (.int .u64 (half (s 1))))]) h6 ⟨by kernel_rfl, by kernel_rfl, by kernel_rfl, by kernel_rfl, by kernel_rfl, by kernel_rfl, by kernel_rfl, by kernel_rfl, by kernel_rfl, by kernel_rfl, by kernel_rfl, by kernel_rfl, by kernel_rfl, trivial⟩
  refine segB (N := 34) (i := 29) (d := 32) (cs := #[.int .u64 (half (s 2)), .int .u64 (half (s 3)), .int .u64 (half (s 0)), .int .u64 (half (s 1))]) (fun _ _ _ _ hd h => And.intro (hd.trans (And.left h)) (And.right h)) hS6 h6 (by kernel_rfl) (by kernel_rfl) (fun a7 h7 d7 => ?_)
  replace d7 := d7.trans d6
  clear h6 d6
  replace h7 := sub_ok (E := [(3, .p 0 0), (32, .v (.agg #[.int .u64 (half (s 2)), .int .u64 (half (s 3)), .int .u64 (half (s 0)), .int .u64 (half (s 1))]))]) h7 ⟨by kernel_rfl, by kernel_rfl, trivial⟩
  refine lastC (N := 34) (j := 30) (d := 33) (f := 36) (args := [.p 0 0, .v (.agg #[.int .u64 (half (s 2)), .int .u64 (half (s 3)), .int .u64 (half (s 0)), .int .u64 (half (s 1))])]) h7 (by kernel_rfl) (by kernel_rfl) Tryd.func36 rfl rfl (fun v W' => v = .tuple #[] ∧ (⟨g, T, 16, stm (US s (own4 s)) m⟩ : Bl).In W' ∧ Fr [g] w W') ?_ (fun a v W h d hR => ?_)
  · exact (us_walk g T s (own4 s) m _ (hS6.1.2.get (k := 0) rfl)).mono fun e W' hh => ⟨_, hh.1, rfl, hh.2.1, (hS6.2.mono (by simp)).trans hh.2.2⟩
  · obtain ⟨rfl, h1, h2⟩ := hR
    exact ⟨d.trans d7, _, results_none rfl _ _ _, rfl, h1, h2⟩
end Go.Proofs.YtnehminojlocoaaDoor.PAll
namespace Go.Proofs.YtnehminojlocoaaDoor.PAll
open Go.RowKit Go.Proofs.YtnehminojlocoaaDoorW.PrintWords Go.Proofs.YtnehminojlocoaaDoorW.PrintLast Go.Proofs.YtnehminojlocoaaDoorW.PrintMore
set_option linter.unusedVariables false
set_option linter.unusedSimpArgs false
/-- A state before its key. -/
def k0n (i : Nat) : Int := if i < 8 then 0 else if i < 12 then I0 (i - 8) else I1 (i - 12)
/-- The published state at the beginning. -/
def newH (k : Nat → Int) (i : Nat) : Int := if i < 4 then Go.bits .xor .u64 (I0 i) (k i) else if i < 8 then Go.bits .xor .u64 (I1 (i - 4)) (half (k (i - 4))) else if i < 12 then I0 (i - 8) else I1 (i - 12)
def zz : Nat → Value := fun _ => .int .u64 0
noncomputable def nh2 : Code := match Tryd.f19.body with
  | some (.seq _ (.seq _ c)) => c
  | _ => .skip
set_option maxHeartbeats 8000000 in
set_option maxRecDepth 100000 in
theorem nh_rest (g kb : Nat) (k : Nat → Int) (w W0 : World) (a0 : Act) (hg : w.heap.size ≤ g) (β : Nat → Nat) (M0 : Mw β [⟨g, 65, 16, (stm k0n zz)⟩, ⟨kb, 61, 4, (fun i => .int .u64 (k i))⟩] W0) (F0 : Fr [] w W0) (h0 : Has 50 β [(1, .p 1 0), (3, .p 0 0)] a0) (d0 : a0.defers = []) :
    Code.wp Tryd.prog nh2 (bodyPost Tryd.prog Tryd.f19 fun e w' => ∃ g, e = .returned (.pointer (some ⟨g, 0, none⟩)) ∧ w.heap.size ≤ g ∧ (⟨g, 65, 16, stm (newH k) zz⟩ : Bl).In w' ∧ Fr [] w w') a0 W0 := by
  obtain ⟨rfl, _⟩ := id M0
  refine wp_seq ?_
  refine wp_seq ?_
  refine regM_seq (N := 50) (T := TT) (n := 1) (E2 := [(1, .p 1 0), (3, .p 0 0), (9, .v (.int .i64 0))]) tabOk h0 M0 rfl (by kernel_rfl) ⟨by kernel_rfl, by kernel_rfl, by kernel_rfl, trivial⟩ (fun a1 h1 d1 => ?_)
  show Code.wp _ _ _ _ _
  replace d1 := d1.trans d0
  clear h0 d0
  refine wp_block ?_
  refine wp_loop_rounds 5 ?_
  rw [rounds_succ]
  refine wp_seq ?_
  refine regM_seq (N := 50) (T := TT) (n := 1) (E2 := [(1, .p 1 0), (3, .p 0 0), (9, .v (.int .i64 0)), (10, .v (.bool true))]) tabOk h1 M0 rfl (by kernel_rfl) ⟨by kernel_rfl, by kernel_rfl, by kernel_rfl, by kernel_rfl, trivial⟩ (fun a2 h2 d2 => ?_)
  show Code.wp _ _ _ _ _
  replace d2 := d2.trans d1
  clear h1 d1
  refine wp_seq ?_
  refine wp_cond_true (h2.2 10 _ rfl) ?_
  refine wp_skip ?_
  show Code.wp _ _ _ _ _
  refine wp_seq ?_
  refine wp_block ?_
  refine wp_seq ?_
  refine regM_seq (N := 50) (T := TT) (n := 2) (E2 := [(1, .p 1 0), (3, .p 0 0), (4, .v (.int .i64 0)), (9, .v (.int .i64 0))]) tabOk h2 M0 rfl (by kernel_rfl) ⟨by kernel_rfl, by kernel_rfl, by kernel_rfl, by kernel_rfl, trivial⟩ (fun a3 h3 d3 => ?_)
  show Code.wp _ _ _ _ _
  replace d3 := d3.trans d2
  clear h2 d2
  refine wp_seq ?_
  refine regM_store (N := 50) (T := TT) (n := 15) (k := 0) (i := 0) (u := .int .u64 (Go.bits .xor .u64 (I0 0) (k 0))) (E2 := [(1, .p 1 0), (3, .p 0 0), (4, .v (.int .i64 0)), (9, .v (.int .i64 0))]) (by kernel_rfl) tabOk h3 M0 rfl (by kernel_rfl) (by kernel_rfl) rfl ⟨by kernel_rfl, by kernel_rfl, by kernel_rfl, by kernel_rfl, trivial⟩ (fun _ _ _ _ hd h => And.intro (hd.trans (And.left h)) (And.right h)) (fun a4 W4 h4 d4 M4 G4 => ?_)
  show Code.wp _ _ _ _ _
  replace d4 := d4.trans d3
  replace M4 : Mw (bg [⟨g, 65, 16, (stm k0n zz)⟩, ⟨kb, 61, 4, (fun i => .int .u64 (k i))⟩]) [⟨g, 65, 16, (upm (stm k0n zz) 0 (.int .u64 (Go.bits .xor .u64 (I0 0) (k 0))))⟩, ⟨kb, 61, 4, (fun i => .int .u64 (k i))⟩] W4 := M4
  have F4 := Fr.comp F0 G4 (fun x hx => Or.inr (by simp at hx; subst hx; exact hg))
  clear F0 G4
  clear h3 d3 M0
  refine regM_store (N := 50) (T := TT) (n := 21) (k := 0) (i := 4) (u := .int .u64 (Go.bits .xor .u64 (I1 0) (half (k 0)))) (E2 := [(1, .p 1 0), (3, .p 0 0), (9, .v (.int .i64 0))]) (by kernel_rfl) tabOk h4 M4 rfl (by kernel_rfl) (by kernel_rfl) rfl ⟨by kernel_rfl, by kernel_rfl, by kernel_rfl, trivial⟩ (fun _ _ _ _ hd h => And.intro (hd.trans (And.left h)) (And.right h)) (fun a5 W5 h5 d5 M5 G5 => ?_)
  show Code.wp _ _ _ _ _
  replace d5 := d5.trans d4
  replace M5 : Mw (bg [⟨g, 65, 16, (stm k0n zz)⟩, ⟨kb, 61, 4, (fun i => .int .u64 (k i))⟩]) [⟨g, 65, 16, (upm (upm (stm k0n zz) 0 (.int .u64 (Go.bits .xor .u64 (I0 0) (k 0)))) 4 (.int .u64 (Go.bits .xor .u64 (I1 0) (half (k 0)))))⟩, ⟨kb, 61, 4, (fun i => .int .u64 (k i))⟩] W5 := M5
  have F5 := Fr.comp F4 G5 (fun x hx => Or.inr (by simp at hx; subst hx; exact hg))
  clear F4 G5
  clear h4 d4 M4
  refine regM_seq (N := 50) (T := TT) (n := 2) (E2 := [(1, .p 1 0), (3, .p 0 0), (9, .v (.int .i64 1))]) tabOk h5 M5 rfl (by kernel_rfl) ⟨by kernel_rfl, by kernel_rfl, by kernel_rfl, trivial⟩ (fun a6 h6 d6 => ?_)
  replace d6 := d6.trans d5
  clear h5 d5
  show Code.rounds _ _ _ _ _ _
  rw [rounds_succ]
  refine wp_seq ?_
  refine regM_seq (N := 50) (T := TT) (n := 1) (E2 := [(1, .p 1 0), (3, .p 0 0), (9, .v (.int .i64 1)), (10, .v (.bool true))]) tabOk h6 M5 rfl (by kernel_rfl) ⟨by kernel_rfl, by kernel_rfl, by kernel_rfl, by kernel_rfl, trivial⟩ (fun a7 h7 d7 => ?_)
  show Code.wp _ _ _ _ _
  replace d7 := d7.trans d6
  clear h6 d6
  refine wp_seq ?_
  refine wp_cond_true (h7.2 10 _ rfl) ?_
  refine wp_skip ?_
  show Code.wp _ _ _ _ _
  refine wp_seq ?_
  refine wp_block ?_
  refine wp_seq ?_
  refine regM_seq (N := 50) (T := TT) (n := 2) (E2 := [(1, .p 1 0), (3, .p 0 0), (4, .v (.int .i64 1)), (9, .v (.int .i64 1))]) tabOk h7 M5 rfl (by kernel_rfl) ⟨by kernel_rfl, by kernel_rfl, by kernel_rfl, by kernel_rfl, trivial⟩ (fun a8 h8 d8 => ?_)
  show Code.wp _ _ _ _ _
  replace d8 := d8.trans d7
  clear h7 d7
  refine wp_seq ?_
  refine regM_store (N := 50) (T := TT) (n := 15) (k := 0) (i := 1) (u := .int .u64 (Go.bits .xor .u64 (I0 1) (k 1))) (E2 := [(1, .p 1 0), (3, .p 0 0), (4, .v (.int .i64 1)), (9, .v (.int .i64 1))]) (by kernel_rfl) tabOk h8 M5 rfl (by kernel_rfl) (by kernel_rfl) rfl ⟨by kernel_rfl, by kernel_rfl, by kernel_rfl, by kernel_rfl, trivial⟩ (fun _ _ _ _ hd h => And.intro (hd.trans (And.left h)) (And.right h)) (fun a9 W9 h9 d9 M9 G9 => ?_)
  show Code.wp _ _ _ _ _
  replace d9 := d9.trans d8
  replace M9 : Mw (bg [⟨g, 65, 16, (stm k0n zz)⟩, ⟨kb, 61, 4, (fun i => .int .u64 (k i))⟩]) [⟨g, 65, 16, (upm (upm (upm (stm k0n zz) 0 (.int .u64 (Go.bits .xor .u64 (I0 0) (k 0)))) 4 (.int .u64 (Go.bits .xor .u64 (I1 0) (half (k 0))))) 1 (.int .u64 (Go.bits .xor .u64 (I0 1) (k 1))))⟩, ⟨kb, 61, 4, (fun i => .int .u64 (k i))⟩] W9 := M9
  have F9 := Fr.comp F5 G9 (fun x hx => Or.inr (by simp at hx; subst hx; exact hg))
  clear F5 G9
  clear h8 d8 M5
  refine regM_store (N := 50) (T := TT) (n := 21) (k := 0) (i := 5) (u := .int .u64 (Go.bits .xor .u64 (I1 1) (half (k 1)))) (E2 := [(1, .p 1 0), (3, .p 0 0), (9, .v (.int .i64 1))]) (by kernel_rfl) tabOk h9 M9 rfl (by kernel_rfl) (by kernel_rfl) rfl ⟨by kernel_rfl, by kernel_rfl, by kernel_rfl, trivial⟩ (fun _ _ _ _ hd h => And.intro (hd.trans (And.left h)) (And.right h)) (fun a10 W10 h10 d10 M10 G10 => ?_)
  show Code.wp _ _ _ _ _
  replace d10 := d10.trans d9
  replace M10 : Mw (bg [⟨g, 65, 16, (stm k0n zz)⟩, ⟨kb, 61, 4, (fun i => .int .u64 (k i))⟩]) [⟨g, 65, 16, (upm (upm (upm (upm (stm k0n zz) 0 (.int .u64 (Go.bits .xor .u64 (I0 0) (k 0)))) 4 (.int .u64 (Go.bits .xor .u64 (I1 0) (half (k 0))))) 1 (.int .u64 (Go.bits .xor .u64 (I0 1) (k 1)))) 5 (.int .u64 (Go.bits .xor .u64 (I1 1) (half (k 1)))))⟩, ⟨kb, 61, 4, (fun i => .int .u64 (k i))⟩] W10 := M10
  have F10 := Fr.comp F9 G10 (fun x hx => Or.inr (by simp at hx; subst hx; exact hg))
  clear F9 G10
  clear h9 d9 M9
  refine regM_seq (N := 50) (T := TT) (n := 2) (E2 := [(1, .p 1 0), (3, .p 0 0), (9, .v (.int .i64 2))]) tabOk h10 M10 rfl (by kernel_rfl) ⟨by kernel_rfl, by kernel_rfl, by kernel_rfl, trivial⟩ (fun a11 h11 d11 => ?_)
  replace d11 := d11.trans d10
  clear h10 d10
  show Code.rounds _ _ _ _ _ _
  rw [rounds_succ]
  refine wp_seq ?_
  refine regM_seq (N := 50) (T := TT) (n := 1) (E2 := [(1, .p 1 0), (3, .p 0 0), (9, .v (.int .i64 2)), (10, .v (.bool true))]) tabOk h11 M10 rfl (by kernel_rfl) ⟨by kernel_rfl, by kernel_rfl, by kernel_rfl, by kernel_rfl, trivial⟩ (fun a12 h12 d12 => ?_)
  show Code.wp _ _ _ _ _
  replace d12 := d12.trans d11
  clear h11 d11
  refine wp_seq ?_
  refine wp_cond_true (h12.2 10 _ rfl) ?_
  refine wp_skip ?_
  show Code.wp _ _ _ _ _
  refine wp_seq ?_
  refine wp_block ?_
  refine wp_seq ?_
  refine regM_seq (N := 50) (T := TT) (n := 2) (E2 := [(1, .p 1 0), (3, .p 0 0), (4, .v (.int .i64 2)), (9, .v (.int .i64 2))]) tabOk h12 M10 rfl (by kernel_rfl) ⟨by kernel_rfl, by kernel_rfl, by kernel_rfl, by kernel_rfl, trivial⟩ (fun a13 h13 d13 => ?_)
  show Code.wp _ _ _ _ _
  replace d13 := d13.trans d12
  clear h12 d12
  refine wp_seq ?_
  refine regM_store (N := 50) (T := TT) (n := 15) (k := 0) (i := 2) (u := .int .u64 (Go.bits .xor .u64 (I0 2) (k 2))) (E2 := [(1, .p 1 0), (3, .p 0 0), (4, .v (.int .i64 2)), (9, .v (.int .i64 2))]) (by kernel_rfl) tabOk h13 M10 rfl (by kernel_rfl) (by kernel_rfl) rfl ⟨by kernel_rfl, by kernel_rfl, by kernel_rfl, by kernel_rfl, trivial⟩ (fun _ _ _ _ hd h => And.intro (hd.trans (And.left h)) (And.right h)) (fun a14 W14 h14 d14 M14 G14 => ?_)
  show Code.wp _ _ _ _ _
  replace d14 := d14.trans d13
  replace M14 : Mw (bg [⟨g, 65, 16, (stm k0n zz)⟩, ⟨kb, 61, 4, (fun i => .int .u64 (k i))⟩]) [⟨g, 65, 16, (upm (upm (upm (upm (upm (stm k0n zz) 0 (.int .u64 (Go.bits .xor .u64 (I0 0) (k 0)))) 4 (.int .u64 (Go.bits .xor .u64 (I1 0) (half (k 0))))) 1 (.int .u64 (Go.bits .xor .u64 (I0 1) (k 1)))) 5 (.int .u64 (Go.bits .xor .u64 (I1 1) (half (k 1))))) 2 (.int .u64 (Go.bits .xor .u64 (I0 2) (k 2))))⟩, ⟨kb, 61, 4, (fun i => .int .u64 (k i))⟩] W14 := M14
  have F14 := Fr.comp F10 G14 (fun x hx => Or.inr (by simp at hx; subst hx; exact hg))
  clear F10 G14
  clear h13 d13 M10
  refine regM_store (N := 50) (T := TT) (n := 21) (k := 0) (i := 6) (u := .int .u64 (Go.bits .xor .u64 (I1 2) (half (k 2)))) (E2 := [(1, .p 1 0), (3, .p 0 0), (9, .v (.int .i64 2))]) (by kernel_rfl) tabOk h14 M14 rfl (by kernel_rfl) (by kernel_rfl) rfl ⟨by kernel_rfl, by kernel_rfl, by kernel_rfl, trivial⟩ (fun _ _ _ _ hd h => And.intro (hd.trans (And.left h)) (And.right h)) (fun a15 W15 h15 d15 M15 G15 => ?_)
  show Code.wp _ _ _ _ _
  replace d15 := d15.trans d14
  replace M15 : Mw (bg [⟨g, 65, 16, (stm k0n zz)⟩, ⟨kb, 61, 4, (fun i => .int .u64 (k i))⟩]) [⟨g, 65, 16, (upm (upm (upm (upm (upm (upm (stm k0n zz) 0 (.int .u64 (Go.bits .xor .u64 (I0 0) (k 0)))) 4 (.int .u64 (Go.bits .xor .u64 (I1 0) (half (k 0))))) 1 (.int .u64 (Go.bits .xor .u64 (I0 1) (k 1)))) 5 (.int .u64 (Go.bits .xor .u64 (I1 1) (half (k 1))))) 2 (.int .u64 (Go.bits .xor .u64 (I0 2) (k 2)))) 6 (.int .u64 (Go.bits .xor .u64 (I1 2) (half (k 2)))))⟩, ⟨kb, 61, 4, (fun i => .int .u64 (k i))⟩] W15 := M15
  have F15 := Fr.comp F14 G15 (fun x hx => Or.inr (by simp at hx; subst hx; exact hg))
  clear F14 G15
  clear h14 d14 M14
  refine regM_seq (N := 50) (T := TT) (n := 2) (E2 := [(1, .p 1 0), (3, .p 0 0), (9, .v (.int .i64 3))]) tabOk h15 M15 rfl (by kernel_rfl) ⟨by kernel_rfl, by kernel_rfl, by kernel_rfl, trivial⟩ (fun a16 h16 d16 => ?_)
  replace d16 := d16.trans d15
  clear h15 d15
  show Code.rounds _ _ _ _ _ _
  rw [rounds_succ]
  refine wp_seq ?_
  refine regM_seq (N := 50) (T := TT) (n := 1) (E2 := [(1, .p 1 0), (3, .p 0 0), (9, .v (.int .i64 3)), (10, .v (.bool true))]) tabOk h16 M15 rfl (by kernel_rfl) ⟨by kernel_rfl, by kernel_rfl, by kernel_rfl, by kernel_rfl, trivial⟩ (fun a17 h17 d17 => ?_)
  show Code.wp _ _ _ _ _
  replace d17 := d17.trans d16
  clear h16 d16
  refine wp_seq ?_
  refine wp_cond_true (h17.2 10 _ rfl) ?_
  refine wp_skip ?_
  show Code.wp _ _ _ _ _
  refine wp_seq ?_
  refine wp_block ?_
  refine wp_seq ?_
  refine regM_seq (N := 50) (T := TT) (n := 2) (E2 := [(1, .p 1 0), (3, .p 0 0), (4, .v (.int .i64 3)), (9, .v (.int .i64 3))]) tabOk h17 M15 rfl (by kernel_rfl) ⟨by kernel_rfl, by kernel_rfl, by kernel_rfl, by kernel_rfl, trivial⟩ (fun a18 h18 d18 => ?_)
  show Code.wp _ _ _ _ _
  replace d18 := d18.trans d17
  clear h17 d17
  refine wp_seq ?_
  refine regM_store (N := 50) (T := TT) (n := 15) (k := 0) (i := 3) (u := .int .u64 (Go.bits .xor .u64 (I0 3) (k 3))) (E2 := [(1, .p 1 0), (3, .p 0 0), (4, .v (.int .i64 3)), (9, .v (.int .i64 3))]) (by kernel_rfl) tabOk h18 M15 rfl (by kernel_rfl) (by kernel_rfl) rfl ⟨by kernel_rfl, by kernel_rfl, by kernel_rfl, by kernel_rfl, trivial⟩ (fun _ _ _ _ hd h => And.intro (hd.trans (And.left h)) (And.right h)) (fun a19 W19 h19 d19 M19 G19 => ?_)
  show Code.wp _ _ _ _ _
  replace d19 := d19.trans d18
  replace M19 : Mw (bg [⟨g, 65, 16, (stm k0n zz)⟩, ⟨kb, 61, 4, (fun i => .int .u64 (k i))⟩]) [⟨g, 65, 16, (upm (upm (upm (upm (upm (upm (upm (stm k0n zz) 0 (.int .u64 (Go.bits .xor .u64 (I0 0) (k 0)))) 4 (.int .u64 (Go.bits .xor .u64 (I1 0) (half (k 0))))) 1 (.int .u64 (Go.bits .xor .u64 (I0 1) (k 1)))) 5 (.int .u64 (Go.bits .xor .u64 (I1 1) (half (k 1))))) 2 (.int .u64 (Go.bits .xor .u64 (I0 2) (k 2)))) 6 (.int .u64 (Go.bits .xor .u64 (I1 2) (half (k 2))))) 3 (.int .u64 (Go.bits .xor .u64 (I0 3) (k 3))))⟩, ⟨kb, 61, 4, (fun i => .int .u64 (k i))⟩] W19 := M19
  have F19 := Fr.comp F15 G19 (fun x hx => Or.inr (by simp at hx; subst hx; exact hg))
  clear F15 G19
  clear h18 d18 M15
  refine regM_store (N := 50) (T := TT) (n := 21) (k := 0) (i := 7) (u := .int .u64 (Go.bits .xor .u64 (I1 3) (half (k 3)))) (E2 := [(1, .p 1 0), (3, .p 0 0), (9, .v (.int .i64 3))]) (by kernel_rfl) tabOk h19 M19 rfl (by kernel_rfl) (by kernel_rfl) rfl ⟨by kernel_rfl, by kernel_rfl, by kernel_rfl, trivial⟩ (fun _ _ _ _ hd h => And.intro (hd.trans (And.left h)) (And.right h)) (fun a20 W20 h20 d20 M20 G20 => ?_)
  show Code.wp _ _ _ _ _
  replace d20 := d20.trans d19
  replace M20 : Mw (bg [⟨g, 65, 16, (stm k0n zz)⟩, ⟨kb, 61, 4, (fun i => .int .u64 (k i))⟩]) [⟨g, 65, 16, (upm (upm (upm (upm (upm (upm (upm (upm (stm k0n zz) 0 (.int .u64 (Go.bits .xor .u64 (I0 0) (k 0)))) 4 (.int .u64 (Go.bits .xor .u64 (I1 0) (half (k 0))))) 1 (.int .u64 (Go.bits .xor .u64 (I0 1) (k 1)))) 5 (.int .u64 (Go.bits .xor .u64 (I1 1) (half (k 1))))) 2 (.int .u64 (Go.bits .xor .u64 (I0 2) (k 2)))) 6 (.int .u64 (Go.bits .xor .u64 (I1 2) (half (k 2))))) 3 (.int .u64 (Go.bits .xor .u64 (I0 3) (k 3)))) 7 (.int .u64 (Go.bits .xor .u64 (I1 3) (half (k 3)))))⟩, ⟨kb, 61, 4, (fun i => .int .u64 (k i))⟩] W20 := M20
  have F20 := Fr.comp F19 G20 (fun x hx => Or.inr (by simp at hx; subst hx; exact hg))
  clear F19 G20
  clear h19 d19 M19
  refine regM_seq (N := 50) (T := TT) (n := 2) (E2 := [(1, .p 1 0), (3, .p 0 0), (9, .v (.int .i64 4))]) tabOk h20 M20 rfl (by kernel_rfl) ⟨by kernel_rfl, by kernel_rfl, by kernel_rfl, trivial⟩ (fun a21 h21 d21 => ?_)
  replace d21 := d21.trans d20
  clear h20 d20
  show Code.rounds _ _ _ _ _ _
  rw [rounds_succ]
  refine wp_seq ?_
  refine regM_seq (N := 50) (T := TT) (n := 1) (E2 := [(1, .p 1 0), (3, .p 0 0), (9, .v (.int .i64 4)), (10, .v (.bool false))]) tabOk h21 M20 rfl (by kernel_rfl) ⟨by kernel_rfl, by kernel_rfl, by kernel_rfl, by kernel_rfl, trivial⟩ (fun a22 h22 d22 => ?_)
  show Code.wp _ _ _ _ _
  replace d22 := d22.trans d21
  clear h21 d21
  refine wp_seq ?_
  refine wp_cond_false (h22.2 10 _ rfl) ?_
  refine wp_exit ?_
  refine then_exit (then_exit (exit_in ?_))
  show Code.wp _ _ _ _ _
  refine wp_seq ?_
  refine regM_seq (N := 50) (T := TT) (n := 2) (E2 := [(1, .p 1 0), (2, .p 0 0)]) tabOk h22 M20 rfl (by kernel_rfl) ⟨by kernel_rfl, by kernel_rfl, trivial⟩ (fun a23 h23 d23 => ?_)
  show Code.wp _ _ _ _ _
  replace d23 := d23.trans d22
  clear h22 d22
  refine wp_ret ?_
  refine ⟨d23, _, results_tmp rfl _ _ _, g, congrArg Ending.returned (h23.2 2 _ rfl), hg, (M20.2.get (k := 0) rfl).eq (fun i hi => ?_), F20⟩
  have hi' : i < 16 := hi
  rcases (by omega : i = 0 ∨ i = 1 ∨ i = 2 ∨ i = 3 ∨ i = 4 ∨ i = 5 ∨ i = 6 ∨ i = 7 ∨ i = 8 ∨ i = 9 ∨ i = 10 ∨ i = 11 ∨ i = 12 ∨ i = 13 ∨ i = 14 ∨ i = 15) with rfl | rfl | rfl | rfl | rfl | rfl | rfl | rfl | rfl | rfl | rfl | rfl | rfl | rfl | rfl | rfl
  all_goals rfl
set_option maxHeartbeats 8000000 in
set_option maxRecDepth 100000 in
theorem new_walk (k : Nat → Int) (w : World) :
    Calls Tryd.prog 19 #[.agg #[.int .u64 (k 0), .int .u64 (k 1), .int .u64 (k 2), .int .u64 (k 3)]] w fun e w' => ∃ g, e = .returned (.pointer (some ⟨g, 0, none⟩)) ∧ w.heap.size ≤ g ∧ (⟨g, 65, 16, stm (newH k) zz⟩ : Bl).In w' ∧ Fr [] w w' := by
  refine calls_of_wp Tryd.func19 rfl ?_
  have hA := has_one (β := fun _ => 0) (.v (.agg #[.int .u64 (k 0), .int .u64 (k 1), .int .u64 (k 2), .int .u64 (k 3)])) 49
  refine wp_seq ?_
  refine wp_region ?_
  refine box_ops (N := 50) (i := 0) (d := 1) (l := [1]) rfl rfl rfl (by decide) hA rfl (hA.2 0 _ rfl) (fun a1 h1 d1 => ?_)
  have F1 := (Fr.refl [] w).alloc (.cells #[.int .u64 (k 0), .int .u64 (k 1), .int .u64 (k 2), .int .u64 (k 3)] 61)
  have K1 : (⟨w.heap.size, 61, 4, fun i => .int .u64 (k i)⟩ : Bl).In (w.alloc (.cells #[.int .u64 (k 0), .int .u64 (k 1), .int .u64 (k 2), .int .u64 (k 3)] 61)) := by
    refine ⟨_, (MapKept.heap_alloc w _).1, rfl, fun i hi => ?_⟩
    have hi' : i < 4 := hi
    rcases (by omega : i = 0 ∨ i = 1 ∨ i = 2 ∨ i = 3) with rfl | rfl | rfl | rfl
    all_goals rfl
  have l1 : w.heap.size < (w.alloc (.cells #[.int .u64 (k 0), .int .u64 (k 1), .int .u64 (k 2), .int .u64 (k 3)] 61)).heap.size := K1.lt
  generalize w.alloc (.cells #[.int .u64 (k 0), .int .u64 (k 1), .int .u64 (k 2), .int .u64 (k 3)] 61) = W1 at F1 K1 l1 ⊢
  refine given_ops (N := 50) (i := 1) (d := 2) (v := .pointer none) (l := []) rfl rfl rfl (by decide) h1 (op_assign rfl rfl) (fun a2 h2 d2 => ?_)
  show Code.wp _ _ _ _ _
  refine wp_seq ?_
  refine wp_region ?_
  refine build_ops (N := 50) (i := 0) (d := 5) (cs := #[.int .u64 15845587454020865583, .int .u64 11820040416388919760, .int .u64 1376283091369227076, .int .u64 2611923443488327891]) (l := [1, 2, 3, 4]) h2 (by kernel_rfl) (fun a3 h3 d3 => ?_)
  refine build_ops (N := 50) (i := 1) (d := 6) (cs := #[.int .u64 4310963063287117203, .int .u64 13883737187602762380, .int .u64 13714699805381954668, .int .u64 4983270260364809079]) (l := [2, 3, 4]) h3 (by kernel_rfl) (fun a4 h4 d4 => ?_)
  refine build_ops (N := 50) (i := 2) (d := 7) (cs := #[.int .u64 0, .int .u64 0, .int .u64 0, .int .u64 0, .int .u64 0, .int .u64 0, .int .u64 0, .int .u64 0, .int .u64 15845587454020865583, .int .u64 11820040416388919760, .int .u64 1376283091369227076, .int .u64 2611923443488327891, .int .u64 4310963063287117203, .int .u64 13883737187602762380, .int .u64 13714699805381954668, .int .u64 4983270260364809079]) (l := [3, 4]) h4 (by kernel_rfl) (fun a5 h5 d5 => ?_)
  refine box_ops (N := 50) (i := 3) (d := 8) (l := [4]) rfl rfl rfl (by decide) h5 rfl (h5.2 7 _ rfl) (fun a6 h6 d6 => ?_)
  have F2 := F1.alloc (.cells #[.int .u64 0, .int .u64 0, .int .u64 0, .int .u64 0, .int .u64 0, .int .u64 0, .int .u64 0, .int .u64 0, .int .u64 15845587454020865583, .int .u64 11820040416388919760, .int .u64 1376283091369227076, .int .u64 2611923443488327891, .int .u64 4310963063287117203, .int .u64 13883737187602762380, .int .u64 13714699805381954668, .int .u64 4983270260364809079] 65)
  have M0 : Mw (bg [⟨W1.heap.size, 65, 16, stm k0n zz⟩, ⟨w.heap.size, 61, 4, fun i => .int .u64 (k i)⟩]) [⟨W1.heap.size, 65, 16, stm k0n zz⟩, ⟨w.heap.size, 61, 4, fun i => .int .u64 (k i)⟩] (W1.alloc (.cells #[.int .u64 0, .int .u64 0, .int .u64 0, .int .u64 0, .int .u64 0, .int .u64 0, .int .u64 0, .int .u64 0, .int .u64 15845587454020865583, .int .u64 11820040416388919760, .int .u64 1376283091369227076, .int .u64 2611923443488327891, .int .u64 4310963063287117203, .int .u64 13883737187602762380, .int .u64 13714699805381954668, .int .u64 4983270260364809079] 65)) := by
    refine ⟨rfl, ⟨_, (MapKept.heap_alloc W1 _).1, rfl, fun i hi => ?_⟩, ?_, K1.on ((Fr.refl [] W1).alloc _) (by simp), by simp, trivial⟩
    · have hi' : i < 16 := hi
      rcases (by omega : i = 0 ∨ i = 1 ∨ i = 2 ∨ i = 3 ∨ i = 4 ∨ i = 5 ∨ i = 6 ∨ i = 7 ∨ i = 8 ∨ i = 9 ∨ i = 10 ∨ i = 11 ∨ i = 12 ∨ i = 13 ∨ i = 14 ∨ i = 15) with rfl | rfl | rfl | rfl | rfl | rfl | rfl | rfl | rfl | rfl | rfl | rfl | rfl | rfl | rfl | rfl
      all_goals rfl
    · intro c hc
      simp only [List.mem_cons, List.not_mem_nil, or_false] at hc
      subst hc
      show w.heap.size ≠ W1.heap.size
      omega
  generalize W1.alloc (.cells #[.int .u64 0, .int .u64 0, .int .u64 0, .int .u64 0, .int .u64 0, .int .u64 0, .int .u64 0, .int .u64 0, .int .u64 15845587454020865583, .int .u64 11820040416388919760, .int .u64 1376283091369227076, .int .u64 2611923443488327891, .int .u64 4310963063287117203, .int .u64 13883737187602762380, .int .u64 13714699805381954668, .int .u64 4983270260364809079] 65) = W2 at F2 M0 ⊢
  refine given_ops (N := 50) (i := 4) (d := 3) (v := .pointer (some ⟨W1.heap.size, 0, none⟩)) (l := []) rfl rfl rfl (by decide) h6 (op_assign rfl (h6.2 8 _ rfl)) (fun a7 h7 d7 => ?_)
  show Code.wp _ _ _ _ _
  exact nh_rest W1.heap.size w.heap.size k w W2 a7 (by omega) _ M0 F2 (has_list h7.1 ⟨h7.2 1 _ rfl, h7.2 3 _ rfl, trivial⟩) (d7.trans (d6.trans (d5.trans (d4.trans (d3.trans (d2.trans d1))))))
end Go.Proofs.YtnehminojlocoaaDoor.PAll
namespace Go.Proofs.YtnehminojlocoaaDoor.PAll
open Go.RowKit Go.Proofs.YtnehminojlocoaaDoorW.PrintWords Go.Proofs.YtnehminojlocoaaDoorW.PrintLast Go.Proofs.YtnehminojlocoaaDoorW.PrintMore
set_option linter.unusedVariables false
set_option linter.unusedSimpArgs false
section
variable {P : Program} {ops : Array Oper} {Q : Exit → Act → World → Prop} {S : World → Prop} {ds : List Nat} {N : Nat} {β : Nat → Nat} {M : Nat → Nat → Option Value} {T : TypeId → Option Ty}
/-- A store that keeps S. -/
theorem segK {n k i fuel : Nat} {u : Value} {L : Array Bool} {E : List (Nat × SV)} {a : Act} {w : World} (hT : TabOk P T) (hA : Has N β E a)
    (hB : (readyB .any ops L (L.setIfInBounds n true) n && !(ds.contains n)) = true) (hst : stV T ops n (some E) = some (k, i, u)) (hc : ∃ v, w.cell? ⟨β k, i, none⟩ = some v) (hf : w.frozen? ⟨β k, i, none⟩ = false)
    (hS : S (w.setCell ⟨β k, i, none⟩ u)) (h : wpAnyLast P .any ops Q S ds fuel (L.setIfInBounds n true) a (w.setCell ⟨β k, i, none⟩ u)) : wpAnyLast P .any ops Q S ds (fuel + 1) L a w := by
  simp only [Bool.and_eq_true, Bool.not_eq_true', List.contains_eq_mem, decide_eq_false_iff_not] at hB
  obtain ⟨hB2, hB6⟩ := hB
  obtain ⟨E', o, he, ho, hg, hd, hrun⟩ := stV_ok (P := P) (β := β) (N := N) hst
  obtain rfl := Option.some.inj he
  refine one_ (i := n) (N := none) _ ho hd hB2 hB6 (fun K hK => ?_)
  exact skip_ (want_ hg) hd (hrun a w hT hA hc hf) (hK.out _ _ hS (fun _ => h))
/-- The last step: a store. -/
theorem lastS {n k i fuel : Nat} {u : Value} {L : Array Bool} {E : List (Nat × SV)} {a : Act} {w : World} (hT : TabOk P T) (hA : Has N β E a)
    (hB : (readyB .any ops L (L.setIfInBounds n true) n && (ds.contains n && (Region.ready .any ops (L.setIfInBounds n true) == []))) = true) (hst : stV T ops n (some E) = some (k, i, u)) (hc : ∃ v, w.cell? ⟨β k, i, none⟩ = some v) (hf : w.frozen? ⟨β k, i, none⟩ = false)
    (h : Q .normal a (w.setCell ⟨β k, i, none⟩ u)) : wpAnyLast P .any ops Q S ds (fuel + 1) L a w := by
  simp only [Bool.and_eq_true, List.contains_eq_mem, decide_eq_true_eq] at hB
  obtain ⟨hB2, hB6, hB4⟩ := hB
  obtain ⟨E', o, he, ho, hg, hd, hrun⟩ := stV_ok (P := P) (β := β) (N := N) hst
  obtain rfl := Option.some.inj he
  refine last_ (i := n) (N := none) _ ho hd hB2 hB6 (fun K hK => ?_)
  exact skip_ (want_ hg) hd (hrun a w hT hA hc hf) (hK.out _ _ (done_ hB4 h))
/-- An element's place in a slice. -/
theorem op_indexSl {o : Oper} {ρ : Operand → Value} {W : World} {t e : TypeId} {x ix : Operand} {b i n c j : Nat} (ho : o.op = .indexAddr t x ix) (hx : ρ x = .slice (some ⟨b, i, none⟩) n c) (hi : ρ ix = .int .i64 (j : Int)) (ht : P.underlying t = some (.slice e)) (hs : ∀ w, (Go.sizeOf e).run P w = .ok 1 w) (hj : j < n) :
    (execOp ρ o).run P W = .ok (.value (.pointer (some ⟨b, i + j, none⟩))) W := by
  unfold execOp
  rw [ho]
  simp [go_sem, Instr.indexAt, hx, hi, und ht, hs, hj, Addr.add]
theorem op_andNot {o : Oper} {ρ : Operand → Value} {W : World} {t t2 : TypeId} {x y : Operand} {n : Nat} (ho : o.op = .binOp .andNot t x y t2) (hx : ρ x = .int .i64 (n : Int)) (hy : ρ y = .int .i64 3) (hn : n < 32) :
    (execOp ρ o).run P W = .ok (.value (.int .i64 ((n / 4 * 4 : Nat) : Int))) W := by
  refine op_bin ho hx hy (fun w => ?_)
  have h : ∀ n : Nat, n < 32 → Go.bits .andNot .i64 (n : Int) 3 = ((n / 4 * 4 : Nat) : Int) := by decide +kernel
  rw [← h n hn]
  simp [go_sem, binOp, Op.intBits, Go.bits]
/-- A new slice. -/
theorem op_make {o : Oper} {ρ : Operand → Value} {W : World} {t e : TypeId} {x y : Operand} {n : Nat} {i : TypeInfo} {z : Value} (ho : o.op = .makeSlice t x y) (hx : ρ x = .int .i64 (n : Int)) (hy : ρ y = .int .i64 (n : Int)) (ht : P.underlying t = some (.slice e)) (hi : P.info? e = some i) (hz : i.zero = some z) (hb : (i.bytes : Int) * (n : Int) ≤ 281474976710656) (h63 : (n : Int) ≤ 9223372036854775807) :
    (execOp ρ o).run P W = .ok (.value (.slice (some ⟨W.heap.size, 0, none⟩) n n)) (W.alloc (.cells (madeCells z.cells (n * i.size)) e)) := by
  have hr := run_make (P := P) (w := W) t e i z ht hi hz .i64 .i64 (n : Int) (n : Int) (by omega) (Int.le_refl _) hb h63
  rw [Int.toNat_natCast] at hr
  unfold execOp
  rw [ho]
  simp only [hx, hy, Sem.run_bind, hr, Result.andThen_ok]
  rfl
end
section
variable {P : Program} {ops : Array Oper} {Q : Exit → Act → World → Prop} {N : Nat} {β : Nat → Nat}
/-- An operation that makes something new, its value shown by hand. -/
theorem new_ops {i d : Nat} {o : Oper} {v : Value} {l : List Nat} {a : Act} {w w1 : World} {E : List (Nat × SV)} (ho : ops[i]? = some o) (hg : o.guard = none) (hd : o.dst = some d) (hN : d < N) (hA : Has N β E a) (hrun : (execOp a.eval o).run P w = .ok (.value v) w1)
    (h : ∀ a', Has N β ((d, .v v) :: E) a' → a'.defers = a.defers → wpOps P ops Q l a' w1) : wpOps P ops Q (i :: l) a w := by
  unfold wpOps
  simp only [ho]
  rw [if_pos (want_ hg)]
  refine Or.inl ?_
  unfold Oper.wp
  rw [hrun, Oper.upon_value, hd]
  exact h _ (hA.put d hN (.v v)) rfl
theorem givenS_ops {i d : Nat} {o : Oper} {s : SV} {l : List Nat} {a : Act} {w : World} {E : List (Nat × SV)} (ho : ops[i]? = some o) (hg : o.guard = none) (hd : o.dst = some d) (hN : d < N) (hA : Has N β E a) (hrun : (execOp a.eval o).run P w = .ok (.value (s.den β)) w)
    (h : ∀ a', Has N β ((d, s) :: E) a' → a'.defers = a.defers → wpOps P ops Q l a' w) : wpOps P ops Q (i :: l) a w := by
  unfold wpOps
  simp only [ho]
  rw [if_pos (want_ hg)]
  refine Or.inl ?_
  unfold Oper.wp
  rw [hrun, Oper.upon_value, hd]
  exact h _ (hA.put d hN s) rfl
end
/-- A number of 32 bits, turned. -/
def tv (a n : Int) : Int := Go.bits .or .u32 (shl .u32 a n) (shr .u32 a (wrap64 (32 - n)))
theorem tv_walk (a : Int) (n : Nat) (hn : n < 32) (w : World) : Calls Tryd.prog 37 #[.int .u32 a, .int .i64 (n : Int)] w fun e w' => e = .returned (.int .u32 (tv a n)) ∧ Below w.heap.size w w' := by
  have h : spec_turned.f a n = some (tv a n) := by
    unfold spec_turned.f
    rw [if_pos (by omega), if_pos (by unfold wrap64; omega)]
    rfl
  exact (spec_turned.calls a n _ w h).mono fun e w' hh => ⟨hh.1, hh.2.below⟩
end Go.Proofs.YtnehminojlocoaaDoor.PAll
namespace Go.Proofs.YtnehminojlocoaaDoor.PAll
open Go.RowKit Go.Proofs.YtnehminojlocoaaDoorW.PrintWords Go.Proofs.YtnehminojlocoaaDoorW.PrintLast Go.Proofs.YtnehminojlocoaaDoorW.PrintMore
set_option linter.unusedVariables false
set_option linter.unusedSimpArgs false
noncomputable def rem7 : Code := match Tryd.f22.body with
  | some (.seq _ (.seq _ c)) => c
  | _ => .skip
noncomputable def rem10 : Code := match Tryd.f22.body with
  | some (.seq _ (.seq _ (.seq _ (.seq _ (.seq _ c))))) => c
  | _ => .skip
noncomputable def rem14 : Code := match Tryd.f22.body with
  | some (.seq _ (.seq _ (.seq _ (.seq _ (.seq _ (.seq _ c)))))) => c
  | _ => .skip
def rA (n : Nat) : Int := IntKind.u64.wrap (IntKind.u64.wrap (IntKind.u64.wrap (n : Int) * 4294967296) + IntKind.u64.wrap (n : Int))
def rB (v : Int) (n : Nat) : Int := Go.bits .or .u64 (IntKind.u64.wrap (IntKind.u64.wrap (tv (IntKind.u32.wrap (v / 4294967296)) n) * 4294967296)) (IntKind.u64.wrap (tv (IntKind.u32.wrap v) n))
/-- A state ahead of the rest of a text. -/
def trR (s : Nat → Int) (n : Nat) (i : Nat) : Int := if i < 4 then IntKind.u64.wrap (s i + rA n) else if i < 8 then rB (s i) n else s i
/-- The rest of a text, laid into 32 octets. -/
def rall (n : Nat) (x : Nat → Int) (i : Nat) : Int :=
  if 16 ≤ n then (if 28 ≤ i then x (n - 4 + (i - 28)) else if i < n / 4 * 4 then x i else 0)
  else if n % 4 = 0 then (if i < n / 4 * 4 then x i else 0)
  else if i = 16 then x (n / 4 * 4) else if i = 17 then x (n / 4 * 4 + n % 4 / 2) else if i = 18 then x (n / 4 * 4 + (n % 4 - 1)) else if i < n / 4 * 4 then x i else 0
/-- A state takes in the rest of a text. -/
def remS (s : Nat → Int) (n : Nat) (x : Nat → Int) : Nat → Int := US (trR s n) (lan (rall n x))
theorem rall_oct (n : Nat) (x : Nat → Int) (hn : n < 32) (ho : Oct n x) : Oct 32 (rall n x) := fun i hi => by
  unfold rall
  repeat' split
  all_goals first
    | exact ho _ (by omega)
    | exact ⟨by decide, by decide⟩
/-- A new slice of literal size. -/
theorem op_mk {P : Program} {o : Oper} {ρ : Operand → Value} {W : World} {t e : TypeId} {x y : Operand} {n bt : Nat} {cs : Array Value} (ho : o.op = .makeSlice t x y) (hx : ρ x = .int .i64 (n : Int)) (hy : ρ y = .int .i64 (n : Int)) (ht : P.underlying t = some (.slice e))
    (hm : ((P.info? e).bind fun i => i.zero.map fun z => (madeCells z.cells (n * i.size), i.bytes)) = some (cs, bt)) (hb : bt * n ≤ 281474976710656) (h63 : (n : Int) ≤ 9223372036854775807) :
    (execOp ρ o).run P W = .ok (.value (.slice (some ⟨W.heap.size, 0, none⟩) n n)) (W.alloc (.cells cs e)) := by
  obtain ⟨i, hi, h2⟩ := Option.bind_eq_some_iff.1 hm
  obtain ⟨z, hz, h3⟩ := Option.map_eq_some_iff.1 h2
  simp only [Prod.mk.injEq] at h3
  obtain ⟨rfl, rfl⟩ := h3
  exact op_make ho hx hy ht hi hz (by rw [← Int.natCast_mul]; omega) h63
set_option maxHeartbeats 8000000 in
set_option maxRecDepth 100000 in
theorem rem_end (g T ab : Nat) (s y : Nat → Int) (m : Nat → Value) (w W0 : World) (a0 : Act) (ho : Oct 32 y) (mm : Nat → Value) (hmm : ∀ i, i < 32 → mm i = .int .u8 (y i)) (β : Nat → Nat) (M0 : Mw β [⟨g, T, 16, stm s m⟩, ⟨ab, 5, 32, mm⟩] W0) (F0 : Fr [g] w W0) (h0 : Has 107 β [(0, .p 0 0), (6, .s 1 0 32 32)] a0) (d0 : a0.defers = []) :
    Code.wp Tryd.prog rem14 (bodyPost Tryd.prog Tryd.f22 fun e w' => e = .returned (.tuple #[]) ∧ (⟨g, T, 16, stm (US s (lan y)) m⟩ : Bl).In w' ∧ Fr [g] w w') a0 W0 := by
  obtain ⟨rfl, _⟩ := id M0
  refine wp_region ?_
  refine ops_ (N := 107) (M := fun _ _ => none) (T := TT) (E' := [(105, .s 1 0 32 32), (104, .p 0 0), (0, .p 0 0), (6, .s 1 0 32 32)]) tabOk noMem [2] [0, 1] (by kernel_rfl) h0 (fun a1 h1 d1 => ?_)
  have key := packet_walk g T s m ab 0 32 32 y W0 (M0.2.get (k := 0) rfl) (by decide) (by decide) (by decide) (fun i hi => by
    rw [Nat.zero_add]
    exact ((M0.2.get (k := 1) rfl).cell i hi).trans (congrArg some (hmm i hi))) ho
  refine call_ops (N := 107) (i := 2) (d := 106) (f := 21) (args := [.p 0 0, .s 1 0 32 32]) (l := []) rfl rfl rfl (by decide) h1 Tryd.func21 rfl rfl rfl (by kernel_rfl) (fun v W' => (⟨g, T, 16, stm (US s (lan y)) m⟩ : Bl).In W' ∧ Fr [g] W0 W') (key.mono fun e W' hh => ⟨_, hh.1, hh.2⟩) (fun v W1 a2 hR h2 d2 => ?_)
  exact ⟨d2.trans (d1.trans d0), _, results_none rfl _ _ _, rfl, hR.1, F0.trans hR.2⟩
set_option maxHeartbeats 8000000 in
set_option maxRecDepth 100000 in
theorem rem_sw (g T ab b o n c : Nat) (A : Option Addr) (s x : Nat → Int) (m : Nat → Value) (w W0 : World) (a0 : Act) (hn : n < 32) (hc : n ≤ c) (hbab : b ≠ ab) (hab : w.heap.size ≤ ab) (hA : n / 4 * 4 < c → A = some ⟨b, o + n / 4 * 4, none⟩) (ho : Oct n x) (BT : Bts b o n x W0) (β : Nat → Nat)
    (M0 : Mw β [⟨g, T, 16, stm s m⟩, ⟨ab, 5, 32, (cpB (fun _ => .int .u8 0) 0 (n / 4 * 4) (fun j => .int .u8 (x j)))⟩] W0) (F0 : Fr [g] w W0) (h0 : Has 107 β [(0, .p 0 0), (1, .v (.slice (some ⟨b, o, none⟩) n c)), (4, .v (.int .i64 (n : Int))), (6, .s 1 0 32 32), (7, .v (.slice A (n - n / 4 * 4) (c - n / 4 * 4)))] a0) (d0 : a0.defers = []) :
    Code.wp Tryd.prog rem10 (bodyPost Tryd.prog Tryd.f22 fun e w' => e = .returned (.tuple #[]) ∧ (⟨g, T, 16, stm (US s (lan (rall n x))) m⟩ : Bl).In w' ∧ Fr [g] w w') a0 W0 := by
  obtain ⟨rfl, _⟩ := id M0
  refine wp_seq ?_
  refine wp_block ?_
  refine wp_seq ?_
  refine regM_seq (N := 107) (T := TT) (n := 3) (E2 := [(0, .p 0 0), (1, .v (.slice (some ⟨b, o, none⟩) n c)), (4, .v (.int .i64 (n : Int))), (6, .s 1 0 32 32), (7, .v (.slice A (n - n / 4 * 4) (c - n / 4 * 4))), (69, .v (.bool (decide ((n : Int) ≥ 16))))]) tabOk h0 M0 rfl (by kernel_rfl) ⟨by kernel_rfl, by kernel_rfl, by kernel_rfl, by kernel_rfl, by kernel_rfl, by kernel_rfl, trivial⟩ (fun a1 h1 d1 => ?_)
  show Code.wp _ _ _ _ _
  replace d1 := d1.trans d0
  clear h0 d0
  by_cases h16 : 16 ≤ n
  · refine wp_cond_true ((h1.2 69 _ rfl).trans (congrArg Value.bool (decide_eq_true (by omega)))) ?_
    have C2 := fun ty => copy_in (P := Tryd.prog) (W := W0.drew) (M0.2.get (k := 1) rfl) 28 4 4 b (o + (n - 4)) (n - (n - 4)) (c - (n - 4)) 4 (fun j => .int .u8 (x (n - 4 + j))) (by rw [show n - (n - 4) = 4 by omega]; rfl) (by show 28 + 4 ≤ 32; decide) (fun j hj => by
        rw [Nat.add_assoc]
        exact BT (n - 4 + j) (by omega)) (fun j hj => rfl) 22 22 ty 5 Tryd.underlying22 (by kernel_rfl)
    refine regM_scopy (N := 107) (T := TT) (l1 := [0, 1, 2, 3, 4]) (js := 5) (j := 6) (d := 78) (d0 := 77) (t0 := 22) (t1 := 22) (t2 := 22) (sx0 := .v (.slice (some ⟨b, o, none⟩) n c)) (sl := some (.v (.int .i64 (IntKind.i64.wrap ((n : Int) - 4))))) (sh := none) (s0 := (.v (.slice (some ⟨b, o + (n - 4), none⟩) (n - (n - 4)) (c - (n - 4))))) (sx := .s 1 28 4 4) (sy := (.v (.slice (some ⟨b, o + (n - 4), none⟩) (n - (n - 4)) (c - (n - 4))))) (v := goInt ((4 : Nat) : Int)) (E2 := [(0, .p 0 0), (1, .v (.slice (some ⟨b, o, none⟩) n c)), (4, .v (.int .i64 (n : Int))), (6, .s 1 0 32 32), (7, .v (.slice A (n - n / 4 * 4) (c - n / 4 * 4)))]) (by kernel_rfl) tabOk h1 M0 rfl (by kernel_rfl) (by kernel_rfl) (fun W => by
        show (Instr.sliceAt _ _ (some (.int .i64 (IntKind.i64.wrap ((n : Int) - 4)))) none none).run _ _ = _
        rw [show IntKind.i64.wrap ((n : Int) - 4) = ((n - 4 : Nat) : Int) by rw [i64_w]; unfold wrap64; omega]
        exact sl_at W b o n c (n - 4) (by omega) hc (by omega)) (by kernel_rfl) (fun W' => Mw (bg [⟨g, T, 16, (stm s m)⟩, ⟨ab, 5, 32, (cpB (fun _ => .int .u8 0) 0 (n / 4 * 4) (fun j => .int .u8 (x j)))⟩]) [⟨g, T, 16, (stm s m)⟩, ⟨ab, 5, 32, (cpB (cpB (fun _ => .int .u8 0) 0 (n / 4 * 4) (fun j => .int .u8 (x j))) 28 4 (fun j => .int .u8 (x (n - 4 + j))))⟩] W' ∧ Fr [ab] W0 W')
      (fun ty => by
        obtain ⟨W', h1, h2, h3⟩ := C2 ty
        exact ⟨W', h1, (M0.drew.rep 1 rfl h3 h2 : Mw _ (bset _ 1 _) W'), h3⟩)
      ⟨by kernel_rfl, by kernel_rfl, by kernel_rfl, by kernel_rfl, by kernel_rfl, trivial⟩ rfl rfl (fun _ _ _ _ hd h => And.intro (hd.trans (And.left h)) (And.right h)) (fun a2 W2 h2 d2 hR => ?_)
    show Code.wp _ _ _ _ _
    obtain ⟨M2, G2⟩ := hR
    clear C2
    replace d2 := d2.trans d1
    replace M2 : Mw (bg [⟨g, T, 16, (stm s m)⟩, ⟨ab, 5, 32, (cpB (fun _ => .int .u8 0) 0 (n / 4 * 4) (fun j => .int .u8 (x j)))⟩]) [⟨g, T, 16, (stm s m)⟩, ⟨ab, 5, 32, (cpB (cpB (fun _ => .int .u8 0) 0 (n / 4 * 4) (fun j => .int .u8 (x j))) 28 4 (fun j => .int .u8 (x (n - 4 + j))))⟩] W2 := M2
    have F2 := Fr.comp F0 G2 (fun x hx => Or.inr (by simp at hx; subst hx; exact hab))
    clear F0 G2
    clear h1 d1 M0
    replace h2 := sub_ok (E := [(0, .p 0 0), (6, .s 1 0 32 32)]) h2 ⟨by kernel_rfl, by kernel_rfl, trivial⟩
    refine rem_end g T ab s (rall n x) m w _ _ (rall_oct n x hn ho) _ (fun i hi => ?_) _ M2 F2 h2 d2
    unfold rall cpB
    rw [if_pos h16]
    by_cases h1 : 28 ≤ i
    · rw [if_pos ⟨h1, by omega⟩, if_pos h1]
    · rw [if_neg (by omega), if_neg h1]
      by_cases h2 : i < n / 4 * 4
      · rw [if_pos (by omega), if_pos h2, Nat.sub_zero]
      · rw [if_neg (by omega), if_neg h2]
  · refine wp_cond_false ((h1.2 69 _ rfl).trans (congrArg Value.bool (decide_eq_false (by omega)))) ?_
    replace h1 := sub_ok (E := [(0, .p 0 0), (1, .v (.slice (some ⟨b, o, none⟩) n c)), (4, .v (.int .i64 (n : Int))), (6, .s 1 0 32 32), (7, .v (.slice A (n - n / 4 * 4) (c - n / 4 * 4)))]) h1 ⟨by kernel_rfl, by kernel_rfl, by kernel_rfl, by kernel_rfl, by kernel_rfl, trivial⟩
    refine wp_seq ?_
    refine regM_seq (N := 107) (T := TT) (n := 4) (E2 := [(0, .p 0 0), (1, .v (.slice (some ⟨b, o, none⟩) n c)), (4, .v (.int .i64 (n : Int))), (6, .s 1 0 32 32), (7, .v (.slice A (n - n / 4 * 4) (c - n / 4 * 4))), (79, .v (.bool (decide (Go.bits .and .i64 (n : Int) 3 > 0))))]) tabOk h1 M0 rfl (by kernel_rfl) ⟨by kernel_rfl, by kernel_rfl, by kernel_rfl, by kernel_rfl, by kernel_rfl, by kernel_rfl, trivial⟩ (fun a2 h2 d2 => ?_)
    show Code.wp _ _ _ _ _
    replace d2 := d2.trans d1
    clear h1 d1
    rw [and3 n hn] at h2
    by_cases h4 : n % 4 = 0
    · refine wp_cond_false ((h2.2 79 _ rfl).trans (congrArg Value.bool (decide_eq_false (by omega)))) ?_
      refine wp_skip ?_
      show Code.wp _ _ _ _ _
      replace h2 := sub_ok (E := [(0, .p 0 0), (6, .s 1 0 32 32)]) h2 ⟨by kernel_rfl, by kernel_rfl, trivial⟩
      refine rem_end g T ab s (rall n x) m w _ _ (rall_oct n x hn ho) _ (fun i hi => ?_) _ M0 F0 h2 d2
      unfold rall cpB
      rw [if_neg h16, if_pos h4]
      by_cases h2 : i < n / 4 * 4
      · rw [if_pos (by omega), if_pos h2, Nat.sub_zero]
      · rw [if_neg (by omega), if_neg h2]
    · refine wp_cond_true ((h2.2 79 _ rfl).trans (congrArg Value.bool (decide_eq_true (by omega)))) ?_
      obtain rfl := hA (by omega)
      have hS : Bts b o n x W0.drew := BT
      refine start_ (S := fun V => Bts b o n x V) (ds := [23]) (n := 24) _ (by kernel_rfl) rfl rfl hS (fun hS0 => ?_)
      clear hS
      refine segP (S := fun V => Bts b o n x V) (T := TT) (M := fun _ _ => none) (N := 107) tabOk (fun _ _ => noMem) (fun _ _ _ _ hd h => And.intro (hd.trans (And.left h)) (And.right h)) hS0 [0, 1, 2, 3, 6, 7, 8, 9, 12, 13, 14, 15] 12 [(0, .p 0 0), (1, .v (.slice (some ⟨b, o, none⟩) n c)), (4, .v (.int .i64 (n : Int))), (6, .s 1 0 32 32), (7, .v (.slice (some ⟨b, o + n / 4 * 4, none⟩) (n - n / 4 * 4) (c - n / 4 * 4))), (83, .s 1 0 32 32), (84, .s 1 0 32 32), (85, .s 1 0 32 32), (86, .v (.slice (some ⟨b, o + n / 4 * 4, none⟩) (n - n / 4 * 4) (c - n / 4 * 4))), (89, .v (.slice (some ⟨b, o + n / 4 * 4, none⟩) (n - n / 4 * 4) (c - n / 4 * 4))), (92, .v (.int .i64 ((Go.bits .and .i64 (n : Int) 3) / 2))), (95, .v (.slice (some ⟨b, o + n / 4 * 4, none⟩) (n - n / 4 * 4) (c - n / 4 * 4))), (98, .v (.int .i64 (IntKind.i64.wrap ((Go.bits .and .i64 (n : Int) 3) - 1))))] h2 (by kernel_rfl) (by kernel_rfl) ⟨by kernel_rfl, by kernel_rfl, by kernel_rfl, by kernel_rfl, by kernel_rfl, by kernel_rfl, by kernel_rfl, by kernel_rfl, by kernel_rfl, by kernel_rfl, by kernel_rfl, by kernel_rfl, by kernel_rfl, trivial⟩ (fun a3 h3 d3 => ?_)
      replace d3 := d3.trans d2
      clear h2 d2
      rw [and3 n hn, show IntKind.i64.wrap (((n % 4 : Nat) : Int) - 1) = ((n % 4 - 1 : Nat) : Int) by rw [i64_w]; unfold wrap64; omega, show ((n % 4 : Nat) : Int) / 2 = ((n % 4 / 2 : Nat) : Int) by omega] at h3
      refine segV (S := fun V => Bts b o n x V) (N := 107) (i := 4) (d := 87) (s := .v (.pointer (some ⟨b, o + n / 4 * 4 + (0), none⟩))) (fun _ _ _ _ hd h => And.intro (hd.trans (And.left h)) (And.right h)) hS0 h3 rfl rfl rfl (by decide) (by kernel_rfl) (fun V hV => op_indexSl (j := 0) rfl (h3.2 86 _ rfl) rfl Tryd.underlying22 Tryd.sizeOf5 (by omega)) (fun a4 h4 d4 => ?_)
      replace d4 := d4.trans d3
      clear h3 d3
      replace h4 := sub_ok (E := [(0, .p 0 0), (1, .v (.slice (some ⟨b, o, none⟩) n c)), (4, .v (.int .i64 (n : Int))), (6, .s 1 0 32 32), (7, .v (.slice (some ⟨b, o + n / 4 * 4, none⟩) (n - n / 4 * 4) (c - n / 4 * 4))), (83, .s 1 0 32 32), (84, .s 1 0 32 32), (85, .s 1 0 32 32), (86, .v (.slice (some ⟨b, o + n / 4 * 4, none⟩) (n - n / 4 * 4) (c - n / 4 * 4))), (87, .v (.pointer (some ⟨b, o + n / 4 * 4 + (0), none⟩))), (89, .v (.slice (some ⟨b, o + n / 4 * 4, none⟩) (n - n / 4 * 4) (c - n / 4 * 4))), (92, .v (.int .i64 ((n % 4 / 2 : Nat) : Int))), (95, .v (.slice (some ⟨b, o + n / 4 * 4, none⟩) (n - n / 4 * 4) (c - n / 4 * 4))), (98, .v (.int .i64 ((n % 4 - 1 : Nat) : Int)))]) h4 ⟨by kernel_rfl, by kernel_rfl, by kernel_rfl, by kernel_rfl, by kernel_rfl, by kernel_rfl, by kernel_rfl, by kernel_rfl, by kernel_rfl, by kernel_rfl, by kernel_rfl, by kernel_rfl, by kernel_rfl, by kernel_rfl, trivial⟩
      refine segV (S := fun V => Bts b o n x V) (N := 107) (i := 5) (d := 88) (s := .v (.int .u8 (x (n / 4 * 4 + (0))))) (fun _ _ _ _ hd h => And.intro (hd.trans (And.left h)) (And.right h)) hS0 h4 rfl rfl rfl (by decide) (by kernel_rfl) (fun V hV => op_load rfl (h4.2 87 _ rfl) Tryd.isAgg5 (by rw [Nat.add_assoc]; exact hV _ (by omega))) (fun a5 h5 d5 => ?_)
      replace d5 := d5.trans d4
      clear h4 d4
      replace h5 := sub_ok (E := [(0, .p 0 0), (1, .v (.slice (some ⟨b, o, none⟩) n c)), (4, .v (.int .i64 (n : Int))), (6, .s 1 0 32 32), (7, .v (.slice (some ⟨b, o + n / 4 * 4, none⟩) (n - n / 4 * 4) (c - n / 4 * 4))), (83, .s 1 0 32 32), (84, .s 1 0 32 32), (85, .s 1 0 32 32), (86, .v (.slice (some ⟨b, o + n / 4 * 4, none⟩) (n - n / 4 * 4) (c - n / 4 * 4))), (87, .v (.pointer (some ⟨b, o + n / 4 * 4 + (0), none⟩))), (88, .v (.int .u8 (x (n / 4 * 4 + (0))))), (89, .v (.slice (some ⟨b, o + n / 4 * 4, none⟩) (n - n / 4 * 4) (c - n / 4 * 4))), (92, .v (.int .i64 ((n % 4 / 2 : Nat) : Int))), (95, .v (.slice (some ⟨b, o + n / 4 * 4, none⟩) (n - n / 4 * 4) (c - n / 4 * 4))), (98, .v (.int .i64 ((n % 4 - 1 : Nat) : Int)))]) h5 ⟨by kernel_rfl, by kernel_rfl, by kernel_rfl, by kernel_rfl, by kernel_rfl, by kernel_rfl, by kernel_rfl, by kernel_rfl, by kernel_rfl, by kernel_rfl, by kernel_rfl, by kernel_rfl, by kernel_rfl, by kernel_rfl, by kernel_rfl, trivial⟩
      refine segV (S := fun V => Bts b o n x V) (N := 107) (i := 10) (d := 93) (s := .v (.pointer (some ⟨b, o + n / 4 * 4 + (n % 4 / 2), none⟩))) (fun _ _ _ _ hd h => And.intro (hd.trans (And.left h)) (And.right h)) hS0 h5 rfl rfl rfl (by decide) (by kernel_rfl) (fun V hV => op_indexSl (j := n % 4 / 2) rfl (h5.2 89 _ rfl) (h5.2 92 _ rfl) Tryd.underlying22 Tryd.sizeOf5 (by omega)) (fun a6 h6 d6 => ?_)
      replace d6 := d6.trans d5
      clear h5 d5
      replace h6 := sub_ok (E := [(0, .p 0 0), (1, .v (.slice (some ⟨b, o, none⟩) n c)), (4, .v (.int .i64 (n : Int))), (6, .s 1 0 32 32), (7, .v (.slice (some ⟨b, o + n / 4 * 4, none⟩) (n - n / 4 * 4) (c - n / 4 * 4))), (83, .s 1 0 32 32), (84, .s 1 0 32 32), (85, .s 1 0 32 32), (86, .v (.slice (some ⟨b, o + n / 4 * 4, none⟩) (n - n / 4 * 4) (c - n / 4 * 4))), (87, .v (.pointer (some ⟨b, o + n / 4 * 4 + (0), none⟩))), (88, .v (.int .u8 (x (n / 4 * 4 + (0))))), (89, .v (.slice (some ⟨b, o + n / 4 * 4, none⟩) (n - n / 4 * 4) (c - n / 4 * 4))), (92, .v (.int .i64 ((n % 4 / 2 : Nat) : Int))), (93, .v (.pointer (some ⟨b, o + n / 4 * 4 + (n % 4 / 2), none⟩))), (95, .v (.slice (some ⟨b, o + n / 4 * 4, none⟩) (n - n / 4 * 4) (c - n / 4 * 4))), (98, .v (.int .i64 ((n % 4 - 1 : Nat) : Int)))]) h6 ⟨by kernel_rfl, by kernel_rfl, by kernel_rfl, by kernel_rfl, by kernel_rfl, by kernel_rfl, by kernel_rfl, by kernel_rfl, by kernel_rfl, by kernel_rfl, by kernel_rfl, by kernel_rfl, by kernel_rfl, by kernel_rfl, by kernel_rfl, by kernel_rfl, trivial⟩
      refine segV (S := fun V => Bts b o n x V) (N := 107) (i := 11) (d := 94) (s := .v (.int .u8 (x (n / 4 * 4 + (n % 4 / 2))))) (fun _ _ _ _ hd h => And.intro (hd.trans (And.left h)) (And.right h)) hS0 h6 rfl rfl rfl (by decide) (by kernel_rfl) (fun V hV => op_load rfl (h6.2 93 _ rfl) Tryd.isAgg5 (by rw [Nat.add_assoc]; exact hV _ (by omega))) (fun a7 h7 d7 => ?_)
      replace d7 := d7.trans d6
      clear h6 d6
      replace h7 := sub_ok (E := [(0, .p 0 0), (1, .v (.slice (some ⟨b, o, none⟩) n c)), (4, .v (.int .i64 (n : Int))), (6, .s 1 0 32 32), (7, .v (.slice (some ⟨b, o + n / 4 * 4, none⟩) (n - n / 4 * 4) (c - n / 4 * 4))), (83, .s 1 0 32 32), (84, .s 1 0 32 32), (85, .s 1 0 32 32), (86, .v (.slice (some ⟨b, o + n / 4 * 4, none⟩) (n - n / 4 * 4) (c - n / 4 * 4))), (87, .v (.pointer (some ⟨b, o + n / 4 * 4 + (0), none⟩))), (88, .v (.int .u8 (x (n / 4 * 4 + (0))))), (89, .v (.slice (some ⟨b, o + n / 4 * 4, none⟩) (n - n / 4 * 4) (c - n / 4 * 4))), (92, .v (.int .i64 ((n % 4 / 2 : Nat) : Int))), (93, .v (.pointer (some ⟨b, o + n / 4 * 4 + (n % 4 / 2), none⟩))), (94, .v (.int .u8 (x (n / 4 * 4 + (n % 4 / 2))))), (95, .v (.slice (some ⟨b, o + n / 4 * 4, none⟩) (n - n / 4 * 4) (c - n / 4 * 4))), (98, .v (.int .i64 ((n % 4 - 1 : Nat) : Int)))]) h7 ⟨by kernel_rfl, by kernel_rfl, by kernel_rfl, by kernel_rfl, by kernel_rfl, by kernel_rfl, by kernel_rfl, by kernel_rfl, by kernel_rfl, by kernel_rfl, by kernel_rfl, by kernel_rfl, by kernel_rfl, by kernel_rfl, by kernel_rfl, by kernel_rfl, by kernel_rfl, trivial⟩
      refine segV (S := fun V => Bts b o n x V) (N := 107) (i := 16) (d := 99) (s := .v (.pointer (some ⟨b, o + n / 4 * 4 + (n % 4 - 1), none⟩))) (fun _ _ _ _ hd h => And.intro (hd.trans (And.left h)) (And.right h)) hS0 h7 rfl rfl rfl (by decide) (by kernel_rfl) (fun V hV => op_indexSl (j := n % 4 - 1) rfl (h7.2 95 _ rfl) (h7.2 98 _ rfl) Tryd.underlying22 Tryd.sizeOf5 (by omega)) (fun a8 h8 d8 => ?_)
      replace d8 := d8.trans d7
      clear h7 d7
      replace h8 := sub_ok (E := [(0, .p 0 0), (1, .v (.slice (some ⟨b, o, none⟩) n c)), (4, .v (.int .i64 (n : Int))), (6, .s 1 0 32 32), (7, .v (.slice (some ⟨b, o + n / 4 * 4, none⟩) (n - n / 4 * 4) (c - n / 4 * 4))), (83, .s 1 0 32 32), (84, .s 1 0 32 32), (85, .s 1 0 32 32), (86, .v (.slice (some ⟨b, o + n / 4 * 4, none⟩) (n - n / 4 * 4) (c - n / 4 * 4))), (87, .v (.pointer (some ⟨b, o + n / 4 * 4 + (0), none⟩))), (88, .v (.int .u8 (x (n / 4 * 4 + (0))))), (89, .v (.slice (some ⟨b, o + n / 4 * 4, none⟩) (n - n / 4 * 4) (c - n / 4 * 4))), (92, .v (.int .i64 ((n % 4 / 2 : Nat) : Int))), (93, .v (.pointer (some ⟨b, o + n / 4 * 4 + (n % 4 / 2), none⟩))), (94, .v (.int .u8 (x (n / 4 * 4 + (n % 4 / 2))))), (95, .v (.slice (some ⟨b, o + n / 4 * 4, none⟩) (n - n / 4 * 4) (c - n / 4 * 4))), (98, .v (.int .i64 ((n % 4 - 1 : Nat) : Int))), (99, .v (.pointer (some ⟨b, o + n / 4 * 4 + (n % 4 - 1), none⟩)))]) h8 ⟨by kernel_rfl, by kernel_rfl, by kernel_rfl, by kernel_rfl, by kernel_rfl, by kernel_rfl, by kernel_rfl, by kernel_rfl, by kernel_rfl, by kernel_rfl, by kernel_rfl, by kernel_rfl, by kernel_rfl, by kernel_rfl, by kernel_rfl, by kernel_rfl, by kernel_rfl, by kernel_rfl, trivial⟩
      refine segV (S := fun V => Bts b o n x V) (N := 107) (i := 17) (d := 100) (s := .v (.int .u8 (x (n / 4 * 4 + (n % 4 - 1))))) (fun _ _ _ _ hd h => And.intro (hd.trans (And.left h)) (And.right h)) hS0 h8 rfl rfl rfl (by decide) (by kernel_rfl) (fun V hV => op_load rfl (h8.2 99 _ rfl) Tryd.isAgg5 (by rw [Nat.add_assoc]; exact hV _ (by omega))) (fun a9 h9 d9 => ?_)
      replace d9 := d9.trans d8
      clear h8 d8
      replace h9 := sub_ok (E := [(0, .p 0 0), (1, .v (.slice (some ⟨b, o, none⟩) n c)), (4, .v (.int .i64 (n : Int))), (6, .s 1 0 32 32), (7, .v (.slice (some ⟨b, o + n / 4 * 4, none⟩) (n - n / 4 * 4) (c - n / 4 * 4))), (83, .s 1 0 32 32), (84, .s 1 0 32 32), (85, .s 1 0 32 32), (86, .v (.slice (some ⟨b, o + n / 4 * 4, none⟩) (n - n / 4 * 4) (c - n / 4 * 4))), (87, .v (.pointer (some ⟨b, o + n / 4 * 4 + (0), none⟩))), (88, .v (.int .u8 (x (n / 4 * 4 + (0))))), (89, .v (.slice (some ⟨b, o + n / 4 * 4, none⟩) (n - n / 4 * 4) (c - n / 4 * 4))), (92, .v (.int .i64 ((n % 4 / 2 : Nat) : Int))), (93, .v (.pointer (some ⟨b, o + n / 4 * 4 + (n % 4 / 2), none⟩))), (94, .v (.int .u8 (x (n / 4 * 4 + (n % 4 / 2))))), (95, .v (.slice (some ⟨b, o + n / 4 * 4, none⟩) (n - n / 4 * 4) (c - n / 4 * 4))), (98, .v (.int .i64 ((n % 4 - 1 : Nat) : Int))), (99, .v (.pointer (some ⟨b, o + n / 4 * 4 + (n % 4 - 1), none⟩))), (100, .v (.int .u8 (x (n / 4 * 4 + (n % 4 - 1)))))]) h9 ⟨by kernel_rfl, by kernel_rfl, by kernel_rfl, by kernel_rfl, by kernel_rfl, by kernel_rfl, by kernel_rfl, by kernel_rfl, by kernel_rfl, by kernel_rfl, by kernel_rfl, by kernel_rfl, by kernel_rfl, by kernel_rfl, by kernel_rfl, by kernel_rfl, by kernel_rfl, by kernel_rfl, by kernel_rfl, trivial⟩
      have K0 := M0.2.get (k := 1) rfl
      have Z0 := M0.2.get (k := 0) rfl
      have B0 := Fr.refl [ab] W0
      have V0 := M0.drew
      refine segV (S := fun V => Bts b o n x V) (N := 107) (i := 18) (d := 101) (s := .p 1 16) (fun _ _ _ _ hd h => And.intro (hd.trans (And.left h)) (And.right h)) hS0 h9 rfl rfl rfl (by decide) (by kernel_rfl) (fun V hV => op_indexSl (j := 16) rfl (h9.2 83 _ rfl) rfl Tryd.underlying22 Tryd.sizeOf5 (by decide)) (fun a10 h10 d10 => ?_)
      replace d10 := d10.trans d9
      clear h9 d9
      replace h10 := sub_ok (E := [(0, .p 0 0), (1, .v (.slice (some ⟨b, o, none⟩) n c)), (4, .v (.int .i64 (n : Int))), (6, .s 1 0 32 32), (7, .v (.slice (some ⟨b, o + n / 4 * 4, none⟩) (n - n / 4 * 4) (c - n / 4 * 4))), (83, .s 1 0 32 32), (84, .s 1 0 32 32), (85, .s 1 0 32 32), (86, .v (.slice (some ⟨b, o + n / 4 * 4, none⟩) (n - n / 4 * 4) (c - n / 4 * 4))), (87, .v (.pointer (some ⟨b, o + n / 4 * 4 + (0), none⟩))), (88, .v (.int .u8 (x (n / 4 * 4 + (0))))), (89, .v (.slice (some ⟨b, o + n / 4 * 4, none⟩) (n - n / 4 * 4) (c - n / 4 * 4))), (92, .v (.int .i64 ((n % 4 / 2 : Nat) : Int))), (93, .v (.pointer (some ⟨b, o + n / 4 * 4 + (n % 4 / 2), none⟩))), (94, .v (.int .u8 (x (n / 4 * 4 + (n % 4 / 2))))), (95, .v (.slice (some ⟨b, o + n / 4 * 4, none⟩) (n - n / 4 * 4) (c - n / 4 * 4))), (98, .v (.int .i64 ((n % 4 - 1 : Nat) : Int))), (99, .v (.pointer (some ⟨b, o + n / 4 * 4 + (n % 4 - 1), none⟩))), (100, .v (.int .u8 (x (n / 4 * 4 + (n % 4 - 1))))), (101, .p 1 16)]) h10 ⟨by kernel_rfl, by kernel_rfl, by kernel_rfl, by kernel_rfl, by kernel_rfl, by kernel_rfl, by kernel_rfl, by kernel_rfl, by kernel_rfl, by kernel_rfl, by kernel_rfl, by kernel_rfl, by kernel_rfl, by kernel_rfl, by kernel_rfl, by kernel_rfl, by kernel_rfl, by kernel_rfl, by kernel_rfl, by kernel_rfl, trivial⟩
      have V1 : Mw (bg [⟨g, T, 16, (stm s m)⟩, ⟨ab, 5, 32, (cpB (fun _ => .int .u8 0) 0 (n / 4 * 4) (fun j => .int .u8 (x j)))⟩]) [⟨g, T, 16, stm s m⟩, ⟨ab, 5, 32, (upm (cpB (fun _ => .int .u8 0) 0 (n / 4 * 4) (fun j => .int .u8 (x j))) 16 (.int .u8 (x (n / 4 * 4 + (0)))))⟩] (World.setCell (W0.drew) ⟨ab, 16, none⟩ (.int .u8 (x (n / 4 * 4 + (0))))) := ⟨(bg_put [⟨g, T, 16, stm s m⟩, ⟨ab, 5, 32, (cpB (fun _ => .int .u8 0) 0 (n / 4 * 4) (fun j => .int .u8 (x j)))⟩] 1 16 (.int .u8 (x (n / 4 * 4 + (0))))).trans V0.1, Mm.set (L := [⟨g, T, 16, stm s m⟩, ⟨ab, 5, 32, (cpB (fun _ => .int .u8 0) 0 (n / 4 * 4) (fun j => .int .u8 (x j)))⟩]) (k := 1) (i := 16) (.int .u8 (x (n / 4 * 4 + (0)))) V0.2 rfl⟩
      have B1 : Fr [ab] W0 (World.setCell (W0.drew) ⟨ab, 16, none⟩ (.int .u8 (x (n / 4 * 4 + (0))))) := B0.set _ (by simp) _
      have hS1 : Bts b o n x (World.setCell (W0.drew) ⟨ab, 16, none⟩ (.int .u8 (x (n / 4 * 4 + (0))))) := hS0.on ((Fr.refl [ab] _).set ⟨ab, 16, none⟩ (by simp) (.int .u8 (x (n / 4 * 4 + (0))))) (by simpa using hbab)
      refine segK (S := fun V => Bts b o n x V) (N := 107) (n := 19) (k := 1) (i := 16) (u := .int .u8 (x (n / 4 * 4 + (0)))) tabOk h10 (by kernel_rfl) (by kernel_rfl) ⟨_, (V0.2.at (k := 1) (i := 16) rfl).1⟩ (V0.2.at (k := 1) (i := 16) rfl).2 hS1 ?_
      replace hS0 := hS1
      clear hS1 V0 B0
      show wpAnyLast _ _ _ _ _ _ _ _ _ (World.setCell (W0.drew) ⟨ab, 16, none⟩ (.int .u8 (x (n / 4 * 4 + (0)))))
      generalize World.setCell (W0.drew) ⟨ab, 16, none⟩ (.int .u8 (x (n / 4 * 4 + (0)))) = Y1 at V1 B1 hS0 ⊢
      refine segV (S := fun V => Bts b o n x V) (N := 107) (i := 20) (d := 102) (s := .p 1 17) (fun _ _ _ _ hd h => And.intro (hd.trans (And.left h)) (And.right h)) hS0 h10 rfl rfl rfl (by decide) (by kernel_rfl) (fun V hV => op_indexSl (j := 17) rfl (h10.2 84 _ rfl) rfl Tryd.underlying22 Tryd.sizeOf5 (by decide)) (fun a11 h11 d11 => ?_)
      replace d11 := d11.trans d10
      clear h10 d10
      replace h11 := sub_ok (E := [(0, .p 0 0), (1, .v (.slice (some ⟨b, o, none⟩) n c)), (4, .v (.int .i64 (n : Int))), (6, .s 1 0 32 32), (7, .v (.slice (some ⟨b, o + n / 4 * 4, none⟩) (n - n / 4 * 4) (c - n / 4 * 4))), (83, .s 1 0 32 32), (84, .s 1 0 32 32), (85, .s 1 0 32 32), (86, .v (.slice (some ⟨b, o + n / 4 * 4, none⟩) (n - n / 4 * 4) (c - n / 4 * 4))), (87, .v (.pointer (some ⟨b, o + n / 4 * 4 + (0), none⟩))), (88, .v (.int .u8 (x (n / 4 * 4 + (0))))), (89, .v (.slice (some ⟨b, o + n / 4 * 4, none⟩) (n - n / 4 * 4) (c - n / 4 * 4))), (92, .v (.int .i64 ((n % 4 / 2 : Nat) : Int))), (93, .v (.pointer (some ⟨b, o + n / 4 * 4 + (n % 4 / 2), none⟩))), (94, .v (.int .u8 (x (n / 4 * 4 + (n % 4 / 2))))), (95, .v (.slice (some ⟨b, o + n / 4 * 4, none⟩) (n - n / 4 * 4) (c - n / 4 * 4))), (98, .v (.int .i64 ((n % 4 - 1 : Nat) : Int))), (99, .v (.pointer (some ⟨b, o + n / 4 * 4 + (n % 4 - 1), none⟩))), (100, .v (.int .u8 (x (n / 4 * 4 + (n % 4 - 1))))), (101, .p 1 16), (102, .p 1 17)]) h11 ⟨by kernel_rfl, by kernel_rfl, by kernel_rfl, by kernel_rfl, by kernel_rfl, by kernel_rfl, by kernel_rfl, by kernel_rfl, by kernel_rfl, by kernel_rfl, by kernel_rfl, by kernel_rfl, by kernel_rfl, by kernel_rfl, by kernel_rfl, by kernel_rfl, by kernel_rfl, by kernel_rfl, by kernel_rfl, by kernel_rfl, by kernel_rfl, trivial⟩
      have V2 : Mw (bg [⟨g, T, 16, (stm s m)⟩, ⟨ab, 5, 32, (cpB (fun _ => .int .u8 0) 0 (n / 4 * 4) (fun j => .int .u8 (x j)))⟩]) [⟨g, T, 16, stm s m⟩, ⟨ab, 5, 32, (upm (upm (cpB (fun _ => .int .u8 0) 0 (n / 4 * 4) (fun j => .int .u8 (x j))) 16 (.int .u8 (x (n / 4 * 4 + (0))))) 17 (.int .u8 (x (n / 4 * 4 + (n % 4 / 2)))))⟩] (World.setCell (Y1) ⟨ab, 17, none⟩ (.int .u8 (x (n / 4 * 4 + (n % 4 / 2))))) := ⟨(bg_put [⟨g, T, 16, stm s m⟩, ⟨ab, 5, 32, (upm (cpB (fun _ => .int .u8 0) 0 (n / 4 * 4) (fun j => .int .u8 (x j))) 16 (.int .u8 (x (n / 4 * 4 + (0)))))⟩] 1 17 (.int .u8 (x (n / 4 * 4 + (n % 4 / 2))))).trans V1.1, Mm.set (L := [⟨g, T, 16, stm s m⟩, ⟨ab, 5, 32, (upm (cpB (fun _ => .int .u8 0) 0 (n / 4 * 4) (fun j => .int .u8 (x j))) 16 (.int .u8 (x (n / 4 * 4 + (0)))))⟩]) (k := 1) (i := 17) (.int .u8 (x (n / 4 * 4 + (n % 4 / 2)))) V1.2 rfl⟩
      have B2 : Fr [ab] W0 (World.setCell (Y1) ⟨ab, 17, none⟩ (.int .u8 (x (n / 4 * 4 + (n % 4 / 2))))) := B1.set _ (by simp) _
      have hS1 : Bts b o n x (World.setCell (Y1) ⟨ab, 17, none⟩ (.int .u8 (x (n / 4 * 4 + (n % 4 / 2))))) := hS0.on ((Fr.refl [ab] _).set ⟨ab, 17, none⟩ (by simp) (.int .u8 (x (n / 4 * 4 + (n % 4 / 2))))) (by simpa using hbab)
      refine segK (S := fun V => Bts b o n x V) (N := 107) (n := 21) (k := 1) (i := 17) (u := .int .u8 (x (n / 4 * 4 + (n % 4 / 2)))) tabOk h11 (by kernel_rfl) (by kernel_rfl) ⟨_, (V1.2.at (k := 1) (i := 17) rfl).1⟩ (V1.2.at (k := 1) (i := 17) rfl).2 hS1 ?_
      replace hS0 := hS1
      clear hS1 V1 B1
      show wpAnyLast _ _ _ _ _ _ _ _ _ (World.setCell (Y1) ⟨ab, 17, none⟩ (.int .u8 (x (n / 4 * 4 + (n % 4 / 2)))))
      generalize World.setCell (Y1) ⟨ab, 17, none⟩ (.int .u8 (x (n / 4 * 4 + (n % 4 / 2)))) = Y2 at V2 B2 hS0 ⊢
      refine segV (S := fun V => Bts b o n x V) (N := 107) (i := 22) (d := 103) (s := .p 1 18) (fun _ _ _ _ hd h => And.intro (hd.trans (And.left h)) (And.right h)) hS0 h11 rfl rfl rfl (by decide) (by kernel_rfl) (fun V hV => op_indexSl (j := 18) rfl (h11.2 85 _ rfl) rfl Tryd.underlying22 Tryd.sizeOf5 (by decide)) (fun a12 h12 d12 => ?_)
      replace d12 := d12.trans d11
      clear h11 d11
      replace h12 := sub_ok (E := [(0, .p 0 0), (1, .v (.slice (some ⟨b, o, none⟩) n c)), (4, .v (.int .i64 (n : Int))), (6, .s 1 0 32 32), (7, .v (.slice (some ⟨b, o + n / 4 * 4, none⟩) (n - n / 4 * 4) (c - n / 4 * 4))), (83, .s 1 0 32 32), (84, .s 1 0 32 32), (85, .s 1 0 32 32), (86, .v (.slice (some ⟨b, o + n / 4 * 4, none⟩) (n - n / 4 * 4) (c - n / 4 * 4))), (87, .v (.pointer (some ⟨b, o + n / 4 * 4 + (0), none⟩))), (88, .v (.int .u8 (x (n / 4 * 4 + (0))))), (89, .v (.slice (some ⟨b, o + n / 4 * 4, none⟩) (n - n / 4 * 4) (c - n / 4 * 4))), (92, .v (.int .i64 ((n % 4 / 2 : Nat) : Int))), (93, .v (.pointer (some ⟨b, o + n / 4 * 4 + (n % 4 / 2), none⟩))), (94, .v (.int .u8 (x (n / 4 * 4 + (n % 4 / 2))))), (95, .v (.slice (some ⟨b, o + n / 4 * 4, none⟩) (n - n / 4 * 4) (c - n / 4 * 4))), (98, .v (.int .i64 ((n % 4 - 1 : Nat) : Int))), (99, .v (.pointer (some ⟨b, o + n / 4 * 4 + (n % 4 - 1), none⟩))), (100, .v (.int .u8 (x (n / 4 * 4 + (n % 4 - 1))))), (101, .p 1 16), (102, .p 1 17), (103, .p 1 18)]) h12 ⟨by kernel_rfl, by kernel_rfl, by kernel_rfl, by kernel_rfl, by kernel_rfl, by kernel_rfl, by kernel_rfl, by kernel_rfl, by kernel_rfl, by kernel_rfl, by kernel_rfl, by kernel_rfl, by kernel_rfl, by kernel_rfl, by kernel_rfl, by kernel_rfl, by kernel_rfl, by kernel_rfl, by kernel_rfl, by kernel_rfl, by kernel_rfl, by kernel_rfl, trivial⟩
      refine lastS (N := 107) (n := 23) (k := 1) (i := 18) (u := .int .u8 (x (n / 4 * 4 + (n % 4 - 1)))) tabOk h12 (by kernel_rfl) (by kernel_rfl) ⟨_, (V2.2.at (k := 1) (i := 18) rfl).1⟩ (V2.2.at (k := 1) (i := 18) rfl).2 ?_
      have V3 : Mw (bg [⟨g, T, 16, (stm s m)⟩, ⟨ab, 5, 32, (cpB (fun _ => .int .u8 0) 0 (n / 4 * 4) (fun j => .int .u8 (x j)))⟩]) [⟨g, T, 16, stm s m⟩, ⟨ab, 5, 32, (upm (upm (upm (cpB (fun _ => .int .u8 0) 0 (n / 4 * 4) (fun j => .int .u8 (x j))) 16 (.int .u8 (x (n / 4 * 4 + (0))))) 17 (.int .u8 (x (n / 4 * 4 + (n % 4 / 2))))) 18 (.int .u8 (x (n / 4 * 4 + (n % 4 - 1)))))⟩] (World.setCell Y2 ⟨ab, 18, none⟩ (.int .u8 (x (n / 4 * 4 + (n % 4 - 1))))) := ⟨(bg_put [⟨g, T, 16, stm s m⟩, ⟨ab, 5, 32, (upm (upm (cpB (fun _ => .int .u8 0) 0 (n / 4 * 4) (fun j => .int .u8 (x j))) 16 (.int .u8 (x (n / 4 * 4 + (0))))) 17 (.int .u8 (x (n / 4 * 4 + (n % 4 / 2)))))⟩] 1 18 (.int .u8 (x (n / 4 * 4 + (n % 4 - 1))))).trans V2.1, Mm.set (L := [⟨g, T, 16, stm s m⟩, ⟨ab, 5, 32, (upm (upm (cpB (fun _ => .int .u8 0) 0 (n / 4 * 4) (fun j => .int .u8 (x j))) 16 (.int .u8 (x (n / 4 * 4 + (0))))) 17 (.int .u8 (x (n / 4 * 4 + (n % 4 / 2)))))⟩]) (k := 1) (i := 18) (.int .u8 (x (n / 4 * 4 + (n % 4 - 1)))) V2.2 rfl⟩
      have B3 : Fr [ab] W0 (World.setCell (Y2) ⟨ab, 18, none⟩ (.int .u8 (x (n / 4 * 4 + (n % 4 - 1))))) := B2.set _ (by simp) _
      show Code.wp _ _ _ _ _
      replace h12 := sub_ok (E := [(0, .p 0 0), (6, .s 1 0 32 32)]) h12 ⟨by kernel_rfl, by kernel_rfl, trivial⟩
      refine rem_end g T ab s (rall n x) m w _ _ (rall_oct n x hn ho) _ (fun i hi => ?_) _ V3 (Fr.comp F0 B3 (fun x hx => Or.inr (by simp at hx; subst hx; exact hab))) h12 d12
      unfold rall upm cpB
      rw [if_neg h16, if_neg h4]
      by_cases e18 : i = 18
      · subst e18
        rfl
      by_cases e17 : i = 17
      · subst e17
        rfl
      by_cases e16 : i = 16
      · subst e16
        rfl
      rw [if_neg e18, if_neg e17, if_neg e16, if_neg e16, if_neg e17, if_neg e18]
      by_cases h2 : i < n / 4 * 4
      · rw [if_pos (by omega), if_pos h2, Nat.sub_zero]
      · rw [if_neg (by omega), if_neg h2]
end Go.Proofs.YtnehminojlocoaaDoor.PAll
