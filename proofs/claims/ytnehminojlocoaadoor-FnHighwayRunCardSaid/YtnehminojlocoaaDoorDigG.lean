/- DigG: HdRunE, HdRun, HdRunW, HdLawE, HdOpen, HdLawF, HdLaw4, HdLaw4R. -/
import Derived.Test.YtnehminojlocoaaDoorDigF
import Derived.Great.BuildSlice
import Derived.Deep.Matrix
import Derived.WalkKit
namespace Go.Proofs.YtnehminojlocoaaDoor.PAll
open Go.RowKit Go.Proofs.YtnehminojlocoaaDoorW.PrintWords Go.Proofs.YtnehminojlocoaaDoorW.PrintLast Go.Proofs.YtnehminojlocoaaDoorW.PrintMore
set_option linter.unusedVariables false
set_option linter.unusedSimpArgs false
section
variable {P : Program} {ops : Array Oper} {Q : Exit → Act → World → Prop} {S : World → Prop} {ds : List Nat} {N : Nat} {β : Nat → Nat} {M : Nat → Nat → Option Value} {T : TypeId → Option Ty}
/-- Pure operations in the order of the text; E2 is told on. -/
theorem opsP (hT : TabOk P T) {w : World} (hM : MemOk β M w) (l2 l : List Nat) (E2 : List (Nat × SV)) {E : List (Nat × SV)} {a : Act} (hA : Has N β E a) (hs : (evs N T M ops l E).isSome = true) (hsub : Sub (evs N T M ops l E) E2)
    (h : ∀ a', Has N β E2 a' → a'.defers = a.defers → wpOps P ops Q l2 a' w) : wpOps P ops Q (l ++ l2) a w := by
  obtain ⟨E', he⟩ := Option.isSome_iff_exists.1 hs
  rw [he] at hsub
  exact ops_ hT hM l2 l he hA (fun a' h1 h2 => h a' (sub_ok h1 hsub) h2)
/-- A store, shown by hand, that keeps S. -/
theorem stepS {j fuel : Nat} {o : Oper} {L : Array Bool} {a : Act} {w w1 : World} (ho : ops[j]? = some o) (hg : o.guard = none) (hd : o.dst = none)
    (hB : (readyB .any ops L (L.setIfInBounds j true) j && !(ds.contains j)) = true) (hrun : (execOp a.eval o).run P w = .ok .skip w1) (hS : S w1)
    (h : wpAnyLast P .any ops Q S ds fuel (L.setIfInBounds j true) a w1) : wpAnyLast P .any ops Q S ds (fuel + 1) L a w := by
  simp only [Bool.and_eq_true, Bool.not_eq_true', List.contains_eq_mem, decide_eq_false_iff_not] at hB
  obtain ⟨hB2, hB6⟩ := hB
  refine one_ (i := j) (N := none) _ ho hd hB2 hB6 (fun K hK => ?_)
  exact skip_ (want_ hg) hd hrun (hK.out _ _ hS (fun _ => h))
/-- An append that keeps S. -/
theorem stepA {α : Type} {j dst fuel : Nat} {o : Oper} {L : Array Bool} {E : List (Nat × SV)} {a : Act} (d : Kd α) {Rr : α → List Value → Prop} {w0 W : World} (base : Nat) (hA : Has N β E a) (hoi : ops[j]? = some o) (hg : o.guard = none) (hd : o.dst = some dst) (hN : dst < N)
    (hB : (readyB .any ops L (L.setIfInBounds j true) j && !(ds.contains j)) = true) (s x : Operand) (t e : TypeId) (z : Value) (bytes : Nat)
    (ho : o.op = .call { callee := .builtin .append, args := #[s, x], argTypes := #[t, t] })
    (ht : P.underlying t = some (.slice e)) (hinfo : (P.info? e).map (fun i => (i.zero, i.size, i.bytes)) = some (some z, d.sz, bytes)) (hz : z.cells.size = d.sz) (hs0 : 0 < d.sz) (hb0 : 0 < bytes)
    (v : Value) (xs ys : List α) (A : Option Addr) (m c : Nat) (ok okp : Nat → Prop) (hs : a.eval s = v) (hx : a.eval x = .slice A m c)
    (HO : d.R e W base ok v xs) (HR : ReadsRow Rr d.sz W A m ys) (hKM : ∀ x cs, Rr x cs → d.M W base okp x cs) (hokp : ∀ k, okp k → ok k ∧ some k ≠ v.ownBlock) (hfresh : ∀ k, W.heap.size ≤ k → ok k)
    (HB : Below base w0 W) (hbase : base ≤ W.heap.size) (hl : (xs.length + m) * bytes ≤ 140737488355328)
    (hS : ∀ w1, Below base w0 w1 → W.grownBy w1 v.ownBlock → S w1)
    (h : ∀ v1 w1 a', d.R e w1 base ok v1 (xs ++ ys) → Below base w0 w1 → W.grownBy w1 v.ownBlock → Has N β ((dst, .v v1) :: E) a' → a'.defers = a.defers → wpAnyLast P .any ops Q S ds fuel (L.setIfInBounds j true) a' w1) : wpAnyLast P .any ops Q S ds (fuel + 1) L a W := by
  simp only [Bool.and_eq_true, Bool.not_eq_true', List.contains_eq_mem, decide_eq_false_iff_not] at hB
  obtain ⟨hB2, hB6⟩ := hB
  refine one_ (i := j) (N := some dst) _ hoi hd hB2 hB6 (fun K hK => ?_)
  have key := Kd.R_append_rows_step (Kc := K) (Q := Q) (ops := ops) d base (want_ hg) s x t e z bytes ho ht hinfo hz hs0 hb0 v xs ys A m c ok okp hs hx HO HR hKM hokp hfresh HB hbase hl (fun v1 w1 h1 h2 h3 _ => by
    rw [hd]
    exact hK.out _ _ (hS _ h2 h3) (fun _ => h v1 w1 _ h1 h2 h3 (hA.put dst hN (.v v1)) (put_defs _ _ _)))
  rw [hd] at key
  exact key
/-- A guard that is met. -/
theorem want_g {o : Oper} {a : Act} {E : List (Nat × SV)} {j d : Nat} {b : Bool} (hA : Has N β E a) (hg : o.guard = some (j, b)) (hj : (ops[j]?).bind (·.dst) = some d) (hd : look E d = some (.v (.bool b))) : Region.wanted o (yielded ops a.tmps) = true := by
  have h1 : a.eval (.tmp d) = .bool b := hA.2 d _ hd
  have h2 : a.tmps[d]? = some (.bool b) := by
    simp only [Act.eval] at h1
    rw [Array.getD_eq_getD_getElem?] at h1
    cases h3 : a.tmps[d]? with
    | none =>
      rw [h3] at h1
      cases h1
    | some v =>
      rw [h3] at h1
      exact congrArg some h1
  unfold Region.wanted yielded
  simp [hg, hj, h2]
theorem givenW_ops {i d : Nat} {o : Oper} {s : SV} {l : List Nat} {a : Act} {w : World} {E : List (Nat × SV)} (ho : ops[i]? = some o) (hw : Region.wanted o (yielded ops a.tmps) = true) (hd : o.dst = some d) (hN : d < N) (hA : Has N β E a) (hrun : (execOp a.eval o).run P w = .ok (.value (s.den β)) w)
    (h : ∀ a', Has N β ((d, s) :: E) a' → a'.defers = a.defers → wpOps P ops Q l a' w) : wpOps P ops Q (i :: l) a w := by
  unfold wpOps
  simp only [ho]
  rw [if_pos hw]
  refine Or.inl ?_
  unfold Oper.wp
  rw [hrun, Oper.upon_value, hd]
  exact h _ (hA.put d hN s) rfl
/-- A pure operation whose guard is met. -/
theorem guard_ops (hT : TabOk P T) {i d j dj : Nat} {b : Bool} {o : Oper} {s : SV} {l : List Nat} {a : Act} {w : World} {E : List (Nat × SV)} (hM : MemOk β M w) (ho : ops[i]? = some o) (hg : o.guard = some (j, b)) (hj : (ops[j]?).bind (·.dst) = some dj) (hb : look E dj = some (.v (.bool b))) (hd : o.dst = some d) (hN : d < N) (hA : Has N β E a) (hs : ev T M E o = some s)
    (h : ∀ a', Has N β ((d, s) :: E) a' → a'.defers = a.defers → wpOps P ops Q l a' w) : wpOps P ops Q (i :: l) a w :=
  givenW_ops ho (want_g hA hg hj hb) hd hN hA (ev_ok hT hA hM hs) h
section
variable {ρ : Operand → Value} {o : Oper} {W : World}
theorem op_not {t : TypeId} {x : Operand} {b : Bool} (ho : o.op = .unOp .not t x) (hx : ρ x = .bool b) : (execOp ρ o).run P W = .ok (.value (.bool !b)) W := by
  unfold execOp
  rw [ho]
  simp [go_sem, Op.unary, hx]
theorem op_pickT {c x y : Operand} {v : Value} (ho : o.op = .pick c x y) (hc : ρ c = .bool true) (hx : ρ x = v) : (execOp ρ o).run P W = .ok (.value v) W := by
  unfold execOp
  rw [ho]
  simp [go_sem, hc, hx]
theorem op_pickF {c x y : Operand} {v : Value} (ho : o.op = .pick c x y) (hc : ρ c = .bool false) (hy : ρ y = v) : (execOp ρ o).run P W = .ok (.value v) W := by
  unfold execOp
  rw [ho]
  simp [go_sem, hc, hy]
theorem op_makeFunc {fn : Fn} {f c : Array Operand} (ho : o.op = .makeFunc fn f c) : (execOp ρ o).run P W = .ok (.value (.func fn (f.map ρ) (c.map ρ))) W := by
  unfold execOp
  rw [ho]
  rfl
theorem op_makeFunc1 {fn : Fn} {x : Operand} {v : Value} (ho : o.op = .makeFunc fn #[x] #[]) (hx : ρ x = v) : (execOp ρ o).run P W = .ok (.value (.func fn #[v] #[])) W := by
  have h := op_makeFunc (P := P) (ρ := ρ) (W := W) ho
  simp only [List.map_toArray, List.map_cons, List.map_nil, hx] at h
  exact h
theorem op_nilFunc {x : Operand} {nm : String} {t : TypeId} {u : Value} {cap : Array Value} (ho : o.op = .nilCheck x) (hx : ρ x = .func (.method nm) #[.iface t u] cap) (hn : ∀ w, (nilAhead (P.types.size + Made.depth) t u nm).run P w = .ok (some false) w) : (execOp ρ o).run P W = .ok (.value (.func (.method nm) #[.iface t u] cap)) W := by
  unfold execOp
  rw [ho]
  simp only [hx]
  have hp : (program : Sem Program).run P W = .ok P W := rfl
  have h0 : (#[Value.iface t u])[0]? = some (.iface t u) := rfl
  simp only [h0, Sem.run_bind]
  rw [hp]
  simp only [Result.andThen_ok]
  rw [hn W]
  simp [go_sem]
theorem op_indexS {t e : TypeId} {x ix : Operand} {b i n c j k : Nat} (ho : o.op = .indexAddr t x ix) (hx : ρ x = .slice (some ⟨b, i, none⟩) n c) (hi : ρ ix = .int .i64 (j : Int)) (ht : P.underlying t = some (.slice e)) (hs : ∀ w, (Go.sizeOf e).run P w = .ok k w) (hj : j < n) :
    (execOp ρ o).run P W = .ok (.value (.pointer (some (Addr.add ⟨b, i, none⟩ (j * k))))) W := by
  unfold execOp
  rw [ho]
  simp [go_sem, Instr.indexAt, hx, hi, und ht, hs, hj]
theorem op_eqNil {t t2 : TypeId} {x : Operand} (ho : o.op = .binOp .eql t x (.const .nilIface) t2) (hx : ρ x = .nilIface) (hc : ρ (.const .nilIface) = .nilIface) (he : ∀ w, (Op.equal t .nilIface .nilIface).run P w = .ok true w) : (execOp ρ o).run P W = .ok (.value (.bool true)) W := by
  unfold execOp
  rw [ho]
  simp [go_sem, eqGuard, hx, hc, binOp, he]
theorem op_assert {x : Operand} {t i dt : TypeId} {u : Value} (ho : o.op = .typeAssert x t i true) (hx : ρ x = .iface dt u) (h : ∀ w, (Instr.typeAssert (.iface dt u) t i true).run P w = .ok (.tuple #[.iface dt u, .bool true]) w) : (execOp ρ o).run P W = .ok (.value (.tuple #[.iface dt u, .bool true])) W := by
  unfold execOp
  rw [ho]
  simp [go_sem, hx, h W]
end
end
theorem addr_add (b i k : Nat) : (Addr.add ⟨b, i, none⟩ k) = ⟨b, i + k, none⟩ := by
  unfold Addr.add
  by_cases h : k = 0
  · simp [h]
  · simp [h]
theorem op_indexT {P : Program} {ρ : Operand → Value} {o : Oper} {W : World} {t e : TypeId} {x ix : Operand} {b i n c j k : Nat} (ho : o.op = .indexAddr t x ix) (hx : ρ x = .slice (some ⟨b, i, none⟩) n c) (hi : ρ ix = .int .i64 (j : Int)) (ht : P.underlying t = some (.slice e)) (hs : ∀ w, (Go.sizeOf e).run P w = .ok k w) (hj : j < n) :
    (execOp ρ o).run P W = .ok (.value (.pointer (some ⟨b, i + j * k, none⟩))) W := by
  have key := op_indexS (W := W) ho hx hi ht hs hj
  rw [addr_add] at key
  exact key
/-- A row of octets of the call's own, with where it lies. -/
theorem R_bts2 {W : World} {base : Nat} {ok : Nat → Prop} {v : Value} {l : List Int} (h : Kd.R (Kd.int .u8) 5 W base ok v l) : ∃ A c b, v = .slice A l.length c ∧ l.length ≤ c ∧ (0 < l.length → A = some ⟨b, 0, none⟩ ∧ base ≤ b) ∧ Bts b 0 l.length (lx l) W := by
  have ho := Kd.own_of_R (enc := Value.int .u8) (h1 := fun _ => rfl) h
  rcases ho.2 with ⟨rfl, h0⟩ | ⟨g, cap, cur, rfl, hg, hh, hle, hmx, hsz, htk⟩
  · exact ⟨none, 0, 0, by rw [h0], by omega, fun h => by omega, fun i hi => by omega⟩
  · refine ⟨_, cap, g, rfl, hle, fun _ => ⟨rfl, hg⟩, fun i hi => ?_⟩
    rw [Nat.zero_add, blk_cell hh, ← Array.getElem?_toList]
    have e : cur.toList[i]? = (cur.toList.take (l.length * 1))[i]? := by rw [List.getElem?_take_of_lt (by omega)]
    rw [e, htk]
    unfold lx
    rw [List.getD_eq_getElem?_getD, List.getElem?_eq_getElem hi]
    simp [encs, hi]
theorem op_storeAgg {P : Program} {ρ : Operand → Value} {o : Oper} {W W1 : World} {t : TypeId} {x y : Operand} {b : Nat} {cs : Array Value} (hop : o.op = .store t x y) (hx : ρ x = .pointer (some ⟨b, 0, none⟩)) (hy : ρ y = .agg cs) (hst : (storeVar t ⟨b, 0, none⟩ (.agg cs)).run P W = .ok () W1) : (execOp ρ o).run P W = .ok .skip W1 := by
  unfold execOp
  rw [hop]
  simp only [hx, hy, Instr.storeAt, Instr.sureAddr, Sem.run_bind, Sem.run_pure, Result.andThen_ok, hst]
theorem op_buildSlice1 {P : Program} {ρ : Operand → Value} {o : Oper} {W W1 : World} {t : TypeId} {x : Operand} {v r : Value} (ho : o.op = .buildSlice t 1 #[(0, x)]) (hx : ρ x = v) (h : (Instr.buildSlice t 1 #[(0, v)]).run P W = .ok r W1) : (execOp ρ o).run P W = .ok (.value r) W1 := by
  unfold execOp
  rw [ho]
  simp only [List.map_toArray, List.map_cons, List.map_nil, hx, Sem.run_bind, h, Result.andThen_ok]
  rfl
theorem build_row (W : World) (A : Option Addr) (n c : Nat) : (Instr.buildSlice 23 1 #[(0, .slice A n c)]).run Tryd.prog W = .ok (.slice (some ⟨W.heap.size, 0, none⟩) 1 1) (W.alloc (.cells #[.slice A n c] 22)) := by
  cases hq : Tryd.prog.info? 22 with
  | none => exact absurd (show (Tryd.prog.info? 22).isSome = true by kernel_rfl) (by simp [hq])
  | some ie =>
    have h1 : (Tryd.prog.info? 22).map (fun i => (i.zero, i.size)) = some (some (.slice none 0 0), 1) := by kernel_rfl
    rw [hq] at h1
    simp only [Option.map_some, Option.some.injEq, Prod.mk.injEq] at h1
    obtain ⟨hz, hs⟩ := h1
    refine run_buildSlice W _ _ 1 _ _ ie _ Tryd.underlying23 hq hz (by rw [hs]; decide) (by rw [hs]; decide) ?_
    rw [hs]
    kernel_rfl
/-- A row that was just made, as the one element of a row. -/
theorem one_row {W0 W : World} {B : Nat} {v : Value} {xs : List Int} {A : Option Addr} {n c : Nat} (h : Kd.R (Kd.int .u8) 5 W W0.heap.size (fun _ => True) (.slice A n c) xs) (hB : B ≤ W0.heap.size) (hv : ∀ k, v.ownBlock = some k → k < W0.heap.size) :
    ReadsRow ((Kd.slice 5 (Kd.int .u8)).M (W.alloc (.cells #[.slice A n c] 22)) B (fun k => W0.heap.size ≤ k)) 1 (W.alloc (.cells #[.slice A n c] 22)) (some ⟨W.heap.size, 0, none⟩) 1 [xs] ∧ ∀ k, W0.heap.size ≤ k → True ∧ some k ≠ v.ownBlock := by
  refine ⟨⟨rfl, by decide, fun _ => ⟨_, rfl, fun j p hp => ?_⟩⟩, fun k hk => ⟨trivial, fun e => ?_⟩⟩
  · cases j with
    | succ j => simp at hp
    | zero =>
      obtain rfl : xs = p := by simpa using hp
      refine ⟨[.slice A n c], rfl, ⟨_, rfl, ?_⟩, fun i u hu => ?_⟩
      · exact Kd.R_below (Kd.R_lower (Kd.R_mono (Kd.R_bound h) (fun k hk => hk.2.1)) hB) ((Below.refl _ _).alloc (Nat.le_refl _) _)
      · cases i with
        | succ i => simp at hu
        | zero =>
          obtain rfl : Value.slice A n c = u := by simpa using hu
          show (W.alloc _).cell? (Addr.add ⟨W.heap.size, 0, none⟩ (0 * 1 + 0)) = _
          rw [addr_add, blk_cell (MapKept.heap_alloc W _).1]
          rfl
  · have := hv k e.symm
    omega
theorem Bl.In.below {b : Bl} {B : Nat} {W W' : World} (h : b.In W) (hb : Below B W W') (hlt : b.g < B) : b.In W' := by
  obtain ⟨cs, h1, h2⟩ := h
  exact ⟨cs, (hb.block _ hlt).trans h1, h2⟩
/-- Rows of octets, of the call's own. -/
abbrev KRows : Kd (List Int) := Kd.slice 5 (Kd.int .u8)
def Rows (W : World) (B : Nat) (v : Value) (R : List (List Int)) : Prop := Kd.R KRows 22 W B (fun _ => True) v R
theorem Rows.fr {S : List Nat} {W W' : World} {B : Nat} {v : Value} {R : List (List Int)} (h : Rows W B v R) (hF : Fr S W W') (hS : ∀ k, k ∈ S → k < B) : Rows W' B v R :=
  Kd.R_mono (Kd.R_step (Kd.R_bound h) (fun k hk hlt => hF.2.2.2.2 k hlt (fun hm => Nat.not_lt.2 hk.2.1 (hS k hm)))) (fun _ _ => trivial)
theorem Rows.onB {W W' : World} {B : Nat} {v : Value} {R : List (List Int)} (h : Rows W B v R) (hb : Below W.heap.size W W') : Rows W' B v R := Kd.R_below h hb
end Go.Proofs.YtnehminojlocoaaDoor.PAll
namespace Go.Proofs.YtnehminojlocoaaDoor.PAll
open Go.RowKit Go.Proofs.YtnehminojlocoaaDoorW.PrintWords Go.Proofs.YtnehminojlocoaaDoorW.PrintLast Go.Proofs.YtnehminojlocoaaDoorW.PrintMore
set_option linter.unusedVariables false
set_option linter.unusedSimpArgs false
def TD (t : TypeId) : Option Ty :=
  match t with
  | 33 => some (.st [0, 1, 2])
  | 24 => some (.arr 2)
  | t => TT t
set_option maxHeartbeats 4000000 in
theorem tabOkD : TabOk Tryd.prog TD := by
  intro t y h
  unfold TD at h
  split at h
  · obtain rfl := Option.some.inj h
    refine ⟨_, Tryd.underlying33, fun f o h => ?_⟩
    match f, h with
    | 0, h =>
      obtain rfl := Option.some.inj h
      exact ⟨_, rfl, rfl, 0, fun w => Tryd.sizeOf5 w⟩
    | 1, h =>
      obtain rfl := Option.some.inj h
      exact ⟨_, rfl, rfl, 0, fun w => Tryd.sizeOf22 w⟩
    | 2, h =>
      obtain rfl := Option.some.inj h
      exact ⟨_, rfl, rfl, 0, fun w => Tryd.sizeOf31 w⟩
  · obtain rfl := Option.some.inj h
    exact ⟨_, Tryd.underlying24, Tryd.sizeOf3, Tryd.isAgg24, Tryd.sizeOf24, Tryd.isAgg3⟩
  · exact tabOk _ _ h
/-- A step's cells. -/
def stp (k : Int) (A : Option Addr) (n c : Nat) (sd : Int) : Nat → Value := fun i => if i = 0 then .int .u8 k else if i = 1 then .slice A n c else .int .u64 sd
/-- What is known while HighwayRun runs: the digest in block g holds L, block t holds what is told at the end, v holds the sums R. -/
structure HInv (w : World) (B g t sz : Nat) (y : Nat → Int) (W : World) (v : Value) (L : List Int) (R : List (List Int)) : Prop where
  dig : ∃ s z q, (Dig g (hT sz) s y z q sz).In W ∧ HoldL y L s z q
  told : (⟨t, 24, 2, fun _ => .int .i64 0⟩ : Bl).In W
  rows : Rows W B v R
  below : Below w.heap.size w W
  gB : g < B
  tB : t < B
  wg : w.heap.size ≤ g
  wt : w.heap.size ≤ t
  gt : g ≠ t
  BW : B ≤ W.heap.size
theorem HInv.keep {w : World} {B g t sz : Nat} {y : Nat → Int} {W W' : World} {v : Value} {L : List Int} {R : List (List Int)} (h : HInv w B g t sz y W v L R) (hb : Below W.heap.size W W') : HInv w B g t sz y W' v L R := by
  obtain ⟨s, z, q, h1, h2⟩ := h.dig
  have hF : Fr [] W W' := Fr.ofBelow [] hb
  exact ⟨⟨s, z, q, h1.on hF (by simp), h2⟩, h.told.on hF (by simp), h.rows.onB hb, h.below.trans (hb.mono h.below.size), h.gB, h.tB, h.wg, h.wt, h.gt, Nat.le_trans h.BW hF.size⟩
/-- The digest is written to. -/
theorem HInv.put {w : World} {B g t sz : Nat} {y : Nat → Int} {W W' : World} {v : Value} {L L' : List Int} {R : List (List Int)} (h : HInv w B g t sz y W v L R) (hF : Fr [g] W W') {s z : Nat → Int} {q : Nat} (hd : (Dig g (hT sz) s y z q sz).In W') (hh : HoldL y L' s z q) : HInv w B g t sz y W' v L' R :=
  ⟨⟨s, z, q, hd, hh⟩, h.told.on hF (by simp; exact Ne.symm h.gt), h.rows.fr hF (fun k hk => by simp at hk; subst hk; exact h.gB), h.below.trans (hF.below _ h.below.size (by simp; exact h.wg)), h.gB, h.tB, h.wg, h.wt, h.gt, Nat.le_trans h.BW hF.size⟩
theorem meth_Write (sz : Nat) (hsz : sz = 8 ∨ sz = 16 ∨ sz = 32) (g : Nat) (w : World) : (method (Tryd.prog.types.size + Made.depth) (hU sz) (.pointer (some ⟨g, 0, none⟩)) "Write").run Tryd.prog w = .ok (73, .pointer (some ⟨g, 0, none⟩)) w := by
  rcases hsz with rfl | rfl | rfl <;> kernel_rfl
theorem ahead_Write (sz : Nat) (hsz : sz = 8 ∨ sz = 16 ∨ sz = 32) (g : Nat) (w : World) : (nilAhead (Tryd.prog.types.size + Made.depth) (hU sz) (.pointer (some ⟨g, 0, none⟩)) "Write").run Tryd.prog w = .ok (some false) w := by
  rcases hsz with rfl | rfl | rfl <;> kernel_rfl
theorem meth_Sum (sz : Nat) (hsz : sz = 8 ∨ sz = 16 ∨ sz = 32) (g : Nat) (w : World) : (method (Tryd.prog.types.size + Made.depth) (hU sz) (.pointer (some ⟨g, 0, none⟩)) "Sum").run Tryd.prog w = .ok (71, .pointer (some ⟨g, 0, none⟩)) w := by
  rcases hsz with rfl | rfl | rfl <;> kernel_rfl
theorem ahead_Sum (sz : Nat) (hsz : sz = 8 ∨ sz = 16 ∨ sz = 32) (g : Nat) (w : World) : (nilAhead (Tryd.prog.types.size + Made.depth) (hU sz) (.pointer (some ⟨g, 0, none⟩)) "Sum").run Tryd.prog w = .ok (some false) w := by
  rcases hsz with rfl | rfl | rfl <;> kernel_rfl
theorem meth_Reset (sz : Nat) (hsz : sz = 8 ∨ sz = 16 ∨ sz = 32) (g : Nat) (w : World) : (method (Tryd.prog.types.size + Made.depth) (hU sz) (.pointer (some ⟨g, 0, none⟩)) "Reset").run Tryd.prog w = .ok (44, .pointer (some ⟨g, 0, none⟩)) w := by
  rcases hsz with rfl | rfl | rfl <;> kernel_rfl
theorem meth_Size (sz : Nat) (hsz : sz = 8 ∨ sz = 16 ∨ sz = 32) (g : Nat) (w : World) : (method (Tryd.prog.types.size + Made.depth) (hU sz) (.pointer (some ⟨g, 0, none⟩)) "Size").run Tryd.prog w = .ok (70, .pointer (some ⟨g, 0, none⟩)) w := by
  rcases hsz with rfl | rfl | rfl <;> kernel_rfl
theorem meth_BlockSize (sz : Nat) (hsz : sz = 8 ∨ sz = 16 ∨ sz = 32) (g : Nat) (w : World) : (method (Tryd.prog.types.size + Made.depth) (hU sz) (.pointer (some ⟨g, 0, none⟩)) "BlockSize").run Tryd.prog w = .ok (69, .pointer (some ⟨g, 0, none⟩)) w := by
  rcases hsz with rfl | rfl | rfl <;> kernel_rfl
theorem meth_Sum64 (g : Nat) (w : World) : (method (Tryd.prog.types.size + Made.depth) (hU 8) (.pointer (some ⟨g, 0, none⟩)) "Sum64").run Tryd.prog w = .ok (72, .pointer (some ⟨g, 0, none⟩)) w := by kernel_rfl
theorem assert_64 (g : Nat) (w : World) : (Instr.typeAssert (.iface (hU 8) (.pointer (some ⟨g, 0, none⟩))) 44 52 true).run Tryd.prog w = .ok (.tuple #[.iface (hU 8) (.pointer (some ⟨g, 0, none⟩)), .bool true]) w := by kernel_rfl
theorem eq_err (w : World) : (Op.equal 48 .nilIface .nilIface).run Tryd.prog w = .ok true w := by kernel_rfl
noncomputable def c7_loop : Code := match Tryd.f7.body with
  | some (.seq _ (.seq _ (.seq _ (.seq _ (.seq (.seq _ (.block _ (.loop c))) _))))) => c
  | _ => .skip
noncomputable def c7_end : Code := match Tryd.f7.body with
  | some (.seq _ (.seq _ (.seq _ (.seq _ (.seq _ c))))) => c
  | _ => .skip
noncomputable def c7_b2 : Code := match c7_loop with
  | .seq _ (.seq _ (.seq (.block _ (.seq _ (.seq _ (.block _ c)))) _)) => c
  | _ => .skip
noncomputable def cThen : Code → Code
  | .seq _ (.cond _ c _) => c
  | _ => .skip
noncomputable def cElse : Code → Code
  | .seq _ (.cond _ _ c) => c
  | _ => .skip
set_option maxHeartbeats 8000000 in
set_option maxRecDepth 100000 in
theorem run_k0 (w W : World) (B g t sz e n c q : Nat) (A : Option Addr) (k sd : Int) (A1 : Option Addr) (c1 : Nat) (l : List Int) (y : Nat → Int) (v : Value) (L : List Int) (R : List (List Int)) (a : Act) (Q : Exit → Act → World → Prop) (hsz : sz = 8 ∨ sz = 16 ∨ sz = 32)
    (hI : HInv w B g t sz y W v L R) (he : (⟨e, 33, 3, stp k A1 l.length c1 sd⟩ : Bl).In W) (heB : B ≤ e)
    (hC : Kd.C (Kd.int .u8) W A1 l.length l) (hc1 : l.length ≤ c1) (hl : l.length < 1048576)
    (h0 : Has 104 (bn [e]) [(8, .v v), (9, .v (.bool true)), (10, .v (.pointer (some ⟨t, 0, none⟩))), (11, .v (.bool true)), (12, .v (.iface (hU sz) (.pointer (some ⟨g, 0, none⟩)))), (14, .p 0 0), (29, .v (.slice A n c)), (30, .v (.int .i64 (n : Int))), (31, .v (.int .i64 (q : Int))), (36, .v (.int .u8 k))] a) (hQ : ∀ c (a a' : Act) w, a'.defers = a.defers → Q (.panic c) a w → Q (.panic c) a' w)
    (hK : ∀ a' W' v', Has 104 (bn []) [(8, .v v'), (9, .v (.bool true)), (10, .v (.pointer (some ⟨t, 0, none⟩))), (11, .v (.bool true)), (12, .v (.iface (hU sz) (.pointer (some ⟨g, 0, none⟩)))), (29, .v (.slice A n c)), (30, .v (.int .i64 (n : Int))), (31, .v (.int .i64 (q : Int)))] a' → a'.defers = a.defers → HInv w B g t sz y W' v' (L ++ l) (R) → W.heap.size ≤ W'.heap.size → Q .normal a' W') : Code.wp Tryd.prog (cThen c7_b2) Q a W := by
  have hM0 : Mw (bn [e]) [⟨e, 33, 3, stp k A1 l.length c1 sd⟩] W := ⟨bg_bn _, he, by simp, trivial⟩
  have hge : g ≠ e := by have := hI.gB; omega
  refine wp_seq ?_
  let SS : World → Prop := fun V => V.cell? ⟨e, 1, none⟩ = some (.slice A1 l.length c1)
  have hSM : ∀ W, SS W → MemOk (bn [e]) (fun _ _ => none) W := fun _ _ _ _ _ h => by cases h
  have hS0 : SS W := he.cell 1 (show 1 < 3 by decide)
  refine start_ (S := SS) (ds := []) (n := 13) _ (by kernel_rfl) rfl rfl (show SS W.drew from hS0) (fun hS0 => ?_)
  refine segP (S := SS) (T := TD) (M := fun _ _ => none) (N := 104) tabOkD hSM (by exact fun c a a1 w hd h => hQ c a a1 w hd h) hS0 [0, 1] 11 [(8, .v v), (9, .v (.bool true)), (10, .v (.pointer (some ⟨t, 0, none⟩))), (11, .v (.bool true)), (12, .v (.iface (hU sz) (.pointer (some ⟨g, 0, none⟩)))), (14, .p 0 0), (29, .v (.slice A n c)), (30, .v (.int .i64 (n : Int))), (31, .v (.int .i64 (q : Int))), (36, .v (.int .u8 k)), (40, .v (.iface (hU sz) (.pointer (some ⟨g, 0, none⟩)))), (41, .p 0 1)] h0 (by kernel_rfl) (by kernel_rfl) ⟨by kernel_rfl, by kernel_rfl, by kernel_rfl, by kernel_rfl, by kernel_rfl, by kernel_rfl, by kernel_rfl, by kernel_rfl, by kernel_rfl, by kernel_rfl, by kernel_rfl, by kernel_rfl, trivial⟩ (fun a1 h1 d1 => ?_)
  refine segV (S := SS) (N := 104) (i := 2) (d := 42) (s := .v (.slice A1 l.length c1)) (by exact fun c a a1 w hd h => hQ c a a1 w hd h) hS0 h1 rfl rfl rfl (by decide) (by kernel_rfl) (fun W' hW => op_load rfl (h1.2 41 _ rfl) Tryd.isAgg22 hW) (fun a2 h2 d2 => ?_)
  refine segV (S := SS) (N := 104) (i := 4) (d := 44) (s := .v (.func (.method "Write") #[.iface (hU sz) (.pointer (some ⟨g, 0, none⟩))] #[])) (by exact fun c a a1 w hd h => hQ c a a1 w hd h) hS0 h2 rfl rfl rfl (by decide) (by kernel_rfl) (fun W' hW => op_makeFunc1 rfl (h2.2 40 _ rfl)) (fun a3 h3 d3 => ?_)
  refine segV (S := SS) (N := 104) (i := 5) (d := 45) (s := .v (.func (.method "Write") #[.iface (hU sz) (.pointer (some ⟨g, 0, none⟩))] #[])) (by exact fun c a a1 w hd h => hQ c a a1 w hd h) hS0 h3 rfl rfl rfl (by decide) (by kernel_rfl) (fun W' hW => op_nilFunc rfl (h3.2 44 _ rfl) (ahead_Write sz hsz g)) (fun a4 h4 d4 => ?_)
  refine segP (S := SS) (T := TD) (M := fun _ _ => none) (N := 104) tabOkD hSM (by exact fun c a a1 w hd h => hQ c a a1 w hd h) hS0 [6] 7 [(8, .v v), (9, .v (.bool true)), (10, .v (.pointer (some ⟨t, 0, none⟩))), (11, .v (.bool true)), (12, .v (.iface (hU sz) (.pointer (some ⟨g, 0, none⟩)))), (14, .p 0 0), (29, .v (.slice A n c)), (30, .v (.int .i64 (n : Int))), (31, .v (.int .i64 (q : Int))), (36, .v (.int .u8 k)), (42, .v (.slice A1 l.length c1)), (46, .v (.iface (hU sz) (.pointer (some ⟨g, 0, none⟩))))] h4 (by kernel_rfl) (by kernel_rfl) ⟨by kernel_rfl, by kernel_rfl, by kernel_rfl, by kernel_rfl, by kernel_rfl, by kernel_rfl, by kernel_rfl, by kernel_rfl, by kernel_rfl, by kernel_rfl, by kernel_rfl, by kernel_rfl, trivial⟩ (fun a5 h5 d5 => ?_)
  refine stepR (S := SS) (N := 104) (j := 3) (d := 43) (f := 16) (args := [.v (.slice A1 l.length c1)]) h5 (by kernel_rfl) (by kernel_rfl) Tryd.func16 rfl rfl (fun v1 W1 => Kd.R (Kd.int .u8) 5 W1 W.heap.size (fun _ => True) v1 l ∧ Below W.heap.size W W1) (fun v1 W1 hh => (hh.2.cell (World.block_lt_of_cell? W _ hS0)).trans hS0) ((impl_own.calls A1 c1 l l W.drew hC hc1 (own_law l (by omega))).mono fun e' W' hh => ?_) (fun a6 v6 W6 h6 d6 hR => ?_)
  · obtain ⟨v1, e1, e2, e3⟩ := hh
    exact ⟨v1, e1, e2, ((Below.refl W.heap.size W).drew).trans e3⟩
  obtain ⟨hR6, hb6⟩ := hR
  obtain ⟨A6, c6, b6, rfl, hc6, hA6, hx6⟩ := R_bts2 hR6
  have hI6 := hI.keep hb6
  obtain ⟨s, z, q6, hd6, hh6⟩ := hI6.dig
  have P := write_walk g (hT sz) b6 0 l.length c6 sz q6 A6 s y z (lx l) W6 (fun hp => by have := (hA6 hp).2; have := hI.gB; have := hI.BW; omega) hd6 (holdL_lt hh6) (by omega) hc6 (fun hp => (hA6 hp).1) hx6
  refine stepI (S := SS) (N := 104) (j := 7) (d := 47) (f := 73) (nm := "Write") (t := hU sz) (u := .pointer (some ⟨g, 0, none⟩)) (u' := .pointer (some ⟨g, 0, none⟩)) (args := [.v (.slice A6 l.length c6)]) h6 (by kernel_rfl) (by kernel_rfl) Tryd.func73 rfl rfl (meth_Write sz hsz g) (fun v1 W1 => v1 = .tuple #[.int .i64 (l.length : Int), .nilIface] ∧ (Dig g (hT sz) (wrS s z q6 (lx l) l.length) y (wrZ z q6 (lx l) l.length) (wrQ q6 l.length) sz).In W1 ∧ Fr [g] W6 W1) (fun v1 W1 hh => ?_) (P.mono fun e' W' hh => ⟨_, hh.1, rfl, hh.2.1, hh.2.2⟩) (fun a7 v7 W7 h7 d7 hR => ?_)
  · show W1.cell? _ = _
    rw [hh.2.2.cell ((hb6.cell (World.block_lt_of_cell? W _ hS0)).trans hS0) (by simp; exact Ne.symm hge)]
  obtain ⟨rfl, hd7, hF7⟩ := hR
  have hS7 : SS W7 := hF7.cell ((hb6.cell (World.block_lt_of_cell? W _ hS0)).trans hS0) (by simp; exact Ne.symm hge)
  refine segP (S := SS) (T := TD) (M := fun _ _ => none) (N := 104) tabOkD hSM (by exact fun c a a1 w hd h => hQ c a a1 w hd h) hS7 [8, 9, 10, 11, 12] 0 [(8, .v v), (9, .v (.bool true)), (10, .v (.pointer (some ⟨t, 0, none⟩))), (11, .v (.bool true)), (12, .v (.iface (hU sz) (.pointer (some ⟨g, 0, none⟩)))), (14, .p 0 0), (15, .v (.int .i64 (l.length : Int))), (16, .v .nilIface), (29, .v (.slice A n c)), (30, .v (.int .i64 (n : Int))), (31, .v (.int .i64 (q : Int))), (36, .v (.int .u8 k))] h7 (by kernel_rfl) (by kernel_rfl) ⟨by kernel_rfl, by kernel_rfl, by kernel_rfl, by kernel_rfl, by kernel_rfl, by kernel_rfl, by kernel_rfl, by kernel_rfl, by kernel_rfl, by kernel_rfl, by kernel_rfl, by kernel_rfl, trivial⟩ (fun a8 h8 d8 => ?_)
  refine segE (by kernel_rfl) ?_
  have hI7 := hI6.put hF7 hd7 (holdL_write l hh6)
  have he7 : (⟨e, 33, 3, stp k A1 l.length c1 sd⟩ : Bl).In W7 := (he.on (Fr.ofBelow [] hb6) (by simp)).on hF7 (by simp; exact Ne.symm hge)
  have sW7 : W.heap.size ≤ W7.heap.size := Nat.le_trans hb6.size hF7.size
  replace d8 := d8.trans (d7.trans (d6.trans (d5.trans (d4.trans (d3.trans (d2.trans d1))))))
  clear h1 h2 h3 h4 h5 h6 h7 d1 d2 d3 d4 d5 d6 d7 P hd7 hx6 hR6 hS0
  show Code.wp _ _ _ _ _
  have M8 : Mw (bn [e]) [⟨e, 33, 3, stp k A1 l.length c1 sd⟩] W7 := ⟨bg_bn _, he7, by simp, trivial⟩
  refine wp_region ?_
  refine opsP (N := 104) (T := TD) (M := bm [⟨e, 33, 3, stp k A1 l.length c1 sd⟩]) tabOkD M8.mem [2, 3, 4, 5, 6, 7, 8, 9, 10, 11, 12] [0, 1] [(8, .v v), (9, .v (.bool true)), (10, .v (.pointer (some ⟨t, 0, none⟩))), (11, .v (.bool true)), (12, .v (.iface (hU sz) (.pointer (some ⟨g, 0, none⟩)))), (14, .p 0 0), (15, .v (.int .i64 (l.length : Int))), (16, .v .nilIface), (29, .v (.slice A n c)), (30, .v (.int .i64 (n : Int))), (31, .v (.int .i64 (q : Int))), (36, .v (.int .u8 k)), (51, .v (.bool true))] h8 (by kernel_rfl) ⟨by kernel_rfl, by kernel_rfl, by kernel_rfl, by kernel_rfl, by kernel_rfl, by kernel_rfl, by kernel_rfl, by kernel_rfl, by kernel_rfl, by kernel_rfl, by kernel_rfl, by kernel_rfl, by kernel_rfl, trivial⟩ (fun a9 h9 d9 => ?_)
  refine guard_ops (N := 104) (T := TD) (M := bm [⟨e, 33, 3, stp k A1 l.length c1 sd⟩]) tabOkD (i := 2) (d := 52) (j := 1) (dj := 51) (b := true) (s := .v (.int .i64 (l.length : Int))) M8.mem rfl rfl rfl rfl rfl (by decide) h9 (by kernel_rfl) (fun a10 h10 d10 => ?_)
  refine guard_ops (N := 104) (T := TD) (M := bm [⟨e, 33, 3, stp k A1 l.length c1 sd⟩]) tabOkD (i := 3) (d := 53) (j := 1) (dj := 51) (b := true) (s := .p 0 1) M8.mem rfl rfl rfl rfl rfl (by decide) h10 (by kernel_rfl) (fun a11 h11 d11 => ?_)
  refine givenW_ops (N := 104) (i := 4) (d := 54) (s := .v (.slice A1 l.length c1)) rfl (want_g h11 (j := 1) (d := 51) (b := true) rfl rfl rfl) rfl (by decide) h11 (op_load rfl (h11.2 53 _ rfl) Tryd.isAgg22 (he7.cell 1 (show 1 < 3 by decide))) (fun a12 h12 d12 => ?_)
  refine guard_ops (N := 104) (T := TD) (M := bm [⟨e, 33, 3, stp k A1 l.length c1 sd⟩]) tabOkD (i := 5) (d := 55) (j := 1) (dj := 51) (b := true) (s := .v (.int .i64 (l.length : Int))) M8.mem rfl rfl rfl rfl rfl (by decide) h12 (by kernel_rfl) (fun a13 h13 d13 => ?_)
  refine guard_ops (N := 104) (T := TD) (M := bm [⟨e, 33, 3, stp k A1 l.length c1 sd⟩]) tabOkD (i := 6) (d := 56) (j := 1) (dj := 51) (b := true) (s := .v (.bool ((l.length : Int) == (l.length : Int)))) M8.mem rfl rfl rfl rfl rfl (by decide) h13 (by kernel_rfl) (fun a14 h14 d14 => ?_)
  rw [show ((l.length : Int) == (l.length : Int)) = true from beq_self_eq_true _] at h14
  refine givenW_ops (N := 104) (i := 7) (d := 57) (s := .v (.bool true)) rfl (want_ rfl) rfl (by decide) h14 (op_pickT rfl (h14.2 51 _ rfl) (h14.2 56 _ rfl)) (fun a15 h15 d15 => ?_)
  refine opsP (N := 104) (T := TD) (M := bm [⟨e, 33, 3, stp k A1 l.length c1 sd⟩]) tabOkD M8.mem [9, 10, 11, 12] [8] [(8, .v v), (9, .v (.bool true)), (10, .v (.pointer (some ⟨t, 0, none⟩))), (11, .v (.bool true)), (12, .v (.iface (hU sz) (.pointer (some ⟨g, 0, none⟩)))), (14, .p 0 0), (16, .v .nilIface), (29, .v (.slice A n c)), (30, .v (.int .i64 (n : Int))), (31, .v (.int .i64 (q : Int))), (36, .v (.int .u8 k)), (58, .v (.bool true))] h15 (by kernel_rfl) ⟨by kernel_rfl, by kernel_rfl, by kernel_rfl, by kernel_rfl, by kernel_rfl, by kernel_rfl, by kernel_rfl, by kernel_rfl, by kernel_rfl, by kernel_rfl, by kernel_rfl, by kernel_rfl, trivial⟩ (fun a16 h16 d16 => ?_)
  refine guard_ops (N := 104) (T := TD) (M := bm [⟨e, 33, 3, stp k A1 l.length c1 sd⟩]) tabOkD (i := 9) (d := 59) (j := 8) (dj := 58) (b := true) (s := .v .nilIface) M8.mem rfl rfl rfl rfl rfl (by decide) h16 (by kernel_rfl) (fun a17 h17 d17 => ?_)
  refine givenW_ops (N := 104) (i := 10) (d := 60) (s := .v (.bool true)) rfl (want_g h17 (j := 8) (d := 58) (b := true) rfl rfl rfl) rfl (by decide) h17 (op_eqNil rfl (h17.2 59 _ rfl) rfl eq_err) (fun a18 h18 d18 => ?_)
  refine givenW_ops (N := 104) (i := 11) (d := 61) (s := .v (.bool true)) rfl (want_ rfl) rfl (by decide) h18 (op_pickT rfl (h18.2 58 _ rfl) (h18.2 60 _ rfl)) (fun a19 h19 d19 => ?_)
  refine opsP (N := 104) (T := TD) (M := bm [⟨e, 33, 3, stp k A1 l.length c1 sd⟩]) tabOkD M8.mem [] [12] [(8, .v v), (9, .v (.bool true)), (10, .v (.pointer (some ⟨t, 0, none⟩))), (11, .v (.bool true)), (12, .v (.iface (hU sz) (.pointer (some ⟨g, 0, none⟩)))), (14, .p 0 0), (29, .v (.slice A n c)), (30, .v (.int .i64 (n : Int))), (31, .v (.int .i64 (q : Int))), (36, .v (.int .u8 k))] h19 (by kernel_rfl) ⟨by kernel_rfl, by kernel_rfl, by kernel_rfl, by kernel_rfl, by kernel_rfl, by kernel_rfl, by kernel_rfl, by kernel_rfl, by kernel_rfl, by kernel_rfl, trivial⟩ (fun a20 h20 d20 => ?_)
  exact hK a20 W7 v (has_list (β := bn []) (a := a20) h20.1 (E := [(8, .v v), (9, .v (.bool true)), (10, .v (.pointer (some ⟨t, 0, none⟩))), (11, .v (.bool true)), (12, .v (.iface (hU sz) (.pointer (some ⟨g, 0, none⟩)))), (29, .v (.slice A n c)), (30, .v (.int .i64 (n : Int))), (31, .v (.int .i64 (q : Int)))]) ⟨h20.2 8 _ rfl, h20.2 9 _ rfl, h20.2 10 _ rfl, h20.2 11 _ rfl, h20.2 12 _ rfl, h20.2 29 _ rfl, h20.2 30 _ rfl, h20.2 31 _ rfl, trivial⟩) (d20.trans (d19.trans (d18.trans (d17.trans (d16.trans (d15.trans (d14.trans (d13.trans (d12.trans (d11.trans (d10.trans (d9.trans d8)))))))))))) hI7 sW7
theorem HInv.push {w : World} {B g t sz : Nat} {y : Nat → Int} {W w1 : World} {v v1 : Value} {L : List Int} {R R' : List (List Int)} (h : HInv w B g t sz y W v L R) (hb : Below B W w1) (hr : Rows w1 B v1 R') : HInv w B g t sz y w1 v1 L R' := by
  obtain ⟨s, z, q, h1, h2⟩ := h.dig
  exact ⟨⟨s, z, q, h1.below hb h.gB, h2⟩, h.told.below hb h.tB, hr, h.below.trans (hb.mono (by have := h.wg; have := h.gB; omega)), h.gB, h.tB, h.wg, h.wt, h.gt, Nat.le_trans h.BW hb.size⟩
theorem sumS_len (sz : Nat) (hsz : sz = 8 ∨ sz = 16 ∨ sz = 32) (S : Nat → Int) : (sumS (sz : Int) S).length = sz := by
  rcases hsz with rfl | rfl | rfl <;> simp [sumS]
theorem sum_dig (sz : Nat) (hsz : sz = 8 ∨ sz = 16 ∨ sz = 32) (base g T q : Nat) (bv : Value) (l : List Int) (s y z : Nat → Int) (w : World) (hd : (Dig g T s y z q sz).In w) (hq : q < 32) (hgb : g < base) (hbase : base ≤ w.heap.size) (HO : Kd.R (Kd.int .u8) 5 w base (fun _ => True) bv l) (hl : l.length < 70368744177664) :
    Calls Tryd.prog 71 #[.pointer (some ⟨g, 0, none⟩), bv] w fun e w' => ∃ v, e = .returned v ∧ Kd.R (Kd.int .u8) 5 w' base (fun _ => True) v (l ++ sumS (sz : Int) (dgS s z q)) ∧ Below base w w' := by
  rcases hsz with rfl | rfl | rfl
  · exact sum8_dig base g T q bv l s y z w hd hq hgb hbase HO hl
  · exact sum16_dig base g T q bv l s y z w hd hq hgb hbase HO hl
  · exact sum32_dig base g T q bv l s y z w hd hq hgb hbase HO hl
set_option maxHeartbeats 8000000 in
set_option maxRecDepth 100000 in
theorem run_k1 (w W : World) (B g t sz e n c q : Nat) (A : Option Addr) (k sd : Int) (A1 : Option Addr) (c1 : Nat) (l : List Int) (y : Nat → Int) (v : Value) (L : List Int) (R : List (List Int)) (a : Act) (Q : Exit → Act → World → Prop) (hsz : sz = 8 ∨ sz = 16 ∨ sz = 32)
    (hI : HInv w B g t sz y W v L R) (he : (⟨e, 33, 3, stp k A1 l.length c1 sd⟩ : Bl).In W) (heB : B ≤ e)
    (hC : Kd.C (Kd.int .u8) W A1 l.length l) (hc1 : l.length ≤ c1) (hl : l.length < 1048576) (hR : R.length < 1048576)
    (h0 : Has 104 (bn [e]) [(8, .v v), (9, .v (.bool true)), (10, .v (.pointer (some ⟨t, 0, none⟩))), (11, .v (.bool true)), (12, .v (.iface (hU sz) (.pointer (some ⟨g, 0, none⟩)))), (14, .p 0 0), (29, .v (.slice A n c)), (30, .v (.int .i64 (n : Int))), (31, .v (.int .i64 (q : Int))), (36, .v (.int .u8 k))] a) (hQ : ∀ c (a a' : Act) w, a'.defers = a.defers → Q (.panic c) a w → Q (.panic c) a' w)
    (hK : ∀ a' W' v', Has 104 (bn []) [(8, .v v'), (9, .v (.bool true)), (10, .v (.pointer (some ⟨t, 0, none⟩))), (11, .v (.bool true)), (12, .v (.iface (hU sz) (.pointer (some ⟨g, 0, none⟩)))), (29, .v (.slice A n c)), (30, .v (.int .i64 (n : Int))), (31, .v (.int .i64 (q : Int)))] a' → a'.defers = a.defers → HInv w B g t sz y W' v' (L) (R ++ [(l ++ sumS (sz : Int) (hvS y (lx L) L.length))]) → W.heap.size ≤ W'.heap.size → Q .normal a' W') : Code.wp Tryd.prog (cThen (cElse c7_b2)) Q a W := by
  have hgB := hI.gB
  have hBW := hI.BW
  have hge : g ≠ e := by omega
  have hvl : ∀ k, v.ownBlock = some k → k < W.heap.size := by
    obtain ⟨inner, ho⟩ := Kd.R_own hI.rows
    exact own_lt ho
  have hve : some e ≠ v.ownBlock := by
    obtain ⟨cs, h1, _⟩ := he
    exact Kd.R_ne hI.rows h1 (show 22 ≠ 33 by decide)
  have heW : e < W.heap.size := he.lt
  let SS : World → Prop := fun V => V.cell? ⟨e, 1, none⟩ = some (.slice A1 l.length c1)
  have hSM : ∀ W, SS W → MemOk (bn [e]) (fun _ _ => none) W := fun _ _ _ _ _ h => by cases h
  have hS0 : SS W := he.cell 1 (show 1 < 3 by decide)
  refine start_ (S := SS) (ds := []) (n := 13) _ (by kernel_rfl) rfl rfl (show SS W.drew from hS0) (fun hS0 => ?_)
  refine segP (S := SS) (T := TD) (M := fun _ _ => none) (N := 104) tabOkD hSM (by exact fun c a a1 w hd h => hQ c a a1 w hd h) hS0 [0, 1, 2] 10 [(8, .v v), (9, .v (.bool true)), (10, .v (.pointer (some ⟨t, 0, none⟩))), (11, .v (.bool true)), (12, .v (.iface (hU sz) (.pointer (some ⟨g, 0, none⟩)))), (14, .p 0 0), (29, .v (.slice A n c)), (30, .v (.int .i64 (n : Int))), (31, .v (.int .i64 (q : Int))), (36, .v (.int .u8 k)), (64, .v v), (65, .v (.iface (hU sz) (.pointer (some ⟨g, 0, none⟩)))), (66, .p 0 1)] h0 (by kernel_rfl) (by kernel_rfl) ⟨by kernel_rfl, by kernel_rfl, by kernel_rfl, by kernel_rfl, by kernel_rfl, by kernel_rfl, by kernel_rfl, by kernel_rfl, by kernel_rfl, by kernel_rfl, by kernel_rfl, by kernel_rfl, by kernel_rfl, trivial⟩ (fun a1 h1 d1 => ?_)
  refine segV (S := SS) (N := 104) (i := 3) (d := 67) (s := .v (.slice A1 l.length c1)) (by exact fun c a a1 w hd h => hQ c a a1 w hd h) hS0 h1 rfl rfl rfl (by decide) (by kernel_rfl) (fun W' hW => op_load rfl (h1.2 66 _ rfl) Tryd.isAgg22 hW) (fun a2 h2 d2 => ?_)
  refine segV (S := SS) (N := 104) (i := 5) (d := 69) (s := .v (.func (.method "Sum") #[.iface (hU sz) (.pointer (some ⟨g, 0, none⟩))] #[])) (by exact fun c a a1 w hd h => hQ c a a1 w hd h) hS0 h2 rfl rfl rfl (by decide) (by kernel_rfl) (fun W' hW => op_makeFunc1 rfl (h2.2 65 _ rfl)) (fun a3 h3 d3 => ?_)
  refine segV (S := SS) (N := 104) (i := 6) (d := 70) (s := .v (.func (.method "Sum") #[.iface (hU sz) (.pointer (some ⟨g, 0, none⟩))] #[])) (by exact fun c a a1 w hd h => hQ c a a1 w hd h) hS0 h3 rfl rfl rfl (by decide) (by kernel_rfl) (fun W' hW => op_nilFunc rfl (h3.2 69 _ rfl) (ahead_Sum sz hsz g)) (fun a4 h4 d4 => ?_)
  refine segP (S := SS) (T := TD) (M := fun _ _ => none) (N := 104) tabOkD hSM (by exact fun c a a1 w hd h => hQ c a a1 w hd h) hS0 [7] 6 [(8, .v v), (9, .v (.bool true)), (10, .v (.pointer (some ⟨t, 0, none⟩))), (11, .v (.bool true)), (12, .v (.iface (hU sz) (.pointer (some ⟨g, 0, none⟩)))), (14, .p 0 0), (29, .v (.slice A n c)), (30, .v (.int .i64 (n : Int))), (31, .v (.int .i64 (q : Int))), (36, .v (.int .u8 k)), (64, .v v), (67, .v (.slice A1 l.length c1)), (71, .v (.iface (hU sz) (.pointer (some ⟨g, 0, none⟩))))] h4 (by kernel_rfl) (by kernel_rfl) ⟨by kernel_rfl, by kernel_rfl, by kernel_rfl, by kernel_rfl, by kernel_rfl, by kernel_rfl, by kernel_rfl, by kernel_rfl, by kernel_rfl, by kernel_rfl, by kernel_rfl, by kernel_rfl, by kernel_rfl, trivial⟩ (fun a5 h5 d5 => ?_)
  refine stepR (S := SS) (N := 104) (j := 4) (d := 68) (f := 16) (args := [.v (.slice A1 l.length c1)]) h5 (by kernel_rfl) (by kernel_rfl) Tryd.func16 rfl rfl (fun v1 W1 => Kd.R (Kd.int .u8) 5 W1 W.heap.size (fun _ => True) v1 l ∧ Below W.heap.size W W1) (fun v1 W1 hh => (hh.2.cell (World.block_lt_of_cell? W _ hS0)).trans hS0) ((impl_own.calls A1 c1 l l W.drew hC hc1 (own_law l (by omega))).mono fun e' W' hh => ?_) (fun a6 v6 W6 h6 d6 hR6 => ?_)
  · obtain ⟨v1, e1, e2, e3⟩ := hh
    exact ⟨v1, e1, e2, ((Below.refl W.heap.size W).drew).trans e3⟩
  obtain ⟨hR6, hb6⟩ := hR6
  have hI6 := hI.keep hb6
  obtain ⟨s, z, q6, hd6, hh6⟩ := hI6.dig
  have P := sum_dig sz hsz W.heap.size g (hT sz) q6 v6 l s y z W6 hd6 (holdL_lt hh6) (by omega) hb6.size hR6 (by omega)
  rw [holdL_sum hh6] at P
  refine stepI (S := SS) (N := 104) (j := 8) (d := 72) (f := 71) (nm := "Sum") (t := hU sz) (u := .pointer (some ⟨g, 0, none⟩)) (u' := .pointer (some ⟨g, 0, none⟩)) (args := [.v v6]) h6 (by kernel_rfl) (by kernel_rfl) Tryd.func71 rfl rfl (meth_Sum sz hsz g) (fun v1 W1 => Kd.R (Kd.int .u8) 5 W1 W.heap.size (fun _ => True) v1 (l ++ sumS (sz : Int) (hvS y (lx L) L.length)) ∧ Below W.heap.size W W1) (fun v1 W1 hh => (hh.2.cell (World.block_lt_of_cell? W _ hS0)).trans hS0) (P.mono fun e' W' hh => ?_) (fun a7 v7 W7 h7 d7 hR7 => ?_)
  · obtain ⟨v1, e1, e2, e3⟩ := hh
    exact ⟨v1, e1, e2, hb6.trans e3⟩
  obtain ⟨hR7, hb7⟩ := hR7
  obtain ⟨A7, c7, rfl, hc7, hC7⟩ := Kd.R_reads hR7
  have hxl : (l ++ sumS (sz : Int) (hvS y (lx L) L.length)).length < 2097152 := by
    rw [List.length_append, sumS_len sz hsz]
    omega
  refine stepR (S := SS) (N := 104) (j := 9) (d := 73) (f := 16) (args := [.v (.slice A7 (l ++ sumS (sz : Int) (hvS y (lx L) L.length)).length c7)]) h7 (by kernel_rfl) (by kernel_rfl) Tryd.func16 rfl rfl (fun v1 W1 => Kd.R (Kd.int .u8) 5 W1 W7.heap.size (fun _ => True) v1 (l ++ sumS (sz : Int) (hvS y (lx L) L.length)) ∧ Below W7.heap.size W7 W1) (fun v1 W1 hh => ((hb7.trans (hh.2.mono hb7.size)).cell (World.block_lt_of_cell? W _ hS0)).trans hS0) ((impl_own.calls A7 c7 (l ++ sumS (sz : Int) (hvS y (lx L) L.length)) (l ++ sumS (sz : Int) (hvS y (lx L) L.length)) W7 hC7 hc7 (own_law (l ++ sumS (sz : Int) (hvS y (lx L) L.length)) (by omega))).mono fun e' W' hh => ?_) (fun a8 v8 W8 h8 d8 hR8 => ?_)
  · obtain ⟨v1, e1, e2, e3⟩ := hh
    exact ⟨v1, e1, e2, e3⟩
  obtain ⟨hR8, hb8⟩ := hR8
  obtain ⟨A8, c8, rfl⟩ := Kd.R_slice hR8
  have hb8' : Below W.heap.size W W8 := hb7.trans (hb8.mono hb7.size)
  have hal : Below W.heap.size W (W8.alloc (.cells #[.slice A8 (l ++ sumS (sz : Int) (hvS y (lx L) L.length)).length c8] 22)) := hb8'.alloc hb8'.size _
  refine stepN (S := SS) (N := 104) (j := 10) (d := 74) h8 rfl rfl rfl (by decide) (by kernel_rfl) (op_buildSlice1 rfl (h8.2 73 _ rfl) (build_row W8 A8 _ c8)) ((hal.cell (World.block_lt_of_cell? W _ hS0)).trans hS0) (fun a9 h9 d9 => ?_)
  obtain ⟨hRR, hokp⟩ := one_row hR8 (Nat.le_trans hBW hb7.size) (fun k hk => Nat.lt_of_lt_of_le (hvl k hk) hb7.size)
  refine stepA (S := SS) (N := 104) (j := 11) (dst := 75) KRows (w0 := W) B h9 rfl rfl rfl (by decide) (by kernel_rfl) (.tmp 64) (.tmp 74) 23 22 (.slice none 0 0) 24 rfl Tryd.underlying23 (by kernel_rfl) rfl (by decide) (by decide) v R [(l ++ sumS (sz : Int) (hvS y (lx L) L.length))] (some ⟨W8.heap.size, 0, none⟩) 1 1 (fun _ => True) (fun k => W7.heap.size ≤ k) (h9.2 64 _ rfl) (h9.2 74 _ rfl) (hI.rows.onB hal) hRR (fun _ _ h => h) hokp (fun _ _ => trivial) (hal.mono hBW) (Nat.le_trans hBW hal.size) (by omega) (fun w1 hb1 hg1 => ?_) (fun v1 w1 a10 hv1 hb1 hg1 h10 d10 => ?_)
  · have hc := (hal.cell (World.block_lt_of_cell? W _ hS0)).trans hS0
    exact (World.cell?_of_block (hg1.block e (Nat.lt_of_lt_of_le heW hal.size) hve)).trans hc
  have hS1 : SS w1 := (World.cell?_of_block (hg1.block e (Nat.lt_of_lt_of_le heW hal.size) hve)).trans ((hal.cell (World.block_lt_of_cell? W _ hS0)).trans hS0)
  refine segP (S := SS) (T := TD) (M := fun _ _ => none) (N := 104) tabOkD hSM (by exact fun c a a1 w hd h => hQ c a a1 w hd h) hS1 [12] 0 [(8, .v v1), (9, .v (.bool true)), (10, .v (.pointer (some ⟨t, 0, none⟩))), (11, .v (.bool true)), (12, .v (.iface (hU sz) (.pointer (some ⟨g, 0, none⟩)))), (14, .p 0 0), (29, .v (.slice A n c)), (30, .v (.int .i64 (n : Int))), (31, .v (.int .i64 (q : Int))), (36, .v (.int .u8 k))] h10 (by kernel_rfl) (by kernel_rfl) ⟨by kernel_rfl, by kernel_rfl, by kernel_rfl, by kernel_rfl, by kernel_rfl, by kernel_rfl, by kernel_rfl, by kernel_rfl, by kernel_rfl, by kernel_rfl, trivial⟩ (fun a11 h11 d11 => ?_)
  refine segE (by kernel_rfl) ?_
  exact hK a11 w1 v1 (has_list (β := bn []) (a := a11) h11.1 (E := [(8, .v v1), (9, .v (.bool true)), (10, .v (.pointer (some ⟨t, 0, none⟩))), (11, .v (.bool true)), (12, .v (.iface (hU sz) (.pointer (some ⟨g, 0, none⟩)))), (29, .v (.slice A n c)), (30, .v (.int .i64 (n : Int))), (31, .v (.int .i64 (q : Int)))]) ⟨h11.2 8 _ rfl, h11.2 9 _ rfl, h11.2 10 _ rfl, h11.2 11 _ rfl, h11.2 12 _ rfl, h11.2 29 _ rfl, h11.2 30 _ rfl, h11.2 31 _ rfl, trivial⟩) (d11.trans (d10.trans (d9.trans (d8.trans (d7.trans (d6.trans (d5.trans (d4.trans (d3.trans (d2.trans d1)))))))))) (hI.push hb1 hv1) hb1.size
set_option maxHeartbeats 8000000 in
set_option maxRecDepth 100000 in
theorem run_k2 (w W : World) (B g t sz e n c q : Nat) (A : Option Addr) (k sd : Int) (A1 : Option Addr) (c1 : Nat) (l : List Int) (y : Nat → Int) (v : Value) (L : List Int) (R : List (List Int)) (a : Act) (Q : Exit → Act → World → Prop) (hsz : sz = 8 ∨ sz = 16 ∨ sz = 32)
    (hI : HInv w B g t sz y W v L R) (he : (⟨e, 33, 3, stp k A1 l.length c1 sd⟩ : Bl).In W) (heB : B ≤ e)
    (h0 : Has 104 (bn [e]) [(8, .v v), (9, .v (.bool true)), (10, .v (.pointer (some ⟨t, 0, none⟩))), (11, .v (.bool true)), (12, .v (.iface (hU sz) (.pointer (some ⟨g, 0, none⟩)))), (14, .p 0 0), (29, .v (.slice A n c)), (30, .v (.int .i64 (n : Int))), (31, .v (.int .i64 (q : Int))), (36, .v (.int .u8 k))] a) (hQ : ∀ c (a a' : Act) w, a'.defers = a.defers → Q (.panic c) a w → Q (.panic c) a' w)
    (hK : ∀ a' W' v', Has 104 (bn []) [(8, .v v'), (9, .v (.bool true)), (10, .v (.pointer (some ⟨t, 0, none⟩))), (11, .v (.bool true)), (12, .v (.iface (hU sz) (.pointer (some ⟨g, 0, none⟩)))), (29, .v (.slice A n c)), (30, .v (.int .i64 (n : Int))), (31, .v (.int .i64 (q : Int)))] a' → a'.defers = a.defers → HInv w B g t sz y W' v' ([]) (R) → W.heap.size ≤ W'.heap.size → Q .normal a' W') : Code.wp Tryd.prog (cThen (cElse (cElse c7_b2))) Q a W := by
  have hM0 : Mw (bn [e]) [⟨e, 33, 3, stp k A1 l.length c1 sd⟩] W := ⟨bg_bn _, he, by simp, trivial⟩
  obtain ⟨s, z, q6, hd6, hh6⟩ := hI.dig
  refine wp_region ?_
  refine opsP (N := 104) (T := TD) (M := bm [⟨e, 33, 3, stp k A1 l.length c1 sd⟩]) tabOkD hM0.mem [1] [0] [(8, .v v), (9, .v (.bool true)), (10, .v (.pointer (some ⟨t, 0, none⟩))), (11, .v (.bool true)), (12, .v (.iface (hU sz) (.pointer (some ⟨g, 0, none⟩)))), (14, .p 0 0), (29, .v (.slice A n c)), (30, .v (.int .i64 (n : Int))), (31, .v (.int .i64 (q : Int))), (36, .v (.int .u8 k)), (78, .v (.iface (hU sz) (.pointer (some ⟨g, 0, none⟩))))] h0 (by kernel_rfl) ⟨by kernel_rfl, by kernel_rfl, by kernel_rfl, by kernel_rfl, by kernel_rfl, by kernel_rfl, by kernel_rfl, by kernel_rfl, by kernel_rfl, by kernel_rfl, by kernel_rfl, trivial⟩ (fun a1 h1 d1 => ?_)
  refine meth_ops (N := 104) (i := 1) (d := 79) (f := 44) (nm := "Reset") (t := hU sz) (u := .pointer (some ⟨g, 0, none⟩)) (u' := .pointer (some ⟨g, 0, none⟩)) (args := []) (l := []) h1 (by kernel_rfl) Tryd.func44 rfl rfl (meth_Reset sz hsz g) (fun v1 W1 => (Dig g (hT sz) (ini (keyN y)) y z 0 sz).In W1 ∧ Fr [g] W W1) ((reset_walk g (hT sz) s y z q6 sz W hd6).mono fun e' W' hh => ⟨_, hh.1, hh.2⟩) (fun v2 W2 a2 hR2 h2 d2 => ?_)
  have hI2 := hI.put hR2.2 hR2.1 (holdL_nil y z)
  exact hK a2 W2 v (has_list (β := bn []) (a := a2) h2.1 (E := [(8, .v v), (9, .v (.bool true)), (10, .v (.pointer (some ⟨t, 0, none⟩))), (11, .v (.bool true)), (12, .v (.iface (hU sz) (.pointer (some ⟨g, 0, none⟩)))), (29, .v (.slice A n c)), (30, .v (.int .i64 (n : Int))), (31, .v (.int .i64 (q : Int)))]) ⟨h2.2 8 _ rfl, h2.2 9 _ rfl, h2.2 10 _ rfl, h2.2 11 _ rfl, h2.2 12 _ rfl, h2.2 29 _ rfl, h2.2 30 _ rfl, h2.2 31 _ rfl, trivial⟩) (d2.trans d1) hI2 hR2.2.size
set_option maxHeartbeats 8000000 in
set_option maxRecDepth 100000 in
theorem run_k3 (w W : World) (B g t e n c q : Nat) (A : Option Addr) (k sd : Int) (A1 : Option Addr) (c1 : Nat) (l : List Int) (y : Nat → Int) (v : Value) (L : List Int) (R : List (List Int)) (a : Act) (Q : Exit → Act → World → Prop)
    (hI : HInv w B g t 8 y W v L R) (he : (⟨e, 33, 3, stp k A1 l.length c1 sd⟩ : Bl).In W) (heB : B ≤ e) (hR : R.length < 1048576)
    (h0 : Has 104 (bn [e]) [(8, .v v), (9, .v (.bool true)), (10, .v (.pointer (some ⟨t, 0, none⟩))), (11, .v (.bool true)), (12, .v (.iface (hU 8) (.pointer (some ⟨g, 0, none⟩)))), (14, .p 0 0), (29, .v (.slice A n c)), (30, .v (.int .i64 (n : Int))), (31, .v (.int .i64 (q : Int))), (36, .v (.int .u8 k))] a) (hQ : ∀ c (a a' : Act) w, a'.defers = a.defers → Q (.panic c) a w → Q (.panic c) a' w)
    (hK : ∀ a' W' v', Has 104 (bn []) [(8, .v v'), (9, .v (.bool true)), (10, .v (.pointer (some ⟨t, 0, none⟩))), (11, .v (.bool true)), (12, .v (.iface (hU 8) (.pointer (some ⟨g, 0, none⟩)))), (29, .v (.slice A n c)), (30, .v (.int .i64 (n : Int))), (31, .v (.int .i64 (q : Int)))] a' → a'.defers = a.defers → HInv w B g t 8 y W' v' (L) (R ++ [(sumS (8 : Int) (hvS y (lx L) L.length))]) → W.heap.size ≤ W'.heap.size → Q .normal a' W') : Code.wp Tryd.prog (cThen (cElse (cElse (cElse c7_b2)))) Q a W := by
  have hgB := hI.gB
  have hBW := hI.BW
  have hvl : ∀ k, v.ownBlock = some k → k < W.heap.size := by
    obtain ⟨inner, ho⟩ := Kd.R_own hI.rows
    exact own_lt ho
  have hM0 : Mw (bn [e]) [⟨e, 33, 3, stp k A1 l.length c1 sd⟩] W := ⟨bg_bn _, he, by simp, trivial⟩
  obtain ⟨s, z, q6, hd6, hh6⟩ := hI.dig
  refine wp_seq ?_
  refine wp_region ?_
  refine opsP (N := 104) (T := TD) (M := bm [⟨e, 33, 3, stp k A1 l.length c1 sd⟩]) tabOkD hM0.mem [1, 2, 3, 4, 5, 6] [0] [(8, .v v), (9, .v (.bool true)), (10, .v (.pointer (some ⟨t, 0, none⟩))), (11, .v (.bool true)), (12, .v (.iface (hU 8) (.pointer (some ⟨g, 0, none⟩)))), (14, .p 0 0), (29, .v (.slice A n c)), (30, .v (.int .i64 (n : Int))), (31, .v (.int .i64 (q : Int))), (36, .v (.int .u8 k)), (83, .v (.iface (hU 8) (.pointer (some ⟨g, 0, none⟩))))] h0 (by kernel_rfl) ⟨by kernel_rfl, by kernel_rfl, by kernel_rfl, by kernel_rfl, by kernel_rfl, by kernel_rfl, by kernel_rfl, by kernel_rfl, by kernel_rfl, by kernel_rfl, by kernel_rfl, trivial⟩ (fun a1 h1 d1 => ?_)
  refine givenW_ops (N := 104) (i := 1) (d := 84) (s := .v (.tuple #[.iface (hU 8) (.pointer (some ⟨g, 0, none⟩)), .bool true])) rfl (want_ rfl) rfl (by decide) h1 (op_assert rfl (h1.2 83 _ rfl) (assert_64 g)) (fun a2 h2 d2 => ?_)
  refine opsP (N := 104) (T := TD) (M := bm [⟨e, 33, 3, stp k A1 l.length c1 sd⟩]) tabOkD hM0.mem [] [2, 3, 4, 5, 6] [(8, .v v), (9, .v (.bool true)), (10, .v (.pointer (some ⟨t, 0, none⟩))), (11, .v (.bool true)), (12, .v (.iface (hU 8) (.pointer (some ⟨g, 0, none⟩)))), (14, .p 0 0), (17, .v (.iface (hU 8) (.pointer (some ⟨g, 0, none⟩)))), (18, .v (.bool true)), (29, .v (.slice A n c)), (30, .v (.int .i64 (n : Int))), (31, .v (.int .i64 (q : Int))), (36, .v (.int .u8 k))] h2 (by kernel_rfl) ⟨by kernel_rfl, by kernel_rfl, by kernel_rfl, by kernel_rfl, by kernel_rfl, by kernel_rfl, by kernel_rfl, by kernel_rfl, by kernel_rfl, by kernel_rfl, by kernel_rfl, by kernel_rfl, trivial⟩ (fun a3 h3 d3 => ?_)
  show Code.wp _ _ _ _ _
  refine wp_seq ?_
  refine regM_seq (N := 104) (T := TD) (n := 1) (E2 := [(8, .v v), (9, .v (.bool true)), (10, .v (.pointer (some ⟨t, 0, none⟩))), (11, .v (.bool true)), (12, .v (.iface (hU 8) (.pointer (some ⟨g, 0, none⟩)))), (14, .p 0 0), (17, .v (.iface (hU 8) (.pointer (some ⟨g, 0, none⟩)))), (29, .v (.slice A n c)), (30, .v (.int .i64 (n : Int))), (31, .v (.int .i64 (q : Int))), (36, .v (.int .u8 k)), (87, .v (.bool true))]) tabOkD h3 hM0 rfl (by kernel_rfl) ⟨by kernel_rfl, by kernel_rfl, by kernel_rfl, by kernel_rfl, by kernel_rfl, by kernel_rfl, by kernel_rfl, by kernel_rfl, by kernel_rfl, by kernel_rfl, by kernel_rfl, by kernel_rfl, trivial⟩ (fun a4 h4 d4 => ?_)
  show Code.wp _ _ _ _ _
  refine wp_cond_true (h4.2 87 _ rfl) ?_
  refine wp_region ?_
  refine opsP (N := 104) (T := TD) (M := bm [⟨e, 33, 3, stp k A1 l.length c1 sd⟩]) tabOkD hM0.mem [2, 3, 4, 5, 6] [0, 1] [(8, .v v), (9, .v (.bool true)), (10, .v (.pointer (some ⟨t, 0, none⟩))), (11, .v (.bool true)), (12, .v (.iface (hU 8) (.pointer (some ⟨g, 0, none⟩)))), (14, .p 0 0), (29, .v (.slice A n c)), (30, .v (.int .i64 (n : Int))), (31, .v (.int .i64 (q : Int))), (36, .v (.int .u8 k)), (88, .v v), (89, .v (.iface (hU 8) (.pointer (some ⟨g, 0, none⟩))))] h4 (by kernel_rfl) ⟨by kernel_rfl, by kernel_rfl, by kernel_rfl, by kernel_rfl, by kernel_rfl, by kernel_rfl, by kernel_rfl, by kernel_rfl, by kernel_rfl, by kernel_rfl, by kernel_rfl, by kernel_rfl, trivial⟩ (fun a5 h5 d5 => ?_)
  have P := sum64_dig g (hT 8) q6 8 s y z W hd6 (holdL_lt hh6)
  rw [holdL_sum hh6] at P
  refine meth_ops (N := 104) (i := 2) (d := 90) (f := 72) (nm := "Sum64") (t := hU 8) (u := .pointer (some ⟨g, 0, none⟩)) (u' := .pointer (some ⟨g, 0, none⟩)) (args := []) (l := [3, 4, 5, 6]) h5 (by kernel_rfl) Tryd.func72 rfl rfl (meth_Sum64 g) (fun v1 W1 => v1 = .int .u64 (le8 (byt (add4 (mixN 4 (hvS y (lx L) L.length)) 0 4 8 12))) ∧ Below W.heap.size W W1) (P.mono fun e' W' hh => ⟨_, hh.1, rfl, hh.2⟩) (fun v6 W6 a6 hR6 h6 d6 => ?_)
  obtain ⟨rfl, hb6⟩ := hR6
  refine call_ops (N := 104) (i := 3) (d := 91) (f := 17) (args := [.v (.int .u64 (le8 (byt (add4 (mixN 4 (hvS y (lx L) L.length)) 0 4 8 12))))]) (l := [4, 5, 6]) rfl rfl rfl (by decide) h6 Tryd.func17 rfl rfl rfl (by kernel_rfl) (fun v1 W1 => Kd.R (Kd.int .u8) 5 W1 W6.heap.size (fun _ => True) v1 (sumS (8 : Int) (hvS y (lx L) L.length)) ∧ Below W6.heap.size W6 W1) ((low_walk _ W6).mono fun e' W' hh => ?_) (fun v8 W8 a8 hR8 h8 d8 => ?_)
  · obtain ⟨r, e1, e2, e3⟩ := hh
    exact ⟨r, e1, e2, e3⟩
  obtain ⟨hR8, hb8⟩ := hR8
  obtain ⟨A8, c8, rfl⟩ := Kd.R_slice hR8
  have hb8' : Below W.heap.size W W8 := hb6.trans (hb8.mono hb6.size)
  have hal : Below W.heap.size W (W8.alloc (.cells #[.slice A8 (sumS (8 : Int) (hvS y (lx L) L.length)).length c8] 22)) := hb8'.alloc hb8'.size _
  refine new_ops (N := 104) (i := 4) (d := 92) (l := [5, 6]) rfl rfl rfl (by decide) h8 (op_buildSlice1 rfl (h8.2 91 _ rfl) (build_row W8 A8 _ c8)) (fun a9 h9 d9 => ?_)
  obtain ⟨hRR, hokp⟩ := one_row hR8 (Nat.le_trans hBW hb6.size) (fun k hk => Nat.lt_of_lt_of_le (hvl k hk) hb6.size)
  refine app_ops (N := 104) (i := 5) (dst := 93) (l := [6]) KRows (w0 := W) B rfl rfl rfl (by decide) h9 (.tmp 88) (.tmp 92) 23 22 (.slice none 0 0) 24 rfl Tryd.underlying23 (by kernel_rfl) rfl (by decide) (by decide) v R [(sumS (8 : Int) (hvS y (lx L) L.length))] (some ⟨W8.heap.size, 0, none⟩) 1 1 (fun _ => True) (fun k => W6.heap.size ≤ k) (h9.2 88 _ rfl) (h9.2 92 _ rfl) (hI.rows.onB hal) hRR (fun _ _ h => h) hokp (fun _ _ => trivial) (hal.mono hBW) (Nat.le_trans hBW hal.size) (by omega) (fun v1 w1 a10 hv1 hb1 hg1 h10 d10 => ?_)
  refine opsP (N := 104) (T := TD) (M := fun _ _ => none) tabOkD (fun _ _ _ h => by cases h) [] [6] [(8, .v v1), (9, .v (.bool true)), (10, .v (.pointer (some ⟨t, 0, none⟩))), (11, .v (.bool true)), (12, .v (.iface (hU 8) (.pointer (some ⟨g, 0, none⟩)))), (29, .v (.slice A n c)), (30, .v (.int .i64 (n : Int))), (31, .v (.int .i64 (q : Int)))] h10 (by kernel_rfl) ⟨by kernel_rfl, by kernel_rfl, by kernel_rfl, by kernel_rfl, by kernel_rfl, by kernel_rfl, by kernel_rfl, by kernel_rfl, trivial⟩ (fun a11 h11 d11 => ?_)
  exact hK a11 w1 v1 (has_list (β := bn []) (a := a11) h11.1 (E := [(8, .v v1), (9, .v (.bool true)), (10, .v (.pointer (some ⟨t, 0, none⟩))), (11, .v (.bool true)), (12, .v (.iface (hU 8) (.pointer (some ⟨g, 0, none⟩)))), (29, .v (.slice A n c)), (30, .v (.int .i64 (n : Int))), (31, .v (.int .i64 (q : Int)))]) ⟨h11.2 8 _ rfl, h11.2 9 _ rfl, h11.2 10 _ rfl, h11.2 11 _ rfl, h11.2 12 _ rfl, h11.2 29 _ rfl, h11.2 30 _ rfl, h11.2 31 _ rfl, trivial⟩) (d11.trans (d10.trans (d9.trans (d8.trans (d6.trans (d5.trans (d4.trans (d3.trans (d2.trans d1))))))))) (hI.push hb1 hv1) hb1.size
end Go.Proofs.YtnehminojlocoaaDoor.PAll
namespace Go.Proofs.YtnehminojlocoaaDoor.PAll
open Go.RowKit Go.Proofs.YtnehminojlocoaaDoorW.PrintWords Go.Proofs.YtnehminojlocoaaDoorW.PrintLast Go.Proofs.YtnehminojlocoaaDoorW.PrintMore
set_option linter.unusedVariables false
set_option linter.unusedSimpArgs false
theorem has_four {β : Nat → Nat} (x0 x1 x2 x3 : SV) (k : Nat) : Has (4 + k) β [(0, x0), (1, x1), (2, x2), (3, x3)] ⟨#[x0.den β, x1.den β, x2.den β, x3.den β] ++ Array.replicate k undef, []⟩ := by
  refine has_list (by simp) ⟨?_, ?_, ?_, ?_, trivial⟩
  · show ((#[x0.den β, x1.den β, x2.den β, x3.den β] ++ Array.replicate k undef).getD 0 undef) = _
    rw [Array.getD_eq_getD_getElem?, Array.getElem?_append_left (by simp)]
    rfl
  · show ((#[x0.den β, x1.den β, x2.den β, x3.den β] ++ Array.replicate k undef).getD 1 undef) = _
    rw [Array.getD_eq_getD_getElem?, Array.getElem?_append_left (by simp)]
    rfl
  · show ((#[x0.den β, x1.den β, x2.den β, x3.den β] ++ Array.replicate k undef).getD 2 undef) = _
    rw [Array.getD_eq_getD_getElem?, Array.getElem?_append_left (by simp)]
    rfl
  · show ((#[x0.den β, x1.den β, x2.den β, x3.den β] ++ Array.replicate k undef).getD 3 undef) = _
    rw [Array.getD_eq_getD_getElem?, Array.getElem?_append_left (by simp)]
    rfl
/-- What a step of kind k with the octets l does: the text, the sums. -/
def stF (sz : Nat) (y : Nat → Int) (k : Int) (l : List Int) (p : List Int × List (List Int)) : List Int × List (List Int) :=
  if k = 0 then (p.1 ++ l, p.2) else if k = 1 then (p.1, p.2 ++ [l ++ sumS (sz : Int) (hvS y (lx p.1) p.1.length)]) else if k = 2 then ([], p.2) else (p.1, p.2 ++ [sumS (8 : Int) (hvS y (lx p.1) p.1.length)])
def runF (sz : Nat) (y : Nat → Int) (ks : Nat → Int) (dl : Nat → List Int) : Nat → List Int × List (List Int)
  | 0 => ([], [])
  | q + 1 => stF sz y (ks q) (dl q) (runF sz y ks dl q)
theorem runF_len (sz : Nat) (y : Nat → Int) (ks : Nat → Int) (dl : Nat → List Int) : ∀ q, (runF sz y ks dl q).2.length ≤ q
  | 0 => Nat.le_refl _
  | q + 1 => by
    have h := runF_len sz y ks dl q
    unfold runF stF
    split
    · simpa using Nat.le_succ_of_le h
    · split
      · simpa using h
      · split
        · simpa using Nat.le_succ_of_le h
        · simpa using h
/-- The kinds of steps that are taken here. -/
def okK (sz : Nat) (k : Int) : Prop := k = 0 ∨ k = 1 ∨ k = 2 ∨ (k = 3 ∧ sz = 8)
/-- Steps in memory. -/
def StepsAt (A : Option Addr) (n : Nat) (ks : Nat → Int) (dl : Nat → List Int) (W : World) : Prop := ∀ i, i < n → ∃ sb so, A = some ⟨sb, so, none⟩ ∧ ∃ A1 c1 sd, (∀ j, j < 3 → W.cell? ⟨sb, so + i * 3 + j, none⟩ = some (stp (ks i) A1 (dl i).length c1 sd j)) ∧ (dl i).length ≤ c1 ∧ Kd.C (Kd.int .u8) W A1 (dl i).length (dl i)
theorem StepsAt.onB {A : Option Addr} {n : Nat} {ks : Nat → Int} {dl : Nat → List Int} {W W' : World} (h : StepsAt A n ks dl W) (hb : Below W.heap.size W W') : StepsAt A n ks dl W' := fun i hi => by
  obtain ⟨sb, so, hA, A1, c1, sd, h1, h2, h3⟩ := h i hi
  exact ⟨sb, so, hA, A1, c1, sd, fun j hj => (hb.cell (World.block_lt_of_cell? W _ (h1 j hj))).trans (h1 j hj), h2, Kd.C_below h3 hb⟩
theorem allocOkS : AllocOk Tryd.prog 33 #[.int .u8 0, .slice none 0 0, .int .u64 0] := by
  intro ρ o W ho
  unfold execOp
  rw [ho]
  simp [go_sem]
theorem allocOkI : AllocOk Tryd.prog 24 #[.int .i64 0, .int .i64 0] := by
  intro ρ o W ho
  unfold execOp
  rw [ho]
  simp [go_sem]
theorem stp_one (k : Int) (A : Option Addr) (n c : Nat) (sd : Int) (j : Nat) : (stp k A n c sd j).oneCell' = true := by
  unfold stp
  split
  · rfl
  · split <;> rfl
theorem step_copy (W : World) (k : Int) (A : Option Addr) (n c : Nat) (sd : Int) : ∃ W', (storeVar 33 ⟨W.heap.size, 0, none⟩ (.agg ((List.range 3).map (stp k A n c sd)).toArray)).run Tryd.prog (W.alloc (.cells #[.int .u8 0, .slice none 0 0, .int .u64 0] 33)) = .ok () W' ∧
    (⟨W.heap.size, 33, 3, stp k A n c sd⟩ : Bl).In W' ∧ Below W.heap.size W W' := by
  have hal := (MapKept.heap_alloc W (.cells #[.int .u8 0, .slice none 0 0, .int .u64 0] 33)).1
  refine ⟨_, run_storeVar_row _ _ _ _ _ _ hal (by rw [List.size_toArray, List.length_map, List.length_range]; kernel_rfl) (by simp) ?_, ⟨_, setRow_heap _ _ _ _ _ _ hal, by simp, fun i hi => ?_⟩, ?_⟩
  · rw [Array.all_eq_true_iff_forall_mem]
    intro v hv
    obtain ⟨j, hj, rfl⟩ : ∃ j, j < 3 ∧ stp k A n c sd j = v := by simpa using hv
    exact stp_one k A n c sd j
  · have hi' : i < 3 := hi
    rw [List.getElem?_toArray, List.getElem?_map, List.getElem?_range hi']
    rfl
  · exact below_setRow ((Below.refl W.heap.size W).alloc (Nat.le_refl _) _) (Nat.le_refl _) _
theorem stM_ops {P : Program} {ops : Array Oper} {Q : Exit → Act → World → Prop} {N : Nat} {β : Nat → Nat} {T : TypeId → Option Ty} {n k i : Nat} {u v0 : Value} {l : List Nat} {a : Act} {w : World} {L : List Bl} {E : List (Nat × SV)} (hT : TabOk P T) (hA : Has N β E a) (hM : Mw β L w) (hst : stV T ops n (some E) = some (k, i, u)) (hv0 : bm L k i = some v0)
    (h : ∀ W, Mw β (bput L k i u) W → Fr [β k] w W → wpOps P ops Q l a W) : wpOps P ops Q (n :: l) a w := by
  obtain ⟨rfl, hM⟩ := hM
  obtain ⟨E', o, he, ho, hg, hd, hrun⟩ := stV_ok hst
  obtain rfl := Option.some.inj he
  unfold wpOps
  simp only [ho]
  rw [if_pos (want_ hg)]
  refine Or.inl ?_
  unfold Oper.wp
  rw [hrun a w hT hA ⟨_, (hM.at hv0).1⟩ (hM.at hv0).2, Oper.upon_skip, hd]
  exact h _ ⟨bg_put _ _ _ _, Mm.set u hM hv0⟩ ((Fr.refl [bg L k] w).set _ (by simp) u)
noncomputable def cLast : Code := match c7_loop with
  | .seq _ (.seq _ (.seq _ c)) => c
  | _ => .skip
set_option maxHeartbeats 8000000 in
set_option maxRecDepth 100000 in
theorem run_round (w W : World) (B g t sz n c q : Nat) (A : Option Addr) (ks : Nat → Int) (dl : Nat → List Int) (y : Nat → Int) (v : Value) (a : Act) (K : Act → World → Prop) (Q0 : Exit → Act → World → Prop) (hsz : sz = 8 ∨ sz = 16 ∨ sz = 32) (hq : q < n) (hn : n < 1048576) (hkk : okK sz (ks q)) (hl : (dl q).length < 1048576)
    (hS : StepsAt A n ks dl W) (hI : HInv w B g t sz y W v (runF sz y ks dl q).1 (runF sz y ks dl q).2) (h0 : Has 104 (bn []) [(8, .v v), (9, .v (.bool true)), (10, .v (.pointer (some ⟨t, 0, none⟩))), (11, .v (.bool true)), (12, .v (.iface (hU sz) (.pointer (some ⟨g, 0, none⟩)))), (29, .v (.slice A n c)), (30, .v (.int .i64 (n : Int))), (31, .v (.int .i64 (q : Int)))] a) (hQ : ∀ c (a a' : Act) w, a'.defers = a.defers → Q0 (.panic c) a w → Q0 (.panic c) a' w)
    (hK : ∀ a' W' v', Has 104 (bn []) [(8, .v v'), (9, .v (.bool true)), (10, .v (.pointer (some ⟨t, 0, none⟩))), (11, .v (.bool true)), (12, .v (.iface (hU sz) (.pointer (some ⟨g, 0, none⟩)))), (29, .v (.slice A n c)), (30, .v (.int .i64 (n : Int))), (31, .v (.int .i64 ((q + 1 : Nat) : Int)))] a' → a'.defers = a.defers → HInv w B g t sz y W' v' (runF sz y ks dl (q + 1)).1 (runF sz y ks dl (q + 1)).2 → K a' W') : Code.wp Tryd.prog c7_loop (Exit.then K Q0) a W := by
  have M0 : Mw (bn []) [] W := ⟨bg_bn _, trivial⟩
  obtain ⟨sb, so, rfl, A1, c1, sd, hcell, hc1, hC⟩ := hS q hq
  refine wp_seq ?_
  refine regM_seq (N := 104) (T := TD) (n := 1) (E2 := [(8, .v v), (9, .v (.bool true)), (10, .v (.pointer (some ⟨t, 0, none⟩))), (11, .v (.bool true)), (12, .v (.iface (hU sz) (.pointer (some ⟨g, 0, none⟩)))), (29, .v (.slice (some ⟨sb, so, none⟩) n c)), (30, .v (.int .i64 (n : Int))), (31, .v (.int .i64 (q : Int))), (32, .v (.bool (decide ((q : Int) < (n : Int)))))]) tabOkD h0 M0 rfl (by kernel_rfl) ⟨by kernel_rfl, by kernel_rfl, by kernel_rfl, by kernel_rfl, by kernel_rfl, by kernel_rfl, by kernel_rfl, by kernel_rfl, by kernel_rfl, trivial⟩ (fun a1 h1 d1 => ?_)
  show Code.wp _ _ _ _ _
  refine wp_seq ?_
  refine wp_cond_true ((h1.2 32 _ rfl).trans (congrArg Value.bool (decide_eq_true (by omega)))) (wp_skip ?_)
  show Code.wp _ _ _ _ _
  refine wp_seq ?_
  refine wp_block ?_
  refine wp_seq ?_
  refine wp_region ?_
  refine givenW_ops (N := 104) (i := 0) (d := 33) (s := .v (.pointer (some ⟨sb, so + q * 3, none⟩))) rfl (want_ rfl) rfl (by decide) h1 (op_indexT rfl (h1.2 29 _ rfl) (h1.2 31 _ rfl) Tryd.underlying29 Tryd.sizeOf33 hq) (fun a2 h2 d2 => ?_)
  refine givenW_ops (N := 104) (i := 1) (d := 34) (s := .v (.agg ((List.range 3).map (stp (ks q) A1 (dl q).length c1 sd)).toArray)) rfl (want_ rfl) rfl (by decide) h2 (op_arr rfl (h2.2 33 _ rfl) Tryd.isAgg33 Tryd.sizeOf33 hcell) (fun a3 h3 d3 => ?_)
  refine alloc_ops (N := 104) (i := 2) (d := 14) (l := [3]) rfl rfl rfl (by decide) h3 rfl allocOkS (fun a4 h4 d4 => ?_)
  obtain ⟨W1, hst, he, hb1⟩ := step_copy W (ks q) A1 (dl q).length c1 sd
  refine store_ops (N := 104) (i := 3) (l := []) (t := 33) rfl rfl rfl h4 (b := W.heap.size) (cs := ((List.range 3).map (stp (ks q) A1 (dl q).length c1 sd)).toArray) (y := .tmp 34) (x := .tmp 14) rfl (h4.2 14 _ rfl) (h4.2 34 _ rfl) hst ?_
  have hI1 := hI.keep hb1
  have hC1 := Kd.C_below hC hb1
  have h5 := has_list (β := bn [W.heap.size]) (a := a4) h4.1 (E := [(8, .v v), (9, .v (.bool true)), (10, .v (.pointer (some ⟨t, 0, none⟩))), (11, .v (.bool true)), (12, .v (.iface (hU sz) (.pointer (some ⟨g, 0, none⟩)))), (14, .p 0 0), (29, .v (.slice (some ⟨sb, so, none⟩) n c)), (30, .v (.int .i64 (n : Int))), (31, .v (.int .i64 (q : Int)))]) ⟨h4.2 8 _ rfl, h4.2 9 _ rfl, h4.2 10 _ rfl, h4.2 11 _ rfl, h4.2 12 _ rfl, h4.2 14 _ rfl, h4.2 29 _ rfl, h4.2 30 _ rfl, h4.2 31 _ rfl, trivial⟩
  replace d4 := d4.trans (d3.trans (d2.trans d1))
  have hBW : B ≤ W.heap.size := hI.BW
  clear h0 h1 h2 h3 h4 hst d1 d2 d3 hcell hC
  show Code.wp _ _ _ _ _
  have M1 : Mw (bn [W.heap.size]) [⟨W.heap.size, 33, 3, stp (ks q) A1 (dl q).length c1 sd⟩] W1 := ⟨bg_bn _, he, by simp, trivial⟩
  refine wp_seq ?_
  refine regM_seq (N := 104) (T := TD) (n := 2) (E2 := [(8, .v v), (9, .v (.bool true)), (10, .v (.pointer (some ⟨t, 0, none⟩))), (11, .v (.bool true)), (12, .v (.iface (hU sz) (.pointer (some ⟨g, 0, none⟩)))), (14, .p 0 0), (29, .v (.slice (some ⟨sb, so, none⟩) n c)), (30, .v (.int .i64 (n : Int))), (31, .v (.int .i64 (q : Int))), (36, .v (.int .u8 (ks q)))]) tabOkD h5 M1 rfl (by kernel_rfl) ⟨by kernel_rfl, by kernel_rfl, by kernel_rfl, by kernel_rfl, by kernel_rfl, by kernel_rfl, by kernel_rfl, by kernel_rfl, by kernel_rfl, by kernel_rfl, trivial⟩ (fun a6 h6 d6 => ?_)
  show Code.wp _ _ _ _ _
  replace d6 := d6.trans d4
  clear h5 d4
  refine wp_block ?_
  have fin : ∀ a' W' v', Has 104 (bn []) [(8, .v v'), (9, .v (.bool true)), (10, .v (.pointer (some ⟨t, 0, none⟩))), (11, .v (.bool true)), (12, .v (.iface (hU sz) (.pointer (some ⟨g, 0, none⟩)))), (29, .v (.slice (some ⟨sb, so, none⟩) n c)), (30, .v (.int .i64 (n : Int))), (31, .v (.int .i64 (q : Int)))] a' → a'.defers = a.defers → HInv w B g t sz y W' v' (runF sz y ks dl (q + 1)).1 (runF sz y ks dl (q + 1)).2 → Code.wp Tryd.prog cLast (Exit.then K Q0) a' W' := by
    intro a' W' v' h d hh
    have hw : IntKind.i64.wrap ((q : Int) + 1) = ((q + 1 : Nat) : Int) := by
      rw [i64_w]
      unfold wrap64
      omega
    have M9 : Mw (bn []) [] W' := ⟨bg_bn _, trivial⟩
    refine regM_seq (N := 104) (T := TD) (n := 2) (E2 := [(8, .v v'), (9, .v (.bool true)), (10, .v (.pointer (some ⟨t, 0, none⟩))), (11, .v (.bool true)), (12, .v (.iface (hU sz) (.pointer (some ⟨g, 0, none⟩)))), (29, .v (.slice (some ⟨sb, so, none⟩) n c)), (30, .v (.int .i64 (n : Int))), (31, .v (.int .i64 (IntKind.i64.wrap ((q : Int) + 1))))]) tabOkD h M9 rfl (by kernel_rfl) ⟨by kernel_rfl, by kernel_rfl, by kernel_rfl, by kernel_rfl, by kernel_rfl, by kernel_rfl, by kernel_rfl, by kernel_rfl, trivial⟩ (fun a9 h9 d9 => ?_)
    rw [hw] at h9
    exact hK a9 W' v' h9 (d9.trans d) hh
  have eq1 : runF sz y ks dl (q + 1) = stF sz y (ks q) (dl q) (runF sz y ks dl q) := rfl
  have hRl : (runF sz y ks dl q).2.length < 1048576 := Nat.lt_of_le_of_lt (runF_len sz y ks dl q) (by omega)
  rw [eq1] at fin
  clear eq1 hK
  generalize runF sz y ks dl q = p at hI hI1 fin hRl
  obtain ⟨L, R⟩ := p
  simp only at hI hI1 hRl
  have hQ2 : ∀ c (a a' : Act) w, a'.defers = a.defers → Exit.inBlock 2 (Exit.inBlock 1 (Exit.then (Code.wp Tryd.prog cLast (Exit.then K Q0)) (Exit.then K Q0))) (.panic c) a w → Exit.inBlock 2 (Exit.inBlock 1 (Exit.then (Code.wp Tryd.prog cLast (Exit.then K Q0)) (Exit.then K Q0))) (.panic c) a' w := fun c a a1 w hd h => hQ c a a1 w hd h
  have step : ∀ (p : List Int × List (List Int)), stF sz y (ks q) (dl q) (L, R) = p → ∀ a' W' v', Has 104 (bn []) [(8, .v v'), (9, .v (.bool true)), (10, .v (.pointer (some ⟨t, 0, none⟩))), (11, .v (.bool true)), (12, .v (.iface (hU sz) (.pointer (some ⟨g, 0, none⟩)))), (29, .v (.slice (some ⟨sb, so, none⟩) n c)), (30, .v (.int .i64 (n : Int))), (31, .v (.int .i64 (q : Int)))] a' → a'.defers = a6.defers → HInv w B g t sz y W' v' p.1 p.2 → W1.heap.size ≤ W'.heap.size → Exit.inBlock 2 (Exit.inBlock 1 (Exit.then (Code.wp Tryd.prog cLast (Exit.then K Q0)) (Exit.then K Q0))) .normal a' W' := by
    intro p hp a' W' v' h1 h2 h3 _
    rw [hp] at fin
    exact fin a' W' v' h1 (h2.trans d6) h3
  refine wp_seq ?_
  refine regM_seq (N := 104) (T := TD) (n := 2) (E2 := [(8, .v v), (9, .v (.bool true)), (10, .v (.pointer (some ⟨t, 0, none⟩))), (11, .v (.bool true)), (12, .v (.iface (hU sz) (.pointer (some ⟨g, 0, none⟩)))), (14, .p 0 0), (29, .v (.slice (some ⟨sb, so, none⟩) n c)), (30, .v (.int .i64 (n : Int))), (31, .v (.int .i64 (q : Int))), (36, .v (.int .u8 (ks q))), (37, .v (.bool (ks q == 0)))]) tabOkD h6 M1 rfl (by kernel_rfl) ⟨by kernel_rfl, by kernel_rfl, by kernel_rfl, by kernel_rfl, by kernel_rfl, by kernel_rfl, by kernel_rfl, by kernel_rfl, by kernel_rfl, by kernel_rfl, by kernel_rfl, trivial⟩ (fun a7 h7 d7 => ?_)
  show Code.wp _ _ _ _ _
  by_cases hk : ks q = 0
  · refine wp_cond_true ((h7.2 37 _ rfl).trans (congrArg Value.bool (beq_iff_eq.2 hk))) ?_
    exact run_k0 w W1 B g t sz W.heap.size n c q (some ⟨sb, so, none⟩) (ks q) sd A1 c1 (dl q) y v L R _ _ hsz hI1 he hBW hC1 hc1 hl (sub_ok (E := [(8, .v v), (9, .v (.bool true)), (10, .v (.pointer (some ⟨t, 0, none⟩))), (11, .v (.bool true)), (12, .v (.iface (hU sz) (.pointer (some ⟨g, 0, none⟩)))), (14, .p 0 0), (29, .v (.slice (some ⟨sb, so, none⟩) n c)), (30, .v (.int .i64 (n : Int))), (31, .v (.int .i64 (q : Int))), (36, .v (.int .u8 (ks q)))]) h7 ⟨by kernel_rfl, by kernel_rfl, by kernel_rfl, by kernel_rfl, by kernel_rfl, by kernel_rfl, by kernel_rfl, by kernel_rfl, by kernel_rfl, by kernel_rfl, trivial⟩) hQ2 (fun a' W' v' e1 e2 e3 e4 => step _ (by unfold stF; rw [if_pos hk]) a' W' v' e1 (e2.trans (d7)) e3 e4)
  refine wp_cond_false ((h7.2 37 _ rfl).trans (congrArg Value.bool (beq_eq_false_iff_ne.2 hk))) ?_
  have hne0 := hk
  clear hk
  refine wp_seq ?_
  refine regM_seq (N := 104) (T := TD) (n := 2) (E2 := [(8, .v v), (9, .v (.bool true)), (10, .v (.pointer (some ⟨t, 0, none⟩))), (11, .v (.bool true)), (12, .v (.iface (hU sz) (.pointer (some ⟨g, 0, none⟩)))), (14, .p 0 0), (29, .v (.slice (some ⟨sb, so, none⟩) n c)), (30, .v (.int .i64 (n : Int))), (31, .v (.int .i64 (q : Int))), (36, .v (.int .u8 (ks q))), (62, .v (.bool (ks q == 1)))]) tabOkD h7 M1 rfl (by kernel_rfl) ⟨by kernel_rfl, by kernel_rfl, by kernel_rfl, by kernel_rfl, by kernel_rfl, by kernel_rfl, by kernel_rfl, by kernel_rfl, by kernel_rfl, by kernel_rfl, by kernel_rfl, trivial⟩ (fun a8 h8 d8 => ?_)
  show Code.wp _ _ _ _ _
  by_cases hk : ks q = 1
  · refine wp_cond_true ((h8.2 62 _ rfl).trans (congrArg Value.bool (beq_iff_eq.2 hk))) ?_
    exact run_k1 w W1 B g t sz W.heap.size n c q (some ⟨sb, so, none⟩) (ks q) sd A1 c1 (dl q) y v L R _ _ hsz hI1 he hBW hC1 hc1 hl hRl (sub_ok (E := [(8, .v v), (9, .v (.bool true)), (10, .v (.pointer (some ⟨t, 0, none⟩))), (11, .v (.bool true)), (12, .v (.iface (hU sz) (.pointer (some ⟨g, 0, none⟩)))), (14, .p 0 0), (29, .v (.slice (some ⟨sb, so, none⟩) n c)), (30, .v (.int .i64 (n : Int))), (31, .v (.int .i64 (q : Int))), (36, .v (.int .u8 (ks q)))]) h8 ⟨by kernel_rfl, by kernel_rfl, by kernel_rfl, by kernel_rfl, by kernel_rfl, by kernel_rfl, by kernel_rfl, by kernel_rfl, by kernel_rfl, by kernel_rfl, trivial⟩) hQ2 (fun a' W' v' e1 e2 e3 e4 => step _ (by unfold stF; rw [if_neg (by omega), if_pos hk]) a' W' v' e1 (e2.trans (d8.trans (d7))) e3 e4)
  refine wp_cond_false ((h8.2 62 _ rfl).trans (congrArg Value.bool (beq_eq_false_iff_ne.2 hk))) ?_
  have hne1 := hk
  clear hk
  refine wp_seq ?_
  refine regM_seq (N := 104) (T := TD) (n := 2) (E2 := [(8, .v v), (9, .v (.bool true)), (10, .v (.pointer (some ⟨t, 0, none⟩))), (11, .v (.bool true)), (12, .v (.iface (hU sz) (.pointer (some ⟨g, 0, none⟩)))), (14, .p 0 0), (29, .v (.slice (some ⟨sb, so, none⟩) n c)), (30, .v (.int .i64 (n : Int))), (31, .v (.int .i64 (q : Int))), (36, .v (.int .u8 (ks q))), (76, .v (.bool (ks q == 2)))]) tabOkD h8 M1 rfl (by kernel_rfl) ⟨by kernel_rfl, by kernel_rfl, by kernel_rfl, by kernel_rfl, by kernel_rfl, by kernel_rfl, by kernel_rfl, by kernel_rfl, by kernel_rfl, by kernel_rfl, by kernel_rfl, trivial⟩ (fun a9 h9 d9 => ?_)
  show Code.wp _ _ _ _ _
  by_cases hk : ks q = 2
  · refine wp_cond_true ((h9.2 76 _ rfl).trans (congrArg Value.bool (beq_iff_eq.2 hk))) ?_
    exact run_k2 w W1 B g t sz W.heap.size n c q (some ⟨sb, so, none⟩) (ks q) sd A1 c1 (dl q) y v L R _ _ hsz hI1 he hBW (sub_ok (E := [(8, .v v), (9, .v (.bool true)), (10, .v (.pointer (some ⟨t, 0, none⟩))), (11, .v (.bool true)), (12, .v (.iface (hU sz) (.pointer (some ⟨g, 0, none⟩)))), (14, .p 0 0), (29, .v (.slice (some ⟨sb, so, none⟩) n c)), (30, .v (.int .i64 (n : Int))), (31, .v (.int .i64 (q : Int))), (36, .v (.int .u8 (ks q)))]) h9 ⟨by kernel_rfl, by kernel_rfl, by kernel_rfl, by kernel_rfl, by kernel_rfl, by kernel_rfl, by kernel_rfl, by kernel_rfl, by kernel_rfl, by kernel_rfl, trivial⟩) hQ2 (fun a' W' v' e1 e2 e3 e4 => step _ (by unfold stF; rw [if_neg (by omega), if_neg (by omega), if_pos hk]) a' W' v' e1 (e2.trans (d9.trans (d8.trans (d7)))) e3 e4)
  refine wp_cond_false ((h9.2 76 _ rfl).trans (congrArg Value.bool (beq_eq_false_iff_ne.2 hk))) ?_
  have hne2 := hk
  clear hk
  refine wp_seq ?_
  refine regM_seq (N := 104) (T := TD) (n := 2) (E2 := [(8, .v v), (9, .v (.bool true)), (10, .v (.pointer (some ⟨t, 0, none⟩))), (11, .v (.bool true)), (12, .v (.iface (hU sz) (.pointer (some ⟨g, 0, none⟩)))), (14, .p 0 0), (29, .v (.slice (some ⟨sb, so, none⟩) n c)), (30, .v (.int .i64 (n : Int))), (31, .v (.int .i64 (q : Int))), (36, .v (.int .u8 (ks q))), (80, .v (.bool (ks q == 3)))]) tabOkD h9 M1 rfl (by kernel_rfl) ⟨by kernel_rfl, by kernel_rfl, by kernel_rfl, by kernel_rfl, by kernel_rfl, by kernel_rfl, by kernel_rfl, by kernel_rfl, by kernel_rfl, by kernel_rfl, by kernel_rfl, trivial⟩ (fun a10 h10 d10 => ?_)
  show Code.wp _ _ _ _ _
  obtain ⟨hk, rfl⟩ : ks q = 3 ∧ sz = 8 := by
    rcases hkk with h | h | h | h
    · contradiction
    · contradiction
    · contradiction
    · exact h
  refine wp_cond_true ((h10.2 80 _ rfl).trans (congrArg Value.bool (beq_iff_eq.2 hk))) ?_
  exact run_k3 w W1 B g t W.heap.size n c q (some ⟨sb, so, none⟩) (ks q) sd A1 c1 (dl q) y v L R _ _ hI1 he hBW hRl (sub_ok (E := [(8, .v v), (9, .v (.bool true)), (10, .v (.pointer (some ⟨t, 0, none⟩))), (11, .v (.bool true)), (12, .v (.iface (hU 8) (.pointer (some ⟨g, 0, none⟩)))), (14, .p 0 0), (29, .v (.slice (some ⟨sb, so, none⟩) n c)), (30, .v (.int .i64 (n : Int))), (31, .v (.int .i64 (q : Int))), (36, .v (.int .u8 (ks q)))]) h10 ⟨by kernel_rfl, by kernel_rfl, by kernel_rfl, by kernel_rfl, by kernel_rfl, by kernel_rfl, by kernel_rfl, by kernel_rfl, by kernel_rfl, by kernel_rfl, trivial⟩) hQ2 (fun a' W' v' e1 e2 e3 e4 => step _ (by unfold stF; rw [if_neg (by omega), if_neg (by omega), if_neg (by omega)]) a' W' v' e1 (e2.trans (d10.trans (d9.trans (d8.trans (d7))))) e3 e4)
set_option maxHeartbeats 8000000 in
set_option maxRecDepth 100000 in
theorem results_run {a : Act} {W : World} {v b1 b2 : Value} {t : Nat} {m : Nat → Value} (h1 : a.eval (.tmp 8) = v) (h2 : a.eval (.tmp 9) = b1) (h3 : a.eval (.tmp 10) = .pointer (some ⟨t, 0, none⟩)) (h4 : a.eval (.tmp 11) = b2) (hb : (⟨t, 24, 2, m⟩ : Bl).In W) :
    (results Tryd.f7 a.tmps).run Tryd.prog W = .ok (.tuple #[v, b1, .agg #[m 0, m 1], b2]) W := by
  have c0 : W.cell? ⟨t, 0, none⟩ = some (m 0) := hb.cell 0 (show 0 < 2 by decide)
  have c1 : W.cell? ⟨t, 1, none⟩ = some (m 1) := hb.cell 1 (show 1 < 2 by decide)
  have e1 : a.tmps[8]?.getD undef = v := by rw [← Array.getD_eq_getD_getElem?]; exact h1
  have e2 : a.tmps[9]?.getD undef = b1 := by rw [← Array.getD_eq_getD_getElem?]; exact h2
  have e3 : a.tmps[10]?.getD undef = .pointer (some ⟨t, 0, none⟩) := by rw [← Array.getD_eq_getD_getElem?]; exact h3
  have e4 : a.tmps[11]?.getD undef = b2 := by rw [← Array.getD_eq_getD_getElem?]; exact h4
  have hr := Tryd.results7
  simp [results, hr, e1, e2, e3, e4, go_sem, Tryd.isAgg24, Tryd.sizeOf24, c0, c1]
set_option maxHeartbeats 8000000 in
set_option maxRecDepth 100000 in
theorem run_end (w W : World) (B g t sz : Nat) (y : Nat → Int) (v : Value) (L : List Int) (R : List (List Int)) (a : Act) (hsz : sz = 8 ∨ sz = 16 ∨ sz = 32) (hI : HInv w B g t sz y W v L R)
    (h0 : Has 104 (bn []) [(8, .v v), (9, .v (.bool true)), (10, .v (.pointer (some ⟨t, 0, none⟩))), (12, .v (.iface (hU sz) (.pointer (some ⟨g, 0, none⟩))))] a) (d0 : a.defers = []) : Code.wp Tryd.prog c7_end (bodyPost Tryd.prog Tryd.f7 fun e w' => ∃ v, e = .returned (.tuple #[v, .bool true, .agg #[.int .i64 (sz : Int), .int .i64 32], .bool true]) ∧ Kd.R KRows 22 w' w.heap.size (fun _ => True) v R ∧ Below w.heap.size w w') a W := by
  have h1 := has_list (β := bn [t]) (a := a) h0.1 (E := [(8, .v v), (9, .v (.bool true)), (10, .p 0 0), (12, .v (.iface (hU sz) (.pointer (some ⟨g, 0, none⟩))))]) ⟨h0.2 8 _ rfl, h0.2 9 _ rfl, h0.2 10 _ rfl, h0.2 12 _ rfl, trivial⟩
  obtain ⟨s, z, q6, hd6, hh6⟩ := hI.dig
  refine wp_seq ?_
  refine wp_region ?_
  refine opsP (N := 104) (T := TD) (M := fun _ _ => none) tabOkD (fun _ _ _ h => by cases h) [1, 2, 3, 4, 5, 6, 7] [0] [(8, .v v), (9, .v (.bool true)), (10, .p 0 0), (12, .v (.iface (hU sz) (.pointer (some ⟨g, 0, none⟩)))), (95, .v (.iface (hU sz) (.pointer (some ⟨g, 0, none⟩))))] h1 (by kernel_rfl) ⟨by kernel_rfl, by kernel_rfl, by kernel_rfl, by kernel_rfl, by kernel_rfl, trivial⟩ (fun a2 h2 d2 => ?_)
  refine meth_ops (N := 104) (i := 1) (d := 96) (f := 70) (nm := "Size") (t := hU sz) (u := .pointer (some ⟨g, 0, none⟩)) (u' := .pointer (some ⟨g, 0, none⟩)) (args := []) (l := [2, 3, 4, 5, 6, 7]) h2 (by kernel_rfl) Tryd.func70 rfl rfl (meth_Size sz hsz g) (fun v1 W1 => v1 = .int .i64 (sz : Int) ∧ Below W.heap.size W W1) ((size_walk g (hT sz) s y z q6 sz W hd6).mono fun e' W' hh => ⟨_, hh.1, rfl, hh.2⟩) (fun v3 W3 a3 hR3 h3 d3 => ?_)
  obtain ⟨rfl, hb3⟩ := hR3
  refine opsP (N := 104) (T := TD) (M := fun _ _ => none) tabOkD (fun _ _ _ h => by cases h) [3, 4, 5, 6, 7] [2] [(8, .v v), (9, .v (.bool true)), (10, .p 0 0), (12, .v (.iface (hU sz) (.pointer (some ⟨g, 0, none⟩)))), (96, .v (.int .i64 (sz : Int))), (97, .v (.iface (hU sz) (.pointer (some ⟨g, 0, none⟩))))] h3 (by kernel_rfl) ⟨by kernel_rfl, by kernel_rfl, by kernel_rfl, by kernel_rfl, by kernel_rfl, by kernel_rfl, trivial⟩ (fun a4 h4 d4 => ?_)
  refine meth_ops (N := 104) (i := 3) (d := 98) (f := 69) (nm := "BlockSize") (t := hU sz) (u := .pointer (some ⟨g, 0, none⟩)) (u' := .pointer (some ⟨g, 0, none⟩)) (args := []) (l := [4, 5, 6, 7]) h4 (by kernel_rfl) Tryd.func69 rfl rfl (meth_BlockSize sz hsz g) (fun v1 W1 => v1 = .int .i64 32 ∧ Below W3.heap.size W3 W1) ((block_walk _ W3).mono fun e' W' hh => ⟨_, hh.1, rfl, hh.2⟩) (fun v5 W5 a5 hR5 h5 d5 => ?_)
  obtain ⟨rfl, hb5⟩ := hR5
  have hI5 := (hI.keep hb3).keep hb5
  have M5 : Mw (bn [t]) [⟨t, 24, 2, (fun _ => .int .i64 0)⟩] W5 := ⟨bg_bn _, hI5.told, by simp, trivial⟩
  refine opsP (N := 104) (T := TD) (M := bm [⟨t, 24, 2, (fun _ => .int .i64 0)⟩]) tabOkD M5.mem [5, 6, 7] [4] [(8, .v v), (9, .v (.bool true)), (10, .p 0 0), (12, .v (.iface (hU sz) (.pointer (some ⟨g, 0, none⟩)))), (96, .v (.int .i64 (sz : Int))), (98, .v (.int .i64 32)), (99, .p 0 0)] h5 (by kernel_rfl) ⟨by kernel_rfl, by kernel_rfl, by kernel_rfl, by kernel_rfl, by kernel_rfl, by kernel_rfl, by kernel_rfl, trivial⟩ (fun a6 h6 d6 => ?_)
  refine stM_ops (N := 104) (T := TD) (n := 5) (k := 0) (i := 0) (u := .int .i64 (sz : Int)) (l := [6, 7]) tabOkD h6 M5 (by kernel_rfl) rfl (fun W7 M7 G7 => ?_)
  replace M7 : Mw (bn [t]) [⟨t, 24, 2, (upm (fun _ => .int .i64 0) 0 (.int .i64 (sz : Int)))⟩] W7 := M7
  refine opsP (N := 104) (T := TD) (M := bm [⟨t, 24, 2, (upm (fun _ => .int .i64 0) 0 (.int .i64 (sz : Int)))⟩]) tabOkD M7.mem [7] [6] [(8, .v v), (9, .v (.bool true)), (10, .p 0 0), (12, .v (.iface (hU sz) (.pointer (some ⟨g, 0, none⟩)))), (98, .v (.int .i64 32)), (100, .p 0 1)] h6 (by kernel_rfl) ⟨by kernel_rfl, by kernel_rfl, by kernel_rfl, by kernel_rfl, by kernel_rfl, by kernel_rfl, trivial⟩ (fun a8 h8 d8 => ?_)
  refine stM_ops (N := 104) (T := TD) (n := 7) (k := 0) (i := 1) (u := .int .i64 32) (l := []) tabOkD h8 M7 (by kernel_rfl) rfl (fun W9 M9 G9 => ?_)
  replace M9 : Mw (bn [t]) [⟨t, 24, 2, (upm (upm (fun _ => .int .i64 0) 0 (.int .i64 (sz : Int))) 1 (.int .i64 32))⟩] W9 := M9
  have h10 := sub_ok (E := [(8, .v v), (9, .v (.bool true)), (10, .p 0 0), (12, .v (.iface (hU sz) (.pointer (some ⟨g, 0, none⟩))))]) h8 ⟨by kernel_rfl, by kernel_rfl, by kernel_rfl, by kernel_rfl, trivial⟩
  have d10 := d8.trans (d6.trans (d5.trans (d4.trans (d3.trans (d2.trans d0)))))
  have G : Fr [t] W5 W9 := G7.trans G9
  have rows9 : Rows W9 B v R := hI5.rows.fr G (fun k hk => by simp at hk; subst hk; exact hI5.tB)
  have bel9 : Below w.heap.size w W9 := hI5.below.trans (G.below _ hI5.below.size (by simp; exact hI5.wt))
  clear h1 h2 h3 h4 h5 h6 h8 d2 d3 d4 d5 d6 d8 M5 M7 G7 G9 G
  show Code.wp _ _ _ _ _
  refine wp_seq ?_
  let SS : World → Prop := fun V => Mw (bn [t]) [⟨t, 24, 2, (upm (upm (fun _ => .int .i64 0) 0 (.int .i64 (sz : Int))) 1 (.int .i64 32))⟩] V
  have hSM : ∀ W, SS W → MemOk (bn [t]) (bm [⟨t, 24, 2, (upm (upm (fun _ => .int .i64 0) 0 (.int .i64 (sz : Int))) 1 (.int .i64 32))⟩]) W := fun _ h => h.mem
  refine start_ (S := SS) (ds := []) (n := 7) _ (by kernel_rfl) rfl rfl (show SS W9.drew from M9.drew) (fun hS0 => ?_)
  refine segP (S := SS) (T := TD) (M := bm [⟨t, 24, 2, (upm (upm (fun _ => .int .i64 0) 0 (.int .i64 (sz : Int))) 1 (.int .i64 32))⟩]) (N := 104) tabOkD hSM (fun _ _ _ _ hd h => And.intro (hd.trans (And.left h)) (And.right h)) hS0 [0, 1, 2, 3, 4] 2 [(8, .v v), (9, .v (.bool true)), (10, .p 0 0), (103, .v (.agg ((List.range 2).map (upm (upm (fun _ => .int .i64 0) 0 (.int .i64 (sz : Int))) 1 (.int .i64 32))).toArray))] h10 (by kernel_rfl) (by kernel_rfl) ⟨by kernel_rfl, by kernel_rfl, by kernel_rfl, by kernel_rfl, trivial⟩ (fun a11 h11 d11 => ?_)
  have hb9 := M9.2.get (k := 0) rfl
  obtain ⟨cs, k1, k2, k3⟩ := id hb9
  have k3' : ∀ i, i < 2 → cs[i]? = some ((upm (upm (fun _ => .int .i64 0) 0 (.int .i64 (sz : Int))) 1 (.int .i64 32)) i) := k3
  have hst : (storeVar 24 ⟨t, 0, none⟩ (.agg ((List.range 2).map (upm (upm (fun _ => .int .i64 0) 0 (.int .i64 (sz : Int))) 1 (.int .i64 32))).toArray)).run Tryd.prog W9.drew = .ok () (W9.drew.setRow t ((List.range 2).map (upm (upm (fun _ => .int .i64 0) 0 (.int .i64 (sz : Int))) 1 (.int .i64 32))).toArray) := run_storeVar_row _ _ _ _ cs _ k1 (by rw [List.size_toArray, List.length_map, List.length_range]; kernel_rfl) (by rw [k2]; simp) (by
    rw [Array.all_eq_true_iff_forall_mem]
    intro v hv
    obtain ⟨j, hj, rfl⟩ : ∃ j, j < 2 ∧ (upm (upm (fun _ => .int .i64 0) 0 (.int .i64 (sz : Int))) 1 (.int .i64 32)) j = v := by simpa using hv
    unfold upm
    split
    · rfl
    · split <;> rfl)
  have F12 : Fr [t] W9 (W9.drew.setRow t ((List.range 2).map (upm (upm (fun _ => .int .i64 0) 0 (.int .i64 (sz : Int))) 1 (.int .i64 32))).toArray) := ((Fr.refl [t] W9).drew).row t (by simp) _
  have hb12 : (⟨t, 24, 2, (upm (upm (fun _ => .int .i64 0) 0 (.int .i64 (sz : Int))) 1 (.int .i64 32))⟩ : Bl).In (W9.drew.setRow t ((List.range 2).map (upm (upm (fun _ => .int .i64 0) 0 (.int .i64 (sz : Int))) 1 (.int .i64 32))).toArray) := ⟨_, setRow_heap W9.drew t cs _ 24 (0, 0) k1, by simp, fun i hi => by
    have hi' : i < 2 := hi
    rw [List.getElem?_toArray, List.getElem?_map, List.getElem?_range hi']
    rfl⟩
  have hS12 : SS (W9.drew.setRow t ((List.range 2).map (upm (upm (fun _ => .int .i64 0) 0 (.int .i64 (sz : Int))) 1 (.int .i64 32))).toArray) := ⟨bg_bn _, hb12, by simp, trivial⟩
  refine stepS (S := SS) (j := 5) (w1 := W9.drew.setRow t ((List.range 2).map (upm (upm (fun _ => .int .i64 0) 0 (.int .i64 (sz : Int))) 1 (.int .i64 32))).toArray) rfl rfl rfl (by kernel_rfl) ?_ hS12 ?_
  · have e1 : a11.eval (.tmp 10) = .pointer (some ⟨t, 0, none⟩) := h11.2 10 _ rfl
    have e2 : a11.eval (.tmp 103) = .agg ((List.range 2).map (upm (upm (fun _ => .int .i64 0) 0 (.int .i64 (sz : Int))) 1 (.int .i64 32))).toArray := h11.2 103 _ rfl
    exact op_storeAgg rfl e1 e2 hst
  refine segP (S := SS) (T := TD) (M := bm [⟨t, 24, 2, (upm (upm (fun _ => .int .i64 0) 0 (.int .i64 (sz : Int))) 1 (.int .i64 32))⟩]) (N := 104) tabOkD hSM (fun _ _ _ _ hd h => And.intro (hd.trans (And.left h)) (And.right h)) hS12 [6] 0 [(8, .v v), (9, .v (.bool true)), (10, .p 0 0), (11, .v (.bool true))] h11 (by kernel_rfl) (by kernel_rfl) ⟨by kernel_rfl, by kernel_rfl, by kernel_rfl, by kernel_rfl, trivial⟩ (fun a13 h13 d13 => ?_)
  refine segE (by kernel_rfl) ?_
  show Code.wp _ _ _ _ _
  refine wp_ret ?_
  have rows13 := rows9.fr F12 (fun k hk => by simp at hk; subst hk; exact hI5.tB)
  refine ⟨d13.trans (d11.trans d10), _, results_run (h13.2 8 _ rfl) (h13.2 9 _ rfl) (h13.2 10 _ rfl) (h13.2 11 _ rfl) hb12, v, rfl, Kd.R_lower rows13 (by have := hI5.wg; have := hI5.gB; omega), bel9.trans (F12.below _ bel9.size (by simp; exact hI5.wt))⟩
set_option maxHeartbeats 8000000 in
set_option maxRecDepth 100000 in
theorem run_val (sz : Nat) (hsz : sz = 8 ∨ sz = 16 ∨ sz = 32) (d : Bool) (K : Option Addr) (kc : Nat) (lk : List Int) (A : Option Addr) (n c : Nat) (ks : Nat → Int) (dl : Nat → List Int) (w : World) (hC : Kd.C (Kd.int .u8) w K lk.length lk) (hkc : lk.length ≤ kc) (h32 : lk.length = 32)
    (hS : StepsAt A n ks dl w) (hk : ∀ i, i < n → okK sz (ks i)) (hl : ∀ i, i < n → (dl i).length < 1048576) (hn : n < 1048576) :
    Calls Tryd.prog 7 #[.int .i64 (sz : Int), .slice K lk.length kc, .bool d, .slice A n c] w fun e w' => ∃ v, e = .returned (.tuple #[v, .bool true, .agg #[.int .i64 (sz : Int), .int .i64 32], .bool true]) ∧ Kd.R KRows 22 w' w.heap.size (fun _ => True) v (runF sz (lx lk) ks dl n).2 ∧ Below w.heap.size w w' := by
  refine calls_of_wp Tryd.func7 rfl ?_
  have h0 : Has 104 (bn []) [(0, .v (.int .i64 (sz : Int))), (1, .v (.slice K lk.length kc)), (2, .v (.bool d)), (3, .v (.slice A n c))] ⟨#[.int .i64 (sz : Int), .slice K lk.length kc, .bool d, .slice A n c] ++ Array.replicate 100 undef, []⟩ := has_four (β := bn []) (.v _) (.v _) (.v _) (.v _) 100
  have d0 : (⟨#[.int .i64 (sz : Int), .slice K lk.length kc, .bool d, .slice A n c] ++ Array.replicate 100 undef, []⟩ : Act).defers = [] := rfl
  refine wp_seq ?_
  refine wp_region ?_
  refine opsP (N := 104) (T := TD) (M := fun _ _ => none) tabOkD (fun _ _ _ h => by cases h) [2, 3] [0, 1] [(0, .v (.int .i64 (sz : Int))), (1, .v (.slice K lk.length kc)), (2, .v (.bool d)), (3, .v (.slice A n c)), (8, .v (.slice none 0 0)), (9, .v (.bool false))] h0 (by kernel_rfl) ⟨by kernel_rfl, by kernel_rfl, by kernel_rfl, by kernel_rfl, by kernel_rfl, by kernel_rfl, trivial⟩ (fun a1 h1 d1 => ?_)
  refine alloc_ops (N := 104) (i := 2) (d := 10) (l := [3]) rfl rfl rfl (by decide) h1 rfl allocOkI (fun a2 h2 d2 => ?_)
  refine opsP (N := 104) (T := TD) (M := fun _ _ => none) tabOkD (fun _ _ _ h => by cases h) [] [3] [(0, .v (.int .i64 (sz : Int))), (1, .v (.slice K lk.length kc)), (2, .v (.bool d)), (3, .v (.slice A n c)), (8, .v (.slice none 0 0)), (9, .v (.bool false)), (10, .v (.pointer (some ⟨w.heap.size, 0, none⟩))), (11, .v (.bool false))] h2 (by kernel_rfl) ⟨by kernel_rfl, by kernel_rfl, by kernel_rfl, by kernel_rfl, by kernel_rfl, by kernel_rfl, by kernel_rfl, by kernel_rfl, trivial⟩ (fun a3 h3 d3 => ?_)
  have hb1 : Below w.heap.size w (w.alloc (.cells #[.int .i64 0, .int .i64 0] 24)) := (Below.refl _ _).alloc (Nat.le_refl _) _
  have ht1 : (⟨w.heap.size, 24, 2, fun _ => .int .i64 0⟩ : Bl).In (w.alloc (.cells #[.int .i64 0, .int .i64 0] 24)) := bl_rep0 w 2 (.int .i64 0) 24
  replace d3 := d3.trans (d2.trans (d1.trans d0))
  clear h0 h1 h2 d0 d1 d2
  show Code.wp _ _ _ _ _
  have lt1 : w.heap.size < (w.alloc (.cells #[.int .i64 0, .int .i64 0] 24)).heap.size := ht1.lt
  generalize w.alloc (.cells #[.int .i64 0, .int .i64 0] 24) = W1 at hb1 ht1 lt1 ⊢
  refine wp_seq ?_
  refine wp_region ?_
  refine opsP (N := 104) (T := TD) (M := fun _ _ => none) tabOkD (fun _ _ _ h => by cases h) [3, 4, 5, 6, 7, 8] [0, 1, 2] [(0, .v (.int .i64 (sz : Int))), (1, .v (.slice K lk.length kc)), (2, .v (.bool d)), (3, .v (.slice A n c)), (8, .v (.slice none 0 0)), (9, .v (.bool false)), (10, .v (.pointer (some ⟨w.heap.size, 0, none⟩))), (11, .v (.bool false)), (20, .v (.int .i64 (sz : Int))), (21, .v (.slice K lk.length kc)), (22, .v (.bool d))] h3 (by kernel_rfl) ⟨by kernel_rfl, by kernel_rfl, by kernel_rfl, by kernel_rfl, by kernel_rfl, by kernel_rfl, by kernel_rfl, by kernel_rfl, by kernel_rfl, by kernel_rfl, by kernel_rfl, trivial⟩ (fun a4 h4 d4 => ?_)
  refine call_ops (N := 104) (i := 3) (d := 23) (f := 15) (args := [.v (.int .i64 (sz : Int)), .v (.slice K lk.length kc), .v (.bool d)]) (l := [4, 5, 6, 7, 8]) rfl rfl rfl (by decide) h4 Tryd.func15 rfl rfl rfl (by kernel_rfl) (fun v1 W2 => ∃ g, v1 = .tuple #[.iface (hU sz) (.pointer (some ⟨g, 0, none⟩)), .bool true] ∧ (Dig g (hT sz) (ini (keyN (lx lk))) (lx lk) nz 0 sz).In W2 ∧ W1.heap.size ≤ g ∧ Below W1.heap.size W1 W2) ((highway_val sz hsz d K kc lk W1 (Kd.C_below hC hb1) hkc h32).mono fun e' W' hh => ?_) (fun v5 W2 a5 hR5 h5 d5 => ?_)
  · obtain ⟨g, e1, e2⟩ := hh
    exact ⟨_, e1, g, rfl, e2⟩
  obtain ⟨g, rfl, hd2, hg2, hb2⟩ := hR5
  refine opsP (N := 104) (T := TD) (M := fun _ _ => none) tabOkD (fun _ _ _ h => by cases h) [] [4, 5, 6, 7, 8] [(3, .v (.slice A n c)), (8, .v (.slice none 0 0)), (9, .v (.bool false)), (10, .v (.pointer (some ⟨w.heap.size, 0, none⟩))), (11, .v (.bool true)), (12, .v (.iface (hU sz) (.pointer (some ⟨g, 0, none⟩))))] h5 (by kernel_rfl) ⟨by kernel_rfl, by kernel_rfl, by kernel_rfl, by kernel_rfl, by kernel_rfl, by kernel_rfl, trivial⟩ (fun a6 h6 d6 => ?_)
  have hb2' : Below w.heap.size w W2 := hb1.trans (hb2.mono hb1.size)
  have ht2 : (⟨w.heap.size, 24, 2, fun _ => .int .i64 0⟩ : Bl).In W2 := ht1.below hb2 lt1
  have lg2 : g < W2.heap.size := hd2.lt
  have lt2 : w.heap.size < W2.heap.size := ht2.lt
  have hI : HInv w W2.heap.size g w.heap.size sz (lx lk) W2 (.slice none 0 0) [] [] := ⟨⟨_, _, _, hd2, holdL_nil _ _⟩, ht2, Kd.R_nil _ _ _ _ _, hb2', lg2, lt2, by omega, Nat.le_refl _, by omega, Nat.le_refl _⟩
  replace d6 := d6.trans (d5.trans (d4.trans d3))
  clear h3 h4 h5 d3 d4 d5 hd2 ht1 ht2 hb1 hb2
  show Code.wp _ _ _ _ _
  have M2 : Mw (bn []) [] W2 := ⟨bg_bn _, trivial⟩
  refine wp_seq ?_
  refine wp_seq ?_
  refine wp_region ?_
  refine opsP (N := 104) (T := TD) (M := fun _ _ => none) tabOkD (fun _ _ _ h => by cases h) [1] [0] [(3, .v (.slice A n c)), (8, .v (.slice none 0 0)), (9, .v (.bool false)), (10, .v (.pointer (some ⟨w.heap.size, 0, none⟩))), (11, .v (.bool true)), (12, .v (.iface (hU sz) (.pointer (some ⟨g, 0, none⟩)))), (26, .v (.bool true))] h6 (by kernel_rfl) ⟨by kernel_rfl, by kernel_rfl, by kernel_rfl, by kernel_rfl, by kernel_rfl, by kernel_rfl, by kernel_rfl, trivial⟩ (fun a7 h7 d7 => ?_)
  refine givenW_ops (N := 104) (i := 1) (d := 27) (s := .v (.bool false)) rfl (want_ rfl) rfl (by decide) h7 (op_not rfl (h7.2 26 _ rfl)) (fun a8 h8 d8 => ?_)
  show Code.wp _ _ _ _ _
  refine wp_cond_false (h8.2 27 _ rfl) (wp_skip ?_)
  show Code.wp _ _ _ _ _
  have h9 := sub_ok (E := [(3, .v (.slice A n c)), (8, .v (.slice none 0 0)), (9, .v (.bool false)), (10, .v (.pointer (some ⟨w.heap.size, 0, none⟩))), (11, .v (.bool true)), (12, .v (.iface (hU sz) (.pointer (some ⟨g, 0, none⟩))))]) h8 ⟨by kernel_rfl, by kernel_rfl, by kernel_rfl, by kernel_rfl, by kernel_rfl, by kernel_rfl, trivial⟩
  replace d8 := d8.trans (d7.trans d6)
  refine wp_seq ?_
  refine regM_seq (N := 104) (T := TD) (n := 1) (E2 := [(3, .v (.slice A n c)), (8, .v (.slice none 0 0)), (9, .v (.bool true)), (10, .v (.pointer (some ⟨w.heap.size, 0, none⟩))), (11, .v (.bool true)), (12, .v (.iface (hU sz) (.pointer (some ⟨g, 0, none⟩))))]) tabOkD h9 M2 rfl (by kernel_rfl) ⟨by kernel_rfl, by kernel_rfl, by kernel_rfl, by kernel_rfl, by kernel_rfl, by kernel_rfl, trivial⟩ (fun a10 h10 d10 => ?_)
  show Code.wp _ _ _ _ _
  refine wp_seq ?_
  refine wp_seq ?_
  refine wp_region ?_
  refine opsP (N := 104) (T := TD) (M := fun _ _ => none) tabOkD (fun _ _ _ h => by cases h) [1, 2] [0] [(3, .v (.slice A n c)), (8, .v (.slice none 0 0)), (9, .v (.bool true)), (10, .v (.pointer (some ⟨w.heap.size, 0, none⟩))), (11, .v (.bool true)), (12, .v (.iface (hU sz) (.pointer (some ⟨g, 0, none⟩)))), (29, .v (.slice A n c))] h10 (by kernel_rfl) ⟨by kernel_rfl, by kernel_rfl, by kernel_rfl, by kernel_rfl, by kernel_rfl, by kernel_rfl, by kernel_rfl, trivial⟩ (fun a11 h11 d11 => ?_)
  refine givenW_ops (N := 104) (i := 1) (d := 30) (s := .v (.int .i64 (n : Int))) rfl (want_ rfl) rfl (by decide) h11 (op_len rfl Tryd.underlying29 (h11.2 29 _ rfl)) (fun a12 h12 d12 => ?_)
  refine opsP (N := 104) (T := TD) (M := fun _ _ => none) tabOkD (fun _ _ _ h => by cases h) [] [2] [(8, .v (.slice none 0 0)), (9, .v (.bool true)), (10, .v (.pointer (some ⟨w.heap.size, 0, none⟩))), (11, .v (.bool true)), (12, .v (.iface (hU sz) (.pointer (some ⟨g, 0, none⟩)))), (29, .v (.slice A n c)), (30, .v (.int .i64 (n : Int))), (31, .v (.int .i64 ((0 : Nat) : Int)))] h12 (by kernel_rfl) ⟨by kernel_rfl, by kernel_rfl, by kernel_rfl, by kernel_rfl, by kernel_rfl, by kernel_rfl, by kernel_rfl, by kernel_rfl, trivial⟩ (fun a13 h13 d13 => ?_)
  replace d13 := d13.trans (d12.trans (d11.trans (d10.trans d8)))
  clear h6 h7 h8 h9 h10 h11 h12 d6 d7 d8 d10 d11 d12
  show Code.wp _ _ _ _ _
  generalize hB : W2.heap.size = B at hI
  refine wp_block ?_
  refine wp_loop (fun a wr => ∃ (q : Nat) (v : Value), q ≤ n ∧ Has 104 (bn []) [(8, .v v), (9, .v (.bool true)), (10, .v (.pointer (some ⟨w.heap.size, 0, none⟩))), (11, .v (.bool true)), (12, .v (.iface (hU sz) (.pointer (some ⟨g, 0, none⟩)))), (29, .v (.slice A n c)), (30, .v (.int .i64 (n : Int))), (31, .v (.int .i64 (q : Int)))] a ∧ a.defers = [] ∧ HInv w B g w.heap.size sz (lx lk) wr v (runF sz (lx lk) ks dl q).1 (runF sz (lx lk) ks dl q).2) (fun a _ => n - (intOf (a.eval (.tmp 31))).toNat) ⟨0, _, Nat.zero_le _, h13, d13, hI⟩ ?_
  rintro a wr ⟨q, v, hq, hH, hd, hI⟩
  clear h13 d13 M2
  by_cases hlt : q < n
  · refine run_round w wr B g w.heap.size sz n c q A ks dl (lx lk) v a _ _ hsz hlt hn (hk q hlt) (hl q hlt) (hS.onB hI.below) hI hH (fun _ _ _ _ hd h => And.intro (hd.trans (And.left h)) (And.right h)) (fun a' W' v' h1 h2 h3 => ?_)
    refine ⟨⟨q + 1, v', hlt, h1, h2.trans hd, h3⟩, ?_⟩
    have e1 : a'.eval (.tmp 31) = .int .i64 ((q + 1 : Nat) : Int) := h1.2 31 _ rfl
    have e2 : a.eval (.tmp 31) = .int .i64 (q : Int) := hH.2 31 _ rfl
    rw [e1, e2]
    simp only [intOf]
    omega
  · obtain rfl : q = n := by omega
    have M0 : Mw (bn []) [] wr := ⟨bg_bn _, trivial⟩
    refine wp_seq ?_
    refine regM_seq (N := 104) (T := TD) (n := 1) (E2 := [(8, .v v), (9, .v (.bool true)), (10, .v (.pointer (some ⟨w.heap.size, 0, none⟩))), (12, .v (.iface (hU sz) (.pointer (some ⟨g, 0, none⟩)))), (32, .v (.bool (decide ((q : Int) < (q : Int)))))]) tabOkD hH M0 rfl (by kernel_rfl) ⟨by kernel_rfl, by kernel_rfl, by kernel_rfl, by kernel_rfl, by kernel_rfl, trivial⟩ (fun a1 h1 d1 => ?_)
    show Code.wp _ _ _ _ _
    refine wp_seq ?_
    refine wp_cond_false ((h1.2 32 _ rfl).trans (congrArg Value.bool (decide_eq_false (by omega)))) (wp_exit ?_)
    refine then_exit (then_exit (exit_in ?_))
    show Code.wp _ _ _ _ _
    exact run_end w wr B g w.heap.size sz (lx lk) v _ _ a1 hsz hI (sub_ok (E := [(8, .v v), (9, .v (.bool true)), (10, .v (.pointer (some ⟨w.heap.size, 0, none⟩))), (12, .v (.iface (hU sz) (.pointer (some ⟨g, 0, none⟩))))]) h1 ⟨by kernel_rfl, by kernel_rfl, by kernel_rfl, by kernel_rfl, trivial⟩) (d1.trans hd)
end Go.Proofs.YtnehminojlocoaaDoor.PAll
namespace Go.Proofs.YtnehminojlocoaaDoor.PAll
open Go.RowKit Go.Proofs.YtnehminojlocoaaDoorW.PrintWords Go.Proofs.YtnehminojlocoaaDoorW.PrintLast Go.Proofs.YtnehminojlocoaaDoorW.PrintMore
set_option linter.unusedVariables false
set_option linter.unusedSimpArgs false
section
variable {P : Program} {ops : Array Oper} {Q : Exit → Act → World → Prop} {N : Nat} {β : Nat → Nat}
/-- An operation whose guard is not met. -/
theorem skip_ops {i d j dj : Nat} {b b' : Bool} {o : Oper} {l : List Nat} {a : Act} {w : World} {E : List (Nat × SV)} (ho : ops[i]? = some o) (hg : o.guard = some (j, b)) (hj : (ops[j]?).bind (·.dst) = some dj) (hb : look E dj = some (.v (.bool b'))) (hne : b' ≠ b) (hd : o.dst = some d) (hN : d < N) (hA : Has N β E a)
    (h : ∀ a', Has N β ((d, .v undef) :: E) a' → a'.defers = a.defers → wpOps P ops Q l a' w) : wpOps P ops Q (i :: l) a w := by
  have h1 : a.eval (.tmp dj) = .bool b' := hA.2 dj _ hb
  have h2 : a.tmps[dj]? = some (.bool b') := by
    simp only [Act.eval] at h1
    rw [Array.getD_eq_getD_getElem?] at h1
    cases h3 : a.tmps[dj]? with
    | none =>
      rw [h3] at h1
      cases h1
    | some v =>
      rw [h3] at h1
      exact congrArg some h1
  have hw : Region.wanted o (yielded ops a.tmps) = false := by
    unfold Region.wanted yielded
    simp [hg, hj, h2, hne]
  unfold wpOps
  simp only [ho]
  rw [if_neg (by rw [hw]; decide), hd]
  exact h _ (hA.put d hN (.v undef)) rfl
/-- A call whose guard is met. -/
theorem callW_ops {i d f : Nat} {o : Oper} {fn : Func} {xs0 : Array Operand} {ts : Array TypeId} {args : List SV} {l : List Nat} {a : Act} {w : World} {E : List (Nat × SV)} (ho : ops[i]? = some o) (hw : Region.wanted o (yielded ops a.tmps) = true) (hd : o.dst = some d) (hN : d < N) (hA : Has N β E a) (hf : P.funcs[f]? = some fn) (hname : (fn.name == "runtime.NumGoroutine") = false) (hb : fn.body.isSome = true)
    (hop : o.op = .call { callee := .value (.func f), args := xs0, argTypes := ts }) (hargs : argL E xs0.toList = some args) (R : Value → World → Prop) (hC : Calls P f (args.map (SV.den β)).toArray w fun e w' => ∃ v, e = .returned v ∧ R v w')
    (h : ∀ v w' a', R v w' → Has N β ((d, .v v) :: E) a' → a'.defers = a.defers → wpOps P ops Q l a' w') : wpOps P ops Q (i :: l) a w := by
  have key := goes_ (P := P) (ops := ops) (Q := Q) (K := wpOps P ops Q l) (N := some d) (a := a) (w := w) hf hname hb (args.map (SV.den β)).toArray hw hd hop (by rw [← argL_ok hA hargs, ← Array.toList_map, Array.toArray_toList]) (hC.mono fun e w' hh => by
    obtain ⟨v, rfl, hr⟩ := hh
    exact ⟨v, rfl, h v w' _ hr (hA.put d hN (.v v)) rfl⟩)
  unfold wpOps
  simp only [ho]
  rw [if_pos hw] at key ⊢
  exact Or.inl key
section
variable {ρ : Operand → Value} {o : Oper} {W : World}
end
end
/-- A step in cells, its data wherever they lie. -/
abbrev KSl : Kd (Option Addr × Nat × Nat) := Kd.scalar (fun p => Value.slice p.1 p.2.1 p.2.2) (fun _ => rfl)
abbrev KStep : Kd (Int × (Option Addr × Nat × Nat) × Int) := Kd.pair (Kd.int .u8) (Kd.pair KSl (Kd.int .u64))
def StepR (W : World) (B : Nat) (v : Value) (S : List (Int × (Option Addr × Nat × Nat) × Int)) : Prop := Kd.R KStep 33 W B (fun _ => True) v S
def TextR (W : World) (B : Nat) (v : Value) (L : List Int) : Prop := Kd.R (Kd.int .u8) 5 W B (fun _ => True) v L
/-- A row that was there, read again in a later world. -/
theorem sz_law (a : Int) (h : 0 ≤ a) : ∃ z : Nat, laws_hashSize.f a = some (z : Int) ∧ (z = 8 ∨ z = 16 ∨ z = 32) := by
  have e : Int.tmod a 3 = a % 3 := Int.tmod_eq_emod_of_nonneg h
  unfold laws_hashSize.f
  rw [e, if_pos (by omega)]
  rcases (by omega : a % 3 = 0 ∨ a % 3 = 1 ∨ a % 3 = 2) with h | h | h
  all_goals rw [h]
  · exact ⟨8, by decide, Or.inl rfl⟩
  · exact ⟨16, by decide, Or.inr (Or.inl rfl)⟩
  · exact ⟨32, by decide, Or.inr (Or.inr rfl)⟩
theorem same_stp (l : List Int) (hl : l.length < 9223372036854775807) : ∀ (n i : Nat), i + n = l.length → spec_SameBytes.l0 (n + 1) l l (l.length : Int) (i : Int) = some true
  | 0, i, h => by
    unfold spec_SameBytes.l0
    rw [if_neg (by omega)]
  | n + 1, i, h => by
    unfold spec_SameBytes.l0
    have e : wrap64 ((i : Int) + 1) = ((i + 1 : Nat) : Int) := by
      unfold wrap64
      omega
    rw [if_pos (by omega), if_pos (by omega), if_pos (by omega), if_pos (by omega), if_pos rfl, e]
    exact same_stp l hl n (i + 1) (by omega)
theorem same_self (l : List Int) (hl : l.length < 9223372036854775807) : spec_SameBytes.f (l.length + 1) l l = some true := by
  unfold spec_SameBytes.f
  rw [if_pos rfl]
  exact same_stp l hl l.length 0 (by omega)
theorem fits1_step (pl : List S33) (hl : pl.length ≤ 9223372036854775807) : ∀ (n i : Nat), i + n = pl.length → ∃ r, laws_zzFits1.l0 (n + 1) pl (pl.length : Int) (i : Int) = some r
  | 0, i, h => by
    unfold laws_zzFits1.l0
    rw [if_neg (by omega)]
    exact ⟨_, rfl⟩
  | n + 1, i, h => by
    unfold laws_zzFits1.l0
    have e : wrap64 ((i : Int) + 1) = ((i + 1 : Nat) : Int) := by
      unfold wrap64
      omega
    rw [if_pos (by omega), if_pos (by omega), if_pos (by omega), e]
    unfold laws_zzFits2.f
    split
    · exact ⟨false, by simp⟩
    · obtain ⟨r, hr⟩ := fits1_step pl hl n (i + 1) (by omega)
      exact ⟨r, by simpa using hr⟩
theorem fits1_some (pl : List S33) (hl : pl.length ≤ 9223372036854775807) : ∃ k r, laws_zzFits1.f k pl = some r := by
  refine ⟨pl.length + 1, ?_⟩
  unfold laws_zzFits1.f
  split
  · exact ⟨_, rfl⟩
  · exact fits1_step pl hl pl.length 0 (by omega)
/-- The element q of a row of rows. -/
theorem piece_at {w : World} {A : Option Addr} {pl : List (List Int)} (hP : Kd.C KRows w A pl.length pl) (q : Nat) (p : List Int) (hq : pl[q]? = some p) : ∃ sb so A1 c1, A = some ⟨sb, so, none⟩ ∧ w.cell? ⟨sb, so + q * 1, none⟩ = some (.slice A1 p.length c1) ∧ p.length ≤ c1 ∧ Kd.C (Kd.int .u8) w A1 p.length p := by
  have hlt : q < pl.length := (List.getElem?_eq_some_iff.1 hq).1
  obtain ⟨ad, rfl, hc⟩ := hP.2.2 (by omega)
  obtain ⟨cs, h1, ⟨A1, c1, rfl, h2, h3⟩, h4⟩ := hc q p hq
  have h5 : w.cell? (ad.add (q * 1 + 0)) = some (.slice A1 p.length c1) := h4 0 _ rfl
  obtain ⟨cs0, _, ⟨A0, c0, rfl, _, _⟩, h6⟩ := hc 0 (pl[0]'(by omega)) (List.getElem?_eq_getElem (by omega))
  have h7 : w.cell? (ad.add (0 * 1 + 0)) = _ := h6 0 _ rfl
  have hs : ad.spot = none := cell_spot (a := ad) h7
  obtain ⟨b, o, sp⟩ := ad
  obtain rfl : sp = none := hs
  rw [addr_add] at h5
  exact ⟨b, o, A1, c1, rfl, h5, h2, h3⟩
end Go.Proofs.YtnehminojlocoaaDoor.PAll
namespace Go.Proofs.YtnehminojlocoaaDoor.PAll
open Go.RowKit Go.Proofs.YtnehminojlocoaaDoorW.PrintWords Go.Proofs.YtnehminojlocoaaDoorW.PrintLast Go.Proofs.YtnehminojlocoaaDoorW.PrintMore
open Go.ChangeShapes Go.WideShapes Go.Deep
set_option linter.unusedVariables false
set_option linter.unusedSimpArgs false
theorem wf_octs {l : List Int} (h : ∀ x ∈ l, (Lit.int .u8 x).wf = true) : octs l := fun x hx => by
  have := h x hx
  simp only [Lit.wf, Bool.and_eq_true, decide_eq_true_eq] at this
  obtain ⟨q1, q2⟩ := this
  exact ⟨q1, Int.lt_of_le_of_lt q2 (by decide)⟩
/-- Octets that came in, as the walks read them. -/
theorem cells_row {w : World} {x : Addr} {n cap : Nat} {zs : List Int} (hn : n ≤ cap) (hm : cap ≤ maxLen) (hz : zs.length = cap) (hc : ∀ i, i < cap → w.cell? (x.add i) = some (.int .u8 (zs.getD i 0))) : Kd.C (Kd.int .u8) w (some x) n (zs.take n) := by
  refine ⟨by rw [List.length_take, hz]; omega, by have : maxLen = 9223372036854775807 := rfl; omega, fun _ => ⟨_, rfl, fun j p hp => ⟨[.int .u8 p], rfl, rfl, fun i u hu => ?_⟩⟩⟩
  obtain ⟨hj, rfl⟩ := List.getElem?_eq_some_iff.1 hp
  have hj' : j < cap := by
    rw [List.length_take, hz] at hj
    omega
  cases i with
  | succ i => simp at hu
  | zero =>
    obtain rfl := Option.some.inj hu
    show w.cell? (x.add (j * 1 + 0)) = _
    rw [Nat.mul_one, Nat.add_zero, hc j hj', List.getElem_take, List.getD_eq_getElem?_getD, List.getElem?_eq_getElem (by omega)]
    rfl
theorem row_in {A : Option Addr} {len cap : Nat} {z : List Int} {w : World} (h : (A = none ∧ len = 0 ∧ cap = 0 ∧ z = []) ∨ ∃ x, A = some x ∧ len ≤ cap ∧ cap ≤ maxLen ∧ z.length = cap ∧ (∀ i, i < z.length → w.cell? (x.add i) = some (.int .u8 (z.getD i 0))) ∧ ∀ n ∈ z, (Lit.int .u8 n).wf = true) :
    ∃ l : List Int, l.length = len ∧ len ≤ cap ∧ Kd.C (Kd.int .u8) w A l.length l ∧ octs l := by
  rcases h with ⟨rfl, rfl, rfl, rfl⟩ | ⟨x, rfl, h1, h2, h3, h4, h5⟩
  · exact ⟨[], rfl, Nat.le_refl _, ⟨rfl, by decide, fun h => absurd h (by decide)⟩, fun x hx => by cases hx⟩
  · have hC := cells_row (w := w) (x := x) h1 h2 h3 (fun i hi => h4 i (by omega))
    have hl : (z.take len).length = len := by rw [List.length_take]; omega
    refine ⟨z.take len, hl, h1, ?_, fun x hx => wf_octs h5 x (List.mem_of_mem_take hx)⟩
    rw [hl]
    exact hC
/-- Rows of octets that came in. -/
def RowsIn (W : World) (a : Option Addr) (len cap : Nat) (z : List (List Int)) : Prop := z.length = len ∧ len ≤ cap ∧ Kd.C KRows W a z.length z ∧ ∀ l ∈ z, octs l
section
variable {H : Type} {enc : TypeId × Value → H} {P : Program} {W : World} {base : Nat} {held : Bool}
theorem nil_C (W : World) : Kd.C (Kd.int .u8) W none ([] : List Int).length ([] : List Int) := ⟨rfl, by decide, fun h => absurd h (by decide)⟩
instance : Inhabited S33 := ⟨z33⟩
/-- Steps that came in. -/
def StepsIn (W : World) (a : Option Addr) (len cap : Nat) (z : List S33) : Prop := z.length = len ∧ len ≤ cap ∧ Kd.C k33 W a z.length z ∧ ∀ x ∈ z, octs x.f1
theorem steps_of {t e q : TypeId} {f0 f1 f2 : Field} {a : Option Addr} {len cap : Nat} {d : DataW H} {ps : List MemPlace} (ht : P.underlying t = some (.slice e)) (he : P.underlying e = some (.struct #[f0, f1, f2])) (k0 : P.underlying f0.type = some (.int .u8)) (k1 : P.underlying f1.type = some (.slice q)) (k2 : P.underlying f2.type = some (.int .u64)) (kq : P.underlying q = some (.int .u8))
    (o0 : f0.offset = 0) (o1 : f1.offset = 1) (o2 : f2.offset = 2) (ce : P.cellsOf e = 3) (c0 : P.cellsOf f0.type = 1) (c1 : P.cellsOf f1.type = 1) (c2 : P.cellsOf f2.type = 1) (cq : P.cellsOf q = 1)
    (h : DataW.Trod enc P W base (fun _ => true) held t (.slice a len cap) d ps) : ∃ z : List S33, StepsIn W a len cap z := by
  obtain ⟨fuel, hf⟩ := h
  rcases open_slice ht hf with ⟨hcs, _⟩ | ⟨x, l, c, m, n, D, Pl, hcs, _, hl, hm, hmm, _, hx⟩
  · simp [Value.cells] at hcs
    obtain ⟨rfl, rfl, rfl⟩ := hcs
    exact ⟨[], rfl, Nat.le_refl _, ⟨rfl, by decide, fun h => absurd h (by decide)⟩, fun l hl => by cases hl⟩
  · simp [Value.cells] at hcs
    obtain ⟨rfl, rfl, rfl⟩ := hcs
    have hlm : len ≤ m := by rw [hmm]; split <;> omega
    have each : ∀ i, i < len → ∃ s : S33, octs s.f1 ∧ ∃ A1 c1, W.cell? (x.add (i * 3)) = some (.int .u8 s.f0) ∧ W.cell? (x.add (i * 3 + 1)) = some (.slice A1 s.f1.length c1) ∧ W.cell? (x.add (i * 3 + 2)) = some (.int .u64 s.f2) ∧ s.f1.length ≤ c1 ∧ Kd.C (Kd.int .u8) W A1 s.f1.length s.f1 := by
      intro i hi
      obtain ⟨cs', h1, h2⟩ := hx i (by omega)
      rw [ce] at h1
      obtain ⟨_, hlen, hcell⟩ := World.cells?_some h1
      obtain ⟨xs, k, hk, hxy, _, hxl, hf⟩ := DataW.trod_struct he h2
      match xs, hxl, cs', hlen with
      | [y0, y1, y2], _, [v0, v1, v2], _ =>
        have g0 := hf 0 f0 rfl
        have g1 := hf 1 f1 rfl
        have g2 := hf 2 f2 rfl
        simp [o0, o1, o2, c0, c1, c2] at g0 g1 g2
        have e0 := hcell 0 (by omega)
        have e1 := hcell 1 (by omega)
        have e2 := hcell 2 (by omega)
        rw [Deep.add_add] at e0 e1 e2
        obtain ⟨n0, r0, _, w0⟩ := DataW.trod_int k0 g0
        obtain ⟨n2, r2, _, w2⟩ := DataW.trod_int k2 g2
        simp at r0 r2
        subst r0 r2
        rcases open_ints k1 kq cq g1 with ⟨hcs, _⟩ | ⟨x1, l1, c1', zs, hcs, _, hl1, hm1, hz, _, hc1, hw1⟩
        · obtain rfl : v1 = .slice none 0 0 := by simpa using hcs
          exact ⟨⟨n0, [], n2⟩, (fun x hx => by cases hx), none, 0, by simpa using e0, by simpa using e1, by simpa using e2, Nat.le_refl 0, nil_C W⟩
        · obtain rfl : v1 = .slice (some x1) l1 c1' := by simpa using hcs
          simp only [if_true] at hz
          have hzl : (zs.take l1).length = l1 := by rw [List.length_take]; omega
          refine ⟨⟨n0, zs.take l1, n2⟩, fun y hy => wf_octs hw1 y (List.mem_of_mem_take hy), some x1, c1', by simpa using e0, ?_, by simpa using e2, ?_, ?_⟩
          · show W.cell? (x.add (i * 3 + 1)) = some (.slice (some x1) (zs.take l1).length c1')
            rw [hzl]
            simpa using e1
          · show (zs.take l1).length ≤ c1'
            omega
          · show Kd.C (Kd.int .u8) W (some x1) (zs.take l1).length (zs.take l1)
            rw [hzl]
            exact cells_row hl1 hm1 hz (fun j hj => hc1 j (by omega))
    obtain ⟨F, hF⟩ := choose_lt each
    have hlen : ((List.range len).map F).length = len := by simp
    refine ⟨(List.range len).map F, hlen, hl, ?_, fun y hy => ?_⟩
    · refine ⟨rfl, by rw [hlen]; have : maxLen = 9223372036854775807 := rfl; omega, fun _ => ⟨_, rfl, fun j p hp => ?_⟩⟩
      rw [List.getElem?_map] at hp
      obtain ⟨j', hj', rfl⟩ := Option.map_eq_some_iff.1 hp
      have hj : j < len := by
        have := (List.getElem?_eq_some_iff.1 hj').1
        simpa using this
      rw [List.getElem?_range hj] at hj'
      obtain rfl := Option.some.inj hj'
      obtain ⟨_, A1, c1', q0, q1, q2, q3, q4⟩ := hF j hj
      refine ⟨[.int .u8 (F j).f0, .slice A1 (F j).f1.length c1', .int .u64 (F j).f2], rfl, k33_mk W (F j) q3 q4, fun i u hu => ?_⟩
      have hi : i < 3 := (List.getElem?_eq_some_iff.1 hu).1
      match i, hi with
      | 0, _ =>
        obtain rfl := Option.some.inj hu
        exact q0
      | 1, _ =>
        obtain rfl := Option.some.inj hu
        exact q1
      | 2, _ =>
        obtain rfl := Option.some.inj hu
        exact q2
    · obtain ⟨r, hr, rfl⟩ := List.mem_map.1 hy
      exact (hF r (by simpa using hr)).1
end
end Go.Proofs.YtnehminojlocoaaDoor.PAll
namespace Go.Proofs.YtnehminojlocoaaDoor.PAll
open Go.RowKit Go.Proofs.YtnehminojlocoaaDoorW.PrintWords Go.Proofs.YtnehminojlocoaaDoorW.PrintLast Go.Proofs.YtnehminojlocoaaDoorW.PrintMore
set_option linter.unusedVariables false
set_option linter.unusedSimpArgs false
/-- append, with where the row lies then. -/
theorem app_ops4 {P : Program} {ops : Array Oper} {Q : Exit → Act → World → Prop} {N : Nat} {β : Nat → Nat} {α : Type} {i dst : Nat} {o : Oper} {l : List Nat} {a : Act} {E : List (Nat × SV)} (d : Kd α) {Rr : α → List Value → Prop} {w0 W : World} (base : Nat) (hoi : ops[i]? = some o) (hg : o.guard = none) (hd : o.dst = some dst) (hN : dst < N) (hA : Has N β E a) (s x : Operand) (t e : TypeId) (z : Value) (bytes : Nat)
    (ho : o.op = .call { callee := .builtin .append, args := #[s, x], argTypes := #[t, t] })
    (ht : P.underlying t = some (.slice e)) (hinfo : (P.info? e).map (fun i => (i.zero, i.size, i.bytes)) = some (some z, d.sz, bytes)) (hz : z.cells.size = d.sz) (hs0 : 0 < d.sz) (hb0 : 0 < bytes)
    (v : Value) (xs ys : List α) (A : Option Addr) (m c : Nat) (ok okp : Nat → Prop) (hs : a.eval s = v) (hx : a.eval x = .slice A m c)
    (HO : d.R e W base ok v xs) (HR : ReadsRow Rr d.sz W A m ys) (hKM : ∀ x cs, Rr x cs → d.M W base okp x cs) (hokp : ∀ k, okp k → ok k ∧ some k ≠ v.ownBlock) (hfresh : ∀ k, W.heap.size ≤ k → ok k)
    (HB : Below base w0 W) (hbase : base ≤ W.heap.size) (hl : (xs.length + m) * bytes ≤ 140737488355328)
    (h : ∀ v1 w1 a', d.R e w1 base ok v1 (xs ++ ys) → Below base w0 w1 → W.grownBy w1 v.ownBlock → (v1.ownBlock = v.ownBlock ∨ ∃ b, v1.ownBlock = some b ∧ W.heap.size ≤ b) → Has N β ((dst, .v v1) :: E) a' → a'.defers = a.defers → wpOps P ops Q l a' w1) : wpOps P ops Q (i :: l) a W := by
  have key := Kd.R_append_rows_step (Kc := wpOps P ops Q l) (Q := Q) (ops := ops) d base (want_ hg) s x t e z bytes ho ht hinfo hz hs0 hb0 v xs ys A m c ok okp hs hx HO HR hKM hokp hfresh HB hbase hl (fun v1 w1 h1 h2 h3 h4 => by
    rw [hd]
    exact h v1 w1 _ h1 h2 h3 h4 (hA.put dst hN (.v v1)) (put_defs _ _ _))
  rw [if_pos (want_ hg)] at key
  unfold wpOps
  simp only [hoi]
  rw [if_pos (want_ hg)]
  exact Or.inl key
theorem op_buildSlice0 {P : Program} {ρ : Operand → Value} {o : Oper} {W W1 : World} {t : TypeId} {r : Value} (ho : o.op = .buildSlice t 0 #[]) (h : (Instr.buildSlice t 0 #[]).run P W = .ok r W1) : (execOp ρ o).run P W = .ok (.value r) W1 := by
  unfold execOp
  rw [ho]
  simp only [List.map_toArray, List.map_nil, Sem.run_bind, h, Result.andThen_ok]
  rfl
theorem build_none (W : World) : (Instr.buildSlice 22 0 #[]).run Tryd.prog W = .ok (.slice (some ⟨W.heap.size, 0, none⟩) 0 0) (W.alloc (.cells #[] 5)) := by
  cases hq : Tryd.prog.info? 5 with
  | none => exact absurd (show (Tryd.prog.info? 5).isSome = true by kernel_rfl) (by simp [hq])
  | some ie =>
    have e : Array.range 0 = #[] := by simp
    simp [Instr.buildSlice, run_underlying Tryd.underlying22, Go.sizeOf, typeInfo, hq, newRow, Instr.fill, e]
theorem row_none (W : World) : TextR (W.alloc (.cells #[] 5)) W.heap.size (.slice (some ⟨W.heap.size, 0, none⟩) 0 0) [] :=
  ⟨fun _ _ => trivial, [], ⟨rfl, Or.inr ⟨W.heap.size, 0, #[], rfl, Nat.le_refl _, (MapKept.heap_alloc W _).1, Nat.le_refl _, by decide, rfl, rfl⟩⟩, Reps.none _ _⟩
theorem mw1 {b : Bl} {W : World} (h : b.In W) : Mw (bn [b.g]) [b] W := ⟨bg_bn _, h, by simp, trivial⟩
/-- The sums wanted: their rows are none of the text's. -/
def WantR (W : World) (B : Nat) (vt v : Value) (R : List (List Int)) : Prop := Kd.R KRows 22 W B (fun k => some k ≠ vt.ownBlock) v R
theorem WantR.text {W w1 : World} {B : Nat} {vt vt' v : Value} {R : List (List Int)} (h : WantR W B vt v R) (hg : W.grownBy w1 vt.ownBlock) (hn : vt'.ownBlock = vt.ownBlock ∨ ∃ b, vt'.ownBlock = some b ∧ W.heap.size ≤ b) : WantR w1 B vt' v R := by
  refine Kd.R_mono (Kd.R_grown (Kd.R_bound h) hg (fun k hk => hk.1)) (fun k hk e => ?_)
  rcases hn with hn | ⟨b, hn, hb⟩
  · exact hk.1 (e.trans hn)
  · have e1 : k = b := Option.some.inj (e.trans hn)
    have := hk.2.2.1
    omega
theorem WantR.onB {W W' : World} {B : Nat} {vt v : Value} {R : List (List Int)} (h : WantR W B vt v R) (hb : Below W.heap.size W W') : WantR W' B vt v R := Kd.R_below h hb
/-- Steps that came in. -/
theorem stepsAt_of {w : World} {A : Option Addr} {sl : List S33} (h : Kd.C k33 w A sl.length sl) : StepsAt A sl.length (fun i => (sl.getD i z33).f0) (fun i => (sl.getD i z33).f1) w := fun i hi => by
  obtain ⟨ad, rfl, hc⟩ := h.2.2 (by omega)
  have each : ∀ i (hi : i < sl.length), ∃ A1 c1 sd, (∀ j, j < 3 → w.cell? (ad.add (i * 3 + j)) = some (stp (sl.getD i z33).f0 A1 (sl.getD i z33).f1.length c1 sd j)) ∧ (sl.getD i z33).f1.length ≤ c1 ∧ Kd.C (Kd.int .u8) w A1 (sl.getD i z33).f1.length (sl.getD i z33).f1 := by
    intro i hi
    have e : sl.getD i z33 = sl[i] := by rw [List.getD_eq_getElem?_getD, List.getElem?_eq_getElem hi]; rfl
    obtain ⟨cs, _, h2, h3⟩ := hc i sl[i] (List.getElem?_eq_getElem hi)
    obtain ⟨A1, c1, rfl, h4, h5⟩ := k33_open h2
    rw [e]
    refine ⟨A1, c1, sl[i].f2, fun j hj => ?_, h4, h5⟩
    match j, hj with
    | 0, _ => exact h3 0 _ rfl
    | 1, _ => exact h3 1 _ rfl
    | 2, _ => exact h3 2 _ rfl
  obtain ⟨_, _, _, h0, _⟩ := each 0 (by omega)
  have hs : ad.spot = none := cell_spot (a := ad) (h0 0 (by decide))
  obtain ⟨A1, c1, sd, h1, h2⟩ := each i hi
  obtain ⟨b, o, sp⟩ := ad
  obtain rfl : sp = none := hs
  refine ⟨b, o, rfl, A1, c1, sd, fun j hj => ?_, h2⟩
  have h3 := h1 j hj
  rw [addr_add, ← Nat.add_assoc] at h3
  exact h3
end Go.Proofs.YtnehminojlocoaaDoor.PAll
namespace Go.Proofs.YtnehminojlocoaaDoor.PAll
open Go.RowKit Go.Proofs.YtnehminojlocoaaDoorW.PrintWords Go.Proofs.YtnehminojlocoaaDoorW.PrintLast Go.Proofs.YtnehminojlocoaaDoorW.PrintMore
set_option linter.unusedVariables false
set_option linter.unusedSimpArgs false
noncomputable def c4_0 : Code := match Tryd.f4.body with
  | some c => c
  | _ => .skip
noncomputable def c4_loop : Code := match c4_0 with
  | .seq _ (.seq _ (.seq _ (.seq _ (.seq _ (.seq _ (.seq (.seq _ (.block _ (.loop c))) _)))))) => c
  | _ => .skip
noncomputable def c4_26 : Code := match c4_0 with
  | .seq _ (.seq _ (.seq _ (.seq _ (.seq _ (.seq _ (.seq _ c)))))) => c
  | _ => .skip
noncomputable def c4_b2 : Code := match c4_loop with
  | .seq _ (.seq _ (.seq (.block _ (.seq _ (.seq _ (.seq _ (.block _ c))))) _)) => c
  | _ => .skip
theorem want_eq (sz : Nat) (hsz : sz = 8 ∨ sz = 16 ∨ sz = 32) (lk L : List Int) (ok_ : octs lk) (h32 : lk.length = 32) (ol : octs L) : outS (sz : Int) (hwS (lx lk) (lx L) L.length) = sumS (sz : Int) (hvS (lx lk) (lx L) L.length) := by
  have o1 := octs_oct ok_
  rw [h32] at o1
  obtain ⟨e1, e2⟩ := hv_law (lx lk) (lx L) L.length o1 (octs_oct ol)
  rw [e1, sum_law _ _ e2]
theorem hw_val (sz : Nat) (hsz : sz = 8 ∨ sz = 16 ∨ sz = 32) (K A : Option Addr) (kc c : Nat) (lk L : List Int) (w : World) (hK : Kd.C (Kd.int .u8) w K lk.length lk) (hkc : lk.length ≤ kc) (hL : Kd.C (Kd.int .u8) w A L.length L) (hc : L.length ≤ c) (ok_ : octs lk) (h32 : lk.length = 32) (ol : octs L) :
    Calls Tryd.prog 11 #[.int .i64 (sz : Int), .slice K lk.length kc, .slice A L.length c] w fun e w' => ∃ v, e = .returned v ∧ Kd.R (Kd.int .u8) 5 w' w.heap.size (fun _ => True) v (sumS (sz : Int) (hvS (lx lk) (lx L) L.length)) ∧ Below w.heap.size w w' := by
  rw [← want_eq sz hsz lk L ok_ h32 ol]
  refine hwf_calls (sz : Int) K kc lk A c L _ w hK hkc hL hc ?_
  unfold hwf
  have h8 : (sz : Int) = 8 ∨ (sz : Int) = 16 ∨ (sz : Int) = 32 := by omega
  rw [if_pos ⟨h8, h32, ok_, ol, hL.2.1⟩]
/-- What is known while the law's first loop runs: the text L in vt, the sums R wanted in vw. -/
structure LInv (w W : World) (vt vw : Value) (L : List Int) (R : List (List Int)) : Prop where
  below : Below w.heap.size w W
  text : TextR W w.heap.size vt L
  want : WantR W w.heap.size vt vw R
  octs_ : octs L
theorem LInv.keep {w W W' : World} {vt vw : Value} {L : List Int} {R : List (List Int)} (h : LInv w W vt vw L R) (hb : Below W.heap.size W W') : LInv w W' vt vw L R := ⟨h.below.trans (hb.mono h.below.size), Kd.R_below h.text hb, h.want.onB hb, h.octs_⟩
theorem octs_app {x y : List Int} (h : octs x) (k : octs y) : octs (x ++ y) := fun z hz => by
  rcases List.mem_append.1 hz with h1 | h1
  · exact h z h1
  · exact k z h1
set_option maxHeartbeats 8000000 in
set_option maxRecDepth 100000 in
theorem law_k0 (a0 : Int) (ha : 0 ≤ a0) (K : Option Addr) (kc : Nat) (lk : List Int) (dg : Bool) (A : Option Addr) (c : Nat) (sl : List S33) (w : World) (hK : Kd.C (Kd.int .u8) w K lk.length lk) (hkc : lk.length ≤ kc) (ok_ : octs lk) (hSl : Kd.C k33 w A sl.length sl) (hsc : sl.length ≤ c) (os_ : ∀ x ∈ sl, octs x.f1) (h32 : lk.length = 32) (sz : Nat) (hsz : sz = 8 ∨ sz = 16 ∨ sz = 32) (q : Nat) (W : World) (vt vw : Value) (L : List Int) (R : List (List Int)) (e : Nat) (A1 : Option Addr) (c1 : Nat) (sd : Int) (hI : LInv w W vt vw L R) (hLl : L.length ≤ 8192) (hRl : R.length < 1048576) (he : (⟨e, 33, 3, stp (sl.getD q z33).f0 A1 (sl.getD q z33).f1.length c1 sd⟩ : Bl).In W) (hc1 : (sl.getD q z33).f1.length ≤ c1) (hC1 : Kd.C (Kd.int .u8) w A1 (sl.getD q z33).f1.length (sl.getD q z33).f1) (hdl : (sl.getD q z33).f1.length ≤ 8192) (hdo : octs (sl.getD q z33).f1) (a0_ : Act) (Q : Exit → Act → World → Prop)
    (h0 : Has 137 (bn [e]) [(1, .v (.slice K lk.length kc)), (2, .v (.bool dg)), (3, .v (.slice A sl.length c)), (9, .v (.int .i64 (sz : Int))), (10, .v vt), (11, .v vw), (13, .p 0 0), (37, .v (.slice A sl.length c)), (38, .v (.int .i64 (sl.length : Int))), (39, .v (.int .i64 (q : Int))), (53, .v (.int .u8 (sl.getD q z33).f0))] a0_) (hKc : ∀ a' W' vt' vw', Has 137 (bn []) [(1, .v (.slice K lk.length kc)), (2, .v (.bool dg)), (3, .v (.slice A sl.length c)), (9, .v (.int .i64 (sz : Int))), (10, .v vt'), (11, .v vw'), (37, .v (.slice A sl.length c)), (38, .v (.int .i64 (sl.length : Int))), (39, .v (.int .i64 (q : Int)))] a' → a'.defers = a0_.defers → LInv w W' vt' vw' (L ++ (sl.getD q z33).f1) (R) → Q .normal a' W') : Code.wp Tryd.prog (cThen c4_b2) Q a0_ W := by
  have d0 : a0_.defers = a0_.defers := rfl
  have M0 := mw1 he
  refine wp_region ?_
  refine opsP (N := 137) (T := TD) (M := bm [⟨e, 33, 3, stp (sl.getD q z33).f0 A1 (sl.getD q z33).f1.length c1 sd⟩]) tabOkD M0.mem [2, 3, 4] [0, 1] [(1, .v (.slice K lk.length kc)), (2, .v (.bool dg)), (3, .v (.slice A sl.length c)), (9, .v (.int .i64 (sz : Int))), (10, .v vt), (11, .v vw), (13, .p 0 0), (37, .v (.slice A sl.length c)), (38, .v (.int .i64 (sl.length : Int))), (39, .v (.int .i64 (q : Int))), (53, .v (.int .u8 (sl.getD q z33).f0)), (56, .v vt), (57, .p 0 1)] h0 (by kernel_rfl) ⟨by kernel_rfl, by kernel_rfl, by kernel_rfl, by kernel_rfl, by kernel_rfl, by kernel_rfl, by kernel_rfl, by kernel_rfl, by kernel_rfl, by kernel_rfl, by kernel_rfl, by kernel_rfl, by kernel_rfl, trivial⟩ (fun a1 h1 d1 => ?_)
  replace d1 := d1.trans d0
  clear h0 d0
  refine givenW_ops (N := 137) (i := 2) (d := 58) (s := .v (.slice A1 (sl.getD q z33).f1.length c1)) (l := [3, 4]) rfl (want_ rfl) rfl (by decide) h1 (op_load rfl (h1.2 57 _ rfl) Tryd.isAgg22 (he.cell 1 (show 1 < 3 by decide))) (fun a2 h2 d2 => ?_)
  replace d2 := d2.trans d1
  clear h1 d1
  refine app_ops4 (N := 137) (i := 3) (dst := 59) (l := [4]) (Kd.int .u8) (w0 := w) w.heap.size rfl rfl rfl (by decide) h2 (.tmp 56) (.tmp 58) 22 5 (.int .u8 0) 1 rfl Tryd.underlying22 (by kernel_rfl) rfl (by decide) (by decide) vt L (sl.getD q z33).f1 A1 (sl.getD q z33).f1.length c1 (fun _ => True) (fun _ => False) (h2.2 56 _ rfl) (h2.2 58 _ rfl) hI.text (Kd.C_below hC1 hI.below) (fun _ _ h => h) (fun _ h => h.elim) (fun _ _ => trivial) hI.below hI.below.size (by omega) (fun v9 W9 a3 hT9 hw9 hg9 hn9 h3 d3 => ?_)
  replace d3 := d3.trans d2
  clear h2 d2
  refine opsP (N := 137) (T := TD) (M := (fun _ _ => none)) tabOkD (fun _ _ _ h => by cases h) [] [4] [(1, .v (.slice K lk.length kc)), (2, .v (.bool dg)), (3, .v (.slice A sl.length c)), (9, .v (.int .i64 (sz : Int))), (10, .v v9), (11, .v vw), (13, .p 0 0), (37, .v (.slice A sl.length c)), (38, .v (.int .i64 (sl.length : Int))), (39, .v (.int .i64 (q : Int))), (53, .v (.int .u8 (sl.getD q z33).f0))] h3 (by kernel_rfl) ⟨by kernel_rfl, by kernel_rfl, by kernel_rfl, by kernel_rfl, by kernel_rfl, by kernel_rfl, by kernel_rfl, by kernel_rfl, by kernel_rfl, by kernel_rfl, by kernel_rfl, trivial⟩ (fun a4 h4 d4 => ?_)
  replace d4 := d4.trans d3
  clear h3 d3
  exact hKc a4 W9 v9 vw (has_list (β := bn []) (a := a4) h4.1 (E := [(1, .v (.slice K lk.length kc)), (2, .v (.bool dg)), (3, .v (.slice A sl.length c)), (9, .v (.int .i64 (sz : Int))), (10, .v v9), (11, .v vw), (37, .v (.slice A sl.length c)), (38, .v (.int .i64 (sl.length : Int))), (39, .v (.int .i64 (q : Int)))]) ⟨h4.2 1 _ rfl, h4.2 2 _ rfl, h4.2 3 _ rfl, h4.2 9 _ rfl, h4.2 10 _ rfl, h4.2 11 _ rfl, h4.2 37 _ rfl, h4.2 38 _ rfl, h4.2 39 _ rfl, trivial⟩) d4 ⟨hw9, hT9, hI.want.text hg9 hn9, octs_app hI.octs_ hdo⟩
theorem one_row2 {W0 W : World} {B : Nat} {v vt : Value} {xs : List Int} {A : Option Addr} {n c : Nat} (h : Kd.R (Kd.int .u8) 5 W W0.heap.size (fun _ => True) (.slice A n c) xs) (hB : B ≤ W0.heap.size) (hv : ∀ k, v.ownBlock = some k → k < W0.heap.size) (ht : ∀ k, vt.ownBlock = some k → k < W0.heap.size) :
    ReadsRow ((Kd.slice 5 (Kd.int .u8)).M (W.alloc (.cells #[.slice A n c] 22)) B (fun k => W0.heap.size ≤ k)) 1 (W.alloc (.cells #[.slice A n c] 22)) (some ⟨W.heap.size, 0, none⟩) 1 [xs] ∧ ∀ k, W0.heap.size ≤ k → some k ≠ vt.ownBlock ∧ some k ≠ v.ownBlock := by
  obtain ⟨h1, h2⟩ := one_row h hB hv
  refine ⟨h1, fun k hk => ⟨fun e => ?_, (h2 k hk).2⟩⟩
  have := ht k e.symm
  omega
/-- The wanted sums grow: the text is as it was. -/
theorem text_push {W w1 : World} {B : Nat} {vt vw : Value} {L : List Int} {R : List (List Int)} (ht : TextR W B vt L) (hw : WantR W B vt vw R) (hg : W.grownBy w1 vw.ownBlock) : TextR w1 B vt L :=
  Kd.R_mono (Kd.R_grown (Kd.R_bound ht) hg (fun k hk e => by
    obtain ⟨_, _, _, q, hq, cells, hc⟩ := hk
    obtain ⟨cells', hc'⟩ := Kd.R_typed hw k e.symm
    obtain rfl : q = 5 := by simpa [Kd.int, Kd.scalar] using hq
    rw [hc'] at hc
    injection hc with hc
    injection hc with _ hc
    exact absurd hc (by decide))) (fun _ _ => trivial)
set_option maxHeartbeats 8000000 in
set_option maxRecDepth 100000 in
theorem law_k1 (a0 : Int) (ha : 0 ≤ a0) (K : Option Addr) (kc : Nat) (lk : List Int) (dg : Bool) (A : Option Addr) (c : Nat) (sl : List S33) (w : World) (hK : Kd.C (Kd.int .u8) w K lk.length lk) (hkc : lk.length ≤ kc) (ok_ : octs lk) (hSl : Kd.C k33 w A sl.length sl) (hsc : sl.length ≤ c) (os_ : ∀ x ∈ sl, octs x.f1) (h32 : lk.length = 32) (sz : Nat) (hsz : sz = 8 ∨ sz = 16 ∨ sz = 32) (q : Nat) (W : World) (vt vw : Value) (L : List Int) (R : List (List Int)) (e : Nat) (A1 : Option Addr) (c1 : Nat) (sd : Int) (hI : LInv w W vt vw L R) (hLl : L.length ≤ 8192) (hRl : R.length < 1048576) (he : (⟨e, 33, 3, stp (sl.getD q z33).f0 A1 (sl.getD q z33).f1.length c1 sd⟩ : Bl).In W) (hc1 : (sl.getD q z33).f1.length ≤ c1) (hC1 : Kd.C (Kd.int .u8) w A1 (sl.getD q z33).f1.length (sl.getD q z33).f1) (hdl : (sl.getD q z33).f1.length ≤ 8192) (hdo : octs (sl.getD q z33).f1) (a0_ : Act) (Q : Exit → Act → World → Prop)
    (h0 : Has 137 (bn [e]) [(1, .v (.slice K lk.length kc)), (2, .v (.bool dg)), (3, .v (.slice A sl.length c)), (9, .v (.int .i64 (sz : Int))), (10, .v vt), (11, .v vw), (13, .p 0 0), (37, .v (.slice A sl.length c)), (38, .v (.int .i64 (sl.length : Int))), (39, .v (.int .i64 (q : Int))), (53, .v (.int .u8 (sl.getD q z33).f0))] a0_) (hKc : ∀ a' W' vt' vw', Has 137 (bn []) [(1, .v (.slice K lk.length kc)), (2, .v (.bool dg)), (3, .v (.slice A sl.length c)), (9, .v (.int .i64 (sz : Int))), (10, .v vt'), (11, .v vw'), (37, .v (.slice A sl.length c)), (38, .v (.int .i64 (sl.length : Int))), (39, .v (.int .i64 (q : Int)))] a' → a'.defers = a0_.defers → LInv w W' vt' vw' (L) (R ++ [((sl.getD q z33).f1 ++ (sumS (sz : Int) (hvS (lx lk) (lx L) L.length)))]) → Q .normal a' W') : Code.wp Tryd.prog (cThen (cElse c4_b2)) Q a0_ W := by
  have d0 : a0_.defers = a0_.defers := rfl
  have M0 := mw1 he
  obtain ⟨At, ct, rfl, hct, hCt⟩ := Kd.R_reads hI.text
  have hvl : ∀ k, vw.ownBlock = some k → k < W.heap.size := by
    obtain ⟨inner, ho⟩ := Kd.R_own hI.want
    exact own_lt ho
  have htl : ∀ k, Value.ownBlock (.slice At L.length ct) = some k → k < W.heap.size := by
    obtain ⟨inner, ho⟩ := Kd.R_own hI.text
    exact own_lt ho
  refine wp_region ?_
  refine opsP (N := 137) (T := TD) (M := bm [⟨e, 33, 3, stp (sl.getD q z33).f0 A1 (sl.getD q z33).f1.length c1 sd⟩]) tabOkD M0.mem [1, 2, 3, 4, 5, 6, 7, 8, 9, 10, 11, 12] [0] [(1, .v (.slice K lk.length kc)), (2, .v (.bool dg)), (3, .v (.slice A sl.length c)), (9, .v (.int .i64 (sz : Int))), (10, .v (.slice At L.length ct)), (11, .v vw), (13, .p 0 0), (37, .v (.slice A sl.length c)), (38, .v (.int .i64 (sl.length : Int))), (39, .v (.int .i64 (q : Int))), (53, .v (.int .u8 (sl.getD q z33).f0)), (62, .v vw)] h0 (by kernel_rfl) ⟨by kernel_rfl, by kernel_rfl, by kernel_rfl, by kernel_rfl, by kernel_rfl, by kernel_rfl, by kernel_rfl, by kernel_rfl, by kernel_rfl, by kernel_rfl, by kernel_rfl, by kernel_rfl, trivial⟩ (fun a1 h1 d1 => ?_)
  replace d1 := d1.trans d0
  clear h0 d0
  refine new_ops (N := 137) (i := 1) (d := 63) (l := [2, 3, 4, 5, 6, 7, 8, 9, 10, 11, 12]) rfl rfl rfl (by decide) h1 (op_buildSlice0 rfl (build_none W)) (fun a2 h2 d2 => ?_)
  replace d2 := d2.trans d1
  clear h1 d1
  have hr1 := row_none W
  have hb1 : Below W.heap.size W (W.alloc (.cells #[] 5)) := (Below.refl _ _).alloc (Nat.le_refl _) _
  generalize W.alloc (.cells #[] 5) = W1 at hr1 hb1 ⊢
  have he1 := he.on (Fr.ofBelow [] hb1) (by simp)
  have M1 := mw1 he1
  have hI1 := hI.keep hb1
  refine opsP (N := 137) (T := TD) (M := bm [⟨e, 33, 3, stp (sl.getD q z33).f0 A1 (sl.getD q z33).f1.length c1 sd⟩]) tabOkD M1.mem [3, 4, 5, 6, 7, 8, 9, 10, 11, 12] [2] [(1, .v (.slice K lk.length kc)), (2, .v (.bool dg)), (3, .v (.slice A sl.length c)), (9, .v (.int .i64 (sz : Int))), (10, .v (.slice At L.length ct)), (11, .v vw), (13, .p 0 0), (37, .v (.slice A sl.length c)), (38, .v (.int .i64 (sl.length : Int))), (39, .v (.int .i64 (q : Int))), (53, .v (.int .u8 (sl.getD q z33).f0)), (62, .v vw), (63, .v (.slice (some ⟨W.heap.size, 0, none⟩) 0 0)), (64, .p 0 1)] h2 (by kernel_rfl) ⟨by kernel_rfl, by kernel_rfl, by kernel_rfl, by kernel_rfl, by kernel_rfl, by kernel_rfl, by kernel_rfl, by kernel_rfl, by kernel_rfl, by kernel_rfl, by kernel_rfl, by kernel_rfl, by kernel_rfl, by kernel_rfl, trivial⟩ (fun a3 h3 d3 => ?_)
  replace d3 := d3.trans d2
  clear h2 d2
  refine givenW_ops (N := 137) (i := 3) (d := 65) (s := .v (.slice A1 (sl.getD q z33).f1.length c1)) (l := [4, 5, 6, 7, 8, 9, 10, 11, 12]) rfl (want_ rfl) rfl (by decide) h3 (op_load rfl (h3.2 64 _ rfl) Tryd.isAgg22 (he1.cell 1 (show 1 < 3 by decide))) (fun a4 h4 d4 => ?_)
  replace d4 := d4.trans d3
  clear h3 d3
  refine app_ops4 (N := 137) (i := 4) (dst := 66) (l := [5, 6, 7, 8, 9, 10, 11, 12]) (Kd.int .u8) (w0 := W) W.heap.size rfl rfl rfl (by decide) h4 (.tmp 63) (.tmp 65) 22 5 (.int .u8 0) 1 rfl Tryd.underlying22 (by kernel_rfl) rfl (by decide) (by decide) (.slice (some ⟨W.heap.size, 0, none⟩) 0 0) [] (sl.getD q z33).f1 A1 (sl.getD q z33).f1.length c1 (fun _ => True) (fun _ => False) (h4.2 63 _ rfl) (h4.2 65 _ rfl) hr1 (Kd.C_below hC1 hI1.below) (fun _ _ h => h) (fun _ h => h.elim) (fun _ _ => trivial) hb1 hb1.size (by first | omega | (simp only [List.length_nil]; omega)) (fun v2 W2 a5 hr2 hb2 hg2 hn2 h5 d5 => ?_)
  replace d5 := d5.trans d4
  clear h4 d4
  rw [List.nil_append] at hr2
  have hI2 := hI.keep hb2
  have hCt2 := Kd.C_below hCt hb2
  have hK2 := Kd.C_below hK hI2.below
  refine opsP (N := 137) (T := TD) (M := (fun _ _ => none)) tabOkD (fun _ _ _ h => by cases h) [8, 9, 10, 11, 12] [5, 6, 7] [(1, .v (.slice K lk.length kc)), (2, .v (.bool dg)), (3, .v (.slice A sl.length c)), (9, .v (.int .i64 (sz : Int))), (10, .v (.slice At L.length ct)), (11, .v vw), (13, .p 0 0), (37, .v (.slice A sl.length c)), (38, .v (.int .i64 (sl.length : Int))), (39, .v (.int .i64 (q : Int))), (53, .v (.int .u8 (sl.getD q z33).f0)), (62, .v vw), (66, .v v2), (67, .v (.int .i64 (sz : Int))), (68, .v (.slice K lk.length kc)), (69, .v (.slice At L.length ct))] h5 (by kernel_rfl) ⟨by kernel_rfl, by kernel_rfl, by kernel_rfl, by kernel_rfl, by kernel_rfl, by kernel_rfl, by kernel_rfl, by kernel_rfl, by kernel_rfl, by kernel_rfl, by kernel_rfl, by kernel_rfl, by kernel_rfl, by kernel_rfl, by kernel_rfl, by kernel_rfl, trivial⟩ (fun a6 h6 d6 => ?_)
  replace d6 := d6.trans d5
  clear h5 d5
  refine callW_ops (N := 137) (i := 8) (d := 70) (f := 11) (args := [.v (.int .i64 (sz : Int)), .v (.slice K lk.length kc), .v (.slice At L.length ct)]) (l := [9, 10, 11, 12]) rfl (want_ rfl) rfl (by decide) h6 Tryd.func11 rfl rfl rfl (by kernel_rfl) (fun v1 W1 => Kd.R (Kd.int .u8) 5 W1 W2.heap.size (fun _ => True) v1 (sumS (sz : Int) (hvS (lx lk) (lx L) L.length)) ∧ Below W2.heap.size W2 W1) ((hw_val sz hsz K At kc ct lk L W2 hK2 hkc hCt2 hct ok_ h32 hI.octs_).mono fun e' W' hh => ?_) (fun v7 W7 a7 hR7 h7 d7 => ?_)
  · obtain ⟨v, e1, e2, e3⟩ := hh
    exact ⟨v, e1, e2, e3⟩
  replace d7 := d7.trans d6
  clear h6 d6
  obtain ⟨hr3, hb3⟩ := hR7
  obtain ⟨A3, c3, rfl, hc3, hC3⟩ := Kd.R_reads hr3
  have hr23 := Kd.R_below hr2 hb3
  have hb3' : Below W.heap.size W W7 := hb2.trans (hb3.mono hb2.size)
  have hxl : (sumS (sz : Int) (hvS (lx lk) (lx L) L.length)).length ≤ 32 := by rw [sumS_len sz hsz]; omega
  refine app_ops4 (N := 137) (i := 9) (dst := 71) (l := [10, 11, 12]) (Kd.int .u8) (w0 := W) W.heap.size rfl rfl rfl (by decide) h7 (.tmp 66) (.tmp 70) 22 5 (.int .u8 0) 1 rfl Tryd.underlying22 (by kernel_rfl) rfl (by decide) (by decide) v2 (sl.getD q z33).f1 (sumS (sz : Int) (hvS (lx lk) (lx L) L.length)) A3 (sumS (sz : Int) (hvS (lx lk) (lx L) L.length)).length c3 (fun _ => True) (fun _ => False) (h7.2 66 _ rfl) (h7.2 70 _ rfl) hr23 hC3 (fun _ _ h => h) (fun _ h => h.elim) (fun _ _ => trivial) hb3' hb3'.size (by first | omega | (simp only [List.length_nil]; omega)) (fun v4 W4 a8 hr4 hb4 hg4 hn4 h8 d8 => ?_)
  replace d8 := d8.trans d7
  clear h7 d7
  obtain ⟨A4, c4, rfl⟩ := Kd.R_slice hr4
  refine new_ops (N := 137) (i := 10) (d := 72) (l := [11, 12]) rfl rfl rfl (by decide) h8 (op_buildSlice1 rfl (h8.2 71 _ rfl) (build_row W4 A4 _ c4)) (fun a9 h9 d9 => ?_)
  replace d9 := d9.trans d8
  clear h8 d8
  have hal : Below W4.heap.size W4 (W4.alloc (.cells #[.slice A4 ((sl.getD q z33).f1 ++ (sumS (sz : Int) (hvS (lx lk) (lx L) L.length))).length c4] 22)) := (Below.refl _ _).alloc (Nat.le_refl _) _
  have hb5 : Below W.heap.size W (W4.alloc (.cells #[.slice A4 ((sl.getD q z33).f1 ++ (sumS (sz : Int) (hvS (lx lk) (lx L) L.length))).length c4] 22)) := hb4.trans (hal.mono hb4.size)
  have hI5 := hI.keep hb5
  obtain ⟨hRR, hokp⟩ := one_row2 hr4 hI.below.size hvl htl
  refine app_ops4 (N := 137) (i := 11) (dst := 73) (l := [12]) KRows (w0 := w) w.heap.size rfl rfl rfl (by decide) h9 (.tmp 62) (.tmp 72) 23 22 (.slice none 0 0) 24 rfl Tryd.underlying23 (by kernel_rfl) rfl (by decide) (by decide) vw R [((sl.getD q z33).f1 ++ (sumS (sz : Int) (hvS (lx lk) (lx L) L.length)))] (some ⟨W4.heap.size, 0, none⟩) 1 1 (fun k => some k ≠ Value.ownBlock (.slice At L.length ct)) (fun k => W.heap.size ≤ k) (h9.2 62 _ rfl) (h9.2 72 _ rfl) hI5.want hRR (fun _ _ h => h) hokp (fun k hk e => by have := htl k e.symm; have := hb5.size; omega) hI5.below hI5.below.size (by omega) (fun v6 W6 a10 hw6 hb6 hg6 hn6 h10 d10 => ?_)
  replace d10 := d10.trans d9
  clear h9 d9
  have hT6 : TextR W6 w.heap.size (.slice At L.length ct) L := text_push hI5.text hI5.want hg6
  refine opsP (N := 137) (T := TD) (M := (fun _ _ => none)) tabOkD (fun _ _ _ h => by cases h) [] [12] [(1, .v (.slice K lk.length kc)), (2, .v (.bool dg)), (3, .v (.slice A sl.length c)), (9, .v (.int .i64 (sz : Int))), (10, .v (.slice At L.length ct)), (11, .v v6), (13, .p 0 0), (37, .v (.slice A sl.length c)), (38, .v (.int .i64 (sl.length : Int))), (39, .v (.int .i64 (q : Int))), (53, .v (.int .u8 (sl.getD q z33).f0))] h10 (by kernel_rfl) ⟨by kernel_rfl, by kernel_rfl, by kernel_rfl, by kernel_rfl, by kernel_rfl, by kernel_rfl, by kernel_rfl, by kernel_rfl, by kernel_rfl, by kernel_rfl, by kernel_rfl, trivial⟩ (fun a11 h11 d11 => ?_)
  replace d11 := d11.trans d10
  clear h10 d10
  exact hKc a11 W6 (.slice At L.length ct) v6 (has_list (β := bn []) (a := a11) h11.1 (E := [(1, .v (.slice K lk.length kc)), (2, .v (.bool dg)), (3, .v (.slice A sl.length c)), (9, .v (.int .i64 (sz : Int))), (10, .v (.slice At L.length ct)), (11, .v v6), (37, .v (.slice A sl.length c)), (38, .v (.int .i64 (sl.length : Int))), (39, .v (.int .i64 (q : Int)))]) ⟨h11.2 1 _ rfl, h11.2 2 _ rfl, h11.2 3 _ rfl, h11.2 9 _ rfl, h11.2 10 _ rfl, h11.2 11 _ rfl, h11.2 37 _ rfl, h11.2 38 _ rfl, h11.2 39 _ rfl, trivial⟩) d11 ⟨hb6, hT6, hw6, hI.octs_⟩
set_option maxHeartbeats 8000000 in
set_option maxRecDepth 100000 in
theorem law_k2 (a0 : Int) (ha : 0 ≤ a0) (K : Option Addr) (kc : Nat) (lk : List Int) (dg : Bool) (A : Option Addr) (c : Nat) (sl : List S33) (w : World) (hK : Kd.C (Kd.int .u8) w K lk.length lk) (hkc : lk.length ≤ kc) (ok_ : octs lk) (hSl : Kd.C k33 w A sl.length sl) (hsc : sl.length ≤ c) (os_ : ∀ x ∈ sl, octs x.f1) (h32 : lk.length = 32) (sz : Nat) (hsz : sz = 8 ∨ sz = 16 ∨ sz = 32) (q : Nat) (W : World) (vt vw : Value) (L : List Int) (R : List (List Int)) (e : Nat) (A1 : Option Addr) (c1 : Nat) (sd : Int) (hI : LInv w W vt vw L R) (hLl : L.length ≤ 8192) (hRl : R.length < 1048576) (he : (⟨e, 33, 3, stp (sl.getD q z33).f0 A1 (sl.getD q z33).f1.length c1 sd⟩ : Bl).In W) (hc1 : (sl.getD q z33).f1.length ≤ c1) (hC1 : Kd.C (Kd.int .u8) w A1 (sl.getD q z33).f1.length (sl.getD q z33).f1) (hdl : (sl.getD q z33).f1.length ≤ 8192) (hdo : octs (sl.getD q z33).f1) (a0_ : Act) (Q : Exit → Act → World → Prop)
    (h0 : Has 137 (bn [e]) [(1, .v (.slice K lk.length kc)), (2, .v (.bool dg)), (3, .v (.slice A sl.length c)), (9, .v (.int .i64 (sz : Int))), (10, .v vt), (11, .v vw), (13, .p 0 0), (37, .v (.slice A sl.length c)), (38, .v (.int .i64 (sl.length : Int))), (39, .v (.int .i64 (q : Int))), (53, .v (.int .u8 (sl.getD q z33).f0))] a0_) (hKc : ∀ a' W' vt' vw', Has 137 (bn []) [(1, .v (.slice K lk.length kc)), (2, .v (.bool dg)), (3, .v (.slice A sl.length c)), (9, .v (.int .i64 (sz : Int))), (10, .v vt'), (11, .v vw'), (37, .v (.slice A sl.length c)), (38, .v (.int .i64 (sl.length : Int))), (39, .v (.int .i64 (q : Int)))] a' → a'.defers = a0_.defers → LInv w W' vt' vw' ([]) (R) → Q .normal a' W') : Code.wp Tryd.prog (cThen (cElse (cElse c4_b2))) Q a0_ W := by
  have d0 : a0_.defers = a0_.defers := rfl
  have M0 := mw1 he
  refine wp_region ?_
  refine opsP (N := 137) (T := TD) (M := bm [⟨e, 33, 3, stp (sl.getD q z33).f0 A1 (sl.getD q z33).f1.length c1 sd⟩]) tabOkD M0.mem [] [0] [(1, .v (.slice K lk.length kc)), (2, .v (.bool dg)), (3, .v (.slice A sl.length c)), (9, .v (.int .i64 (sz : Int))), (10, .v (.slice none 0 0)), (11, .v vw), (13, .p 0 0), (37, .v (.slice A sl.length c)), (38, .v (.int .i64 (sl.length : Int))), (39, .v (.int .i64 (q : Int))), (53, .v (.int .u8 (sl.getD q z33).f0))] h0 (by kernel_rfl) ⟨by kernel_rfl, by kernel_rfl, by kernel_rfl, by kernel_rfl, by kernel_rfl, by kernel_rfl, by kernel_rfl, by kernel_rfl, by kernel_rfl, by kernel_rfl, by kernel_rfl, trivial⟩ (fun a1 h1 d1 => ?_)
  replace d1 := d1.trans d0
  clear h0 d0
  exact hKc a1 W (.slice none 0 0) vw (has_list (β := bn []) (a := a1) h1.1 (E := [(1, .v (.slice K lk.length kc)), (2, .v (.bool dg)), (3, .v (.slice A sl.length c)), (9, .v (.int .i64 (sz : Int))), (10, .v (.slice none 0 0)), (11, .v vw), (37, .v (.slice A sl.length c)), (38, .v (.int .i64 (sl.length : Int))), (39, .v (.int .i64 (q : Int)))]) ⟨h1.2 1 _ rfl, h1.2 2 _ rfl, h1.2 3 _ rfl, h1.2 9 _ rfl, h1.2 10 _ rfl, h1.2 11 _ rfl, h1.2 37 _ rfl, h1.2 38 _ rfl, h1.2 39 _ rfl, trivial⟩) d1 ⟨hI.below, Kd.R_nil _ _ _ _ _, Kd.R_mono hI.want (fun k _ e => by simp [Value.ownBlock] at e), fun x hx => by cases hx⟩
set_option maxHeartbeats 8000000 in
set_option maxRecDepth 100000 in
theorem law_k3 (a0 : Int) (ha : 0 ≤ a0) (K : Option Addr) (kc : Nat) (lk : List Int) (dg : Bool) (A : Option Addr) (c : Nat) (sl : List S33) (w : World) (hK : Kd.C (Kd.int .u8) w K lk.length lk) (hkc : lk.length ≤ kc) (ok_ : octs lk) (hSl : Kd.C k33 w A sl.length sl) (hsc : sl.length ≤ c) (os_ : ∀ x ∈ sl, octs x.f1) (h32 : lk.length = 32) (sz : Nat) (hsz : sz = 8 ∨ sz = 16 ∨ sz = 32) (q : Nat) (W : World) (vt vw : Value) (L : List Int) (R : List (List Int)) (e : Nat) (A1 : Option Addr) (c1 : Nat) (sd : Int) (hI : LInv w W vt vw L R) (hLl : L.length ≤ 8192) (hRl : R.length < 1048576) (he : (⟨e, 33, 3, stp (sl.getD q z33).f0 A1 (sl.getD q z33).f1.length c1 sd⟩ : Bl).In W) (hc1 : (sl.getD q z33).f1.length ≤ c1) (hC1 : Kd.C (Kd.int .u8) w A1 (sl.getD q z33).f1.length (sl.getD q z33).f1) (hdl : (sl.getD q z33).f1.length ≤ 8192) (hdo : octs (sl.getD q z33).f1) (a0_ : Act) (Q : Exit → Act → World → Prop)
    (h0 : Has 137 (bn [e]) [(1, .v (.slice K lk.length kc)), (2, .v (.bool dg)), (3, .v (.slice A sl.length c)), (9, .v (.int .i64 (sz : Int))), (10, .v vt), (11, .v vw), (13, .p 0 0), (37, .v (.slice A sl.length c)), (38, .v (.int .i64 (sl.length : Int))), (39, .v (.int .i64 (q : Int))), (53, .v (.int .u8 (sl.getD q z33).f0))] a0_) (hret : ∀ a' W', a'.defers = a0_.defers → a'.eval (.tmp 8) = .bool true → Below w.heap.size w W' → Q .ret a' W') (hKc : sz = 8 → ∀ a' W' vt' vw', Has 137 (bn []) [(1, .v (.slice K lk.length kc)), (2, .v (.bool dg)), (3, .v (.slice A sl.length c)), (9, .v (.int .i64 (sz : Int))), (10, .v vt'), (11, .v vw'), (37, .v (.slice A sl.length c)), (38, .v (.int .i64 (sl.length : Int))), (39, .v (.int .i64 (q : Int)))] a' → a'.defers = a0_.defers → LInv w W' vt' vw' (L) (R ++ [(sumS (8 : Int) (hvS (lx lk) (lx L) L.length))]) → Q .normal a' W') : Code.wp Tryd.prog (cThen (cElse (cElse (cElse c4_b2)))) Q a0_ W := by
  have d0 : a0_.defers = a0_.defers := rfl
  have M0 := mw1 he
  obtain ⟨At, ct, rfl, hct, hCt⟩ := Kd.R_reads hI.text
  have hvl : ∀ k, vw.ownBlock = some k → k < W.heap.size := by
    obtain ⟨inner, ho⟩ := Kd.R_own hI.want
    exact own_lt ho
  have htl : ∀ k, Value.ownBlock (.slice At L.length ct) = some k → k < W.heap.size := by
    obtain ⟨inner, ho⟩ := Kd.R_own hI.text
    exact own_lt ho
  refine wp_seq ?_
  refine wp_seq ?_
  refine wp_region ?_
  refine opsP (N := 137) (T := TD) (M := bm [⟨e, 33, 3, stp (sl.getD q z33).f0 A1 (sl.getD q z33).f1.length c1 sd⟩]) tabOkD M0.mem [] [0, 1] [(1, .v (.slice K lk.length kc)), (2, .v (.bool dg)), (3, .v (.slice A sl.length c)), (9, .v (.int .i64 (sz : Int))), (10, .v (.slice At L.length ct)), (11, .v vw), (13, .p 0 0), (37, .v (.slice A sl.length c)), (38, .v (.int .i64 (sl.length : Int))), (39, .v (.int .i64 (q : Int))), (53, .v (.int .u8 (sl.getD q z33).f0)), (79, .v (.bool ((sz : Int) != 8)))] h0 (by kernel_rfl) ⟨by kernel_rfl, by kernel_rfl, by kernel_rfl, by kernel_rfl, by kernel_rfl, by kernel_rfl, by kernel_rfl, by kernel_rfl, by kernel_rfl, by kernel_rfl, by kernel_rfl, by kernel_rfl, trivial⟩ (fun a1 h1 d1 => ?_)
  replace d1 := d1.trans d0
  clear h0 d0
  show Code.wp _ _ _ _ _
  by_cases h8 : sz = 8
  rotate_left
  · refine wp_cond_true ((h1.2 79 _ rfl).trans (congrArg Value.bool (by rw [bne_iff_ne]; omega))) ?_
    refine wp_seq ?_
    refine wp_region ?_
    refine opsP (N := 137) (T := TD) (M := (fun _ _ => none)) tabOkD (fun _ _ _ h => by cases h) [] [0] [(8, .v (.bool true))] h1 (by kernel_rfl) ⟨by kernel_rfl, trivial⟩ (fun a2 h2 d2 => ?_)
    show Code.wp _ _ _ _ _
    refine wp_ret ?_
    exact hret a2 W (d2.trans d1) (h2.2 8 _ rfl) hI.below
  subst h8
  refine wp_cond_false (h1.2 79 _ rfl) ?_
  refine wp_skip ?_
  show Code.wp _ _ _ _ _
  refine wp_region ?_
  refine opsP (N := 137) (T := TD) (M := (fun _ _ => none)) tabOkD (fun _ _ _ h => by cases h) [3, 4, 5, 6] [0, 1, 2] [(1, .v (.slice K lk.length kc)), (2, .v (.bool dg)), (3, .v (.slice A sl.length c)), (9, .v (.int .i64 ((8 : Nat) : Int))), (10, .v (.slice At L.length ct)), (11, .v vw), (13, .p 0 0), (37, .v (.slice A sl.length c)), (38, .v (.int .i64 (sl.length : Int))), (39, .v (.int .i64 (q : Int))), (53, .v (.int .u8 (sl.getD q z33).f0)), (80, .v vw), (81, .v (.slice K lk.length kc)), (82, .v (.slice At L.length ct))] h1 (by kernel_rfl) ⟨by kernel_rfl, by kernel_rfl, by kernel_rfl, by kernel_rfl, by kernel_rfl, by kernel_rfl, by kernel_rfl, by kernel_rfl, by kernel_rfl, by kernel_rfl, by kernel_rfl, by kernel_rfl, by kernel_rfl, by kernel_rfl, trivial⟩ (fun a2 h2 d2 => ?_)
  replace d2 := d2.trans d1
  clear h1 d1
  refine callW_ops (N := 137) (i := 3) (d := 83) (f := 11) (args := [.v (.int .i64 8), .v (.slice K lk.length kc), .v (.slice At L.length ct)]) (l := [4, 5, 6]) rfl (want_ rfl) rfl (by decide) h2 Tryd.func11 rfl rfl rfl (by kernel_rfl) (fun v1 W1 => Kd.R (Kd.int .u8) 5 W1 W.heap.size (fun _ => True) v1 (sumS (8 : Int) (hvS (lx lk) (lx L) L.length)) ∧ Below W.heap.size W W1) ((hw_val 8 (Or.inl rfl) K At kc ct lk L W (Kd.C_below hK hI.below) hkc hCt hct ok_ h32 hI.octs_).mono fun e' W' hh => ?_) (fun v3 W3 a3 hR3 h3 d3 => ?_)
  · obtain ⟨v, e1, e2, e3⟩ := hh
    exact ⟨v, e1, e2, e3⟩
  replace d3 := d3.trans d2
  clear h2 d2
  obtain ⟨hr4, hb4⟩ := hR3
  obtain ⟨A4, c4, rfl⟩ := Kd.R_slice hr4
  refine new_ops (N := 137) (i := 4) (d := 84) (l := [5, 6]) rfl rfl rfl (by decide) h3 (op_buildSlice1 rfl (h3.2 83 _ rfl) (build_row W3 A4 _ c4)) (fun a4 h4 d4 => ?_)
  replace d4 := d4.trans d3
  clear h3 d3
  have hal : Below W3.heap.size W3 (W3.alloc (.cells #[.slice A4 (sumS (8 : Int) (hvS (lx lk) (lx L) L.length)).length c4] 22)) := (Below.refl _ _).alloc (Nat.le_refl _) _
  have hb5 : Below W.heap.size W (W3.alloc (.cells #[.slice A4 (sumS (8 : Int) (hvS (lx lk) (lx L) L.length)).length c4] 22)) := hb4.trans (hal.mono hb4.size)
  have hI5 := hI.keep hb5
  obtain ⟨hRR, hokp⟩ := one_row2 hr4 hI.below.size hvl htl
  refine app_ops4 (N := 137) (i := 5) (dst := 85) (l := [6]) KRows (w0 := w) w.heap.size rfl rfl rfl (by decide) h4 (.tmp 80) (.tmp 84) 23 22 (.slice none 0 0) 24 rfl Tryd.underlying23 (by kernel_rfl) rfl (by decide) (by decide) vw R [(sumS (8 : Int) (hvS (lx lk) (lx L) L.length))] (some ⟨W3.heap.size, 0, none⟩) 1 1 (fun k => some k ≠ Value.ownBlock (.slice At L.length ct)) (fun k => W.heap.size ≤ k) (h4.2 80 _ rfl) (h4.2 84 _ rfl) hI5.want hRR (fun _ _ h => h) hokp (fun k hk e => by have := htl k e.symm; have := hb5.size; omega) hI5.below hI5.below.size (by omega) (fun v6 W6 a5 hw6 hb6 hg6 hn6 h5 d5 => ?_)
  replace d5 := d5.trans d4
  clear h4 d4
  have hT6 : TextR W6 w.heap.size (.slice At L.length ct) L := text_push hI5.text hI5.want hg6
  refine opsP (N := 137) (T := TD) (M := (fun _ _ => none)) tabOkD (fun _ _ _ h => by cases h) [] [6] [(1, .v (.slice K lk.length kc)), (2, .v (.bool dg)), (3, .v (.slice A sl.length c)), (9, .v (.int .i64 ((8 : Nat) : Int))), (10, .v (.slice At L.length ct)), (11, .v v6), (13, .p 0 0), (37, .v (.slice A sl.length c)), (38, .v (.int .i64 (sl.length : Int))), (39, .v (.int .i64 (q : Int))), (53, .v (.int .u8 (sl.getD q z33).f0))] h5 (by kernel_rfl) ⟨by kernel_rfl, by kernel_rfl, by kernel_rfl, by kernel_rfl, by kernel_rfl, by kernel_rfl, by kernel_rfl, by kernel_rfl, by kernel_rfl, by kernel_rfl, by kernel_rfl, trivial⟩ (fun a6 h6 d6 => ?_)
  replace d6 := d6.trans d5
  clear h5 d5
  exact hKc rfl a6 W6 (.slice At L.length ct) v6 (has_list (β := bn []) (a := a6) h6.1 (E := [(1, .v (.slice K lk.length kc)), (2, .v (.bool dg)), (3, .v (.slice A sl.length c)), (9, .v (.int .i64 ((8 : Nat) : Int))), (10, .v (.slice At L.length ct)), (11, .v v6), (37, .v (.slice A sl.length c)), (38, .v (.int .i64 (sl.length : Int))), (39, .v (.int .i64 (q : Int)))]) ⟨h6.2 1 _ rfl, h6.2 2 _ rfl, h6.2 3 _ rfl, h6.2 9 _ rfl, h6.2 10 _ rfl, h6.2 11 _ rfl, h6.2 37 _ rfl, h6.2 38 _ rfl, h6.2 39 _ rfl, trivial⟩) d6 ⟨hb6, hT6, hw6, hI.octs_⟩
noncomputable def cLast4 : Code := match c4_loop with
  | .seq _ (.seq _ (.seq _ c)) => c
  | _ => .skip
set_option maxHeartbeats 8000000 in
set_option maxRecDepth 100000 in
theorem law_round (a0 : Int) (ha : 0 ≤ a0) (K : Option Addr) (kc : Nat) (lk : List Int) (dg : Bool) (A : Option Addr) (c : Nat) (sl : List S33) (w : World) (hK : Kd.C (Kd.int .u8) w K lk.length lk) (hkc : lk.length ≤ kc) (ok_ : octs lk) (hSl : Kd.C k33 w A sl.length sl) (hsc : sl.length ≤ c) (os_ : ∀ x ∈ sl, octs x.f1) (h32 : lk.length = 32) (sz : Nat) (hsz : sz = 8 ∨ sz = 16 ∨ sz = 32) (q : Nat) (hq : q < sl.length) (W : World) (vt vw : Value) (L : List Int) (R : List (List Int)) (hI : LInv w W vt vw L R) (hRl : R.length < 1048576) (a0_ : Act) (Kc : Act → World → Prop) (Q0 : Exit → Act → World → Prop)
    (h0 : Has 137 (bn []) [(1, .v (.slice K lk.length kc)), (2, .v (.bool dg)), (3, .v (.slice A sl.length c)), (9, .v (.int .i64 (sz : Int))), (10, .v vt), (11, .v vw), (37, .v (.slice A sl.length c)), (38, .v (.int .i64 (sl.length : Int))), (39, .v (.int .i64 (q : Int)))] a0_) (hret : ∀ a' W', a'.defers = a0_.defers → a'.eval (.tmp 8) = .bool true → Below w.heap.size w W' → Q0 .ret a' W')
    (hKc : ∀ a' W' vt' vw', okK sz (sl.getD q z33).f0 → (sl.getD q z33).f1.length ≤ 8192 → Has 137 (bn []) [(1, .v (.slice K lk.length kc)), (2, .v (.bool dg)), (3, .v (.slice A sl.length c)), (9, .v (.int .i64 (sz : Int))), (10, .v vt'), (11, .v vw'), (37, .v (.slice A sl.length c)), (38, .v (.int .i64 (sl.length : Int))), (39, .v (.int .i64 ((q + 1 : Nat) : Int)))] a' → a'.defers = a0_.defers → LInv w W' vt' vw' (stF sz (lx lk) (sl.getD q z33).f0 (sl.getD q z33).f1 (L, R)).1 (stF sz (lx lk) (sl.getD q z33).f0 (sl.getD q z33).f1 (L, R)).2 → Kc a' W') : Code.wp Tryd.prog c4_loop (Exit.then Kc Q0) a0_ W := by
  have d0 : a0_.defers = a0_.defers := rfl
  obtain ⟨sb, so, rfl, A1, c1, sd, hcell, hc1, hC1⟩ := stepsAt_of hSl q hq
  have hdo : octs (sl.getD q z33).f1 := by
    rw [List.getD_eq_getElem?_getD, List.getElem?_eq_getElem hq]
    exact os_ _ (List.getElem_mem hq)
  obtain ⟨At, ct, rfl, hct, hCt⟩ := Kd.R_reads hI.text
  refine wp_seq ?_
  refine wp_region ?_
  refine opsP (N := 137) (T := TD) (M := (fun _ _ => none)) tabOkD (fun _ _ _ h => by cases h) [] [0] [(1, .v (.slice K lk.length kc)), (2, .v (.bool dg)), (3, .v (.slice (some ⟨sb, so, none⟩) sl.length c)), (9, .v (.int .i64 (sz : Int))), (10, .v (.slice At L.length ct)), (11, .v vw), (37, .v (.slice (some ⟨sb, so, none⟩) sl.length c)), (38, .v (.int .i64 (sl.length : Int))), (39, .v (.int .i64 (q : Int))), (40, .v (.bool (decide ((q : Int) < (sl.length : Int)))))] h0 (by kernel_rfl) ⟨by kernel_rfl, by kernel_rfl, by kernel_rfl, by kernel_rfl, by kernel_rfl, by kernel_rfl, by kernel_rfl, by kernel_rfl, by kernel_rfl, by kernel_rfl, trivial⟩ (fun a1 h1 d1 => ?_)
  replace d1 := d1.trans d0
  clear h0 d0
  show Code.wp _ _ _ _ _
  refine wp_seq ?_
  refine wp_cond_true ((h1.2 40 _ rfl).trans (congrArg Value.bool (decide_eq_true (by omega)))) ?_
  refine wp_skip ?_
  show Code.wp _ _ _ _ _
  refine wp_seq ?_
  refine wp_block ?_
  refine wp_seq ?_
  refine wp_region ?_
  refine givenW_ops (N := 137) (i := 0) (d := 41) (s := .v (.pointer (some ⟨sb, so + q * 3, none⟩))) (l := [1, 2, 3]) rfl (want_ rfl) rfl (by decide) h1 (op_indexT rfl (h1.2 37 _ rfl) (h1.2 39 _ rfl) Tryd.underlying29 Tryd.sizeOf33 hq) (fun a2 h2 d2 => ?_)
  replace d2 := d2.trans d1
  clear h1 d1
  refine givenW_ops (N := 137) (i := 1) (d := 42) (s := .v (.agg ((List.range 3).map (stp (sl.getD q z33).f0 A1 (sl.getD q z33).f1.length c1 sd)).toArray)) (l := [2, 3]) rfl (want_ rfl) rfl (by decide) h2 (op_arr rfl (h2.2 41 _ rfl) Tryd.isAgg33 Tryd.sizeOf33 (fun j hj => (hI.below.cell (World.block_lt_of_cell? w _ (hcell j hj))).trans (hcell j hj))) (fun a3 h3 d3 => ?_)
  replace d3 := d3.trans d2
  clear h2 d2
  refine alloc_ops (N := 137) (i := 2) (d := 13) (l := [3]) rfl rfl rfl (by decide) h3 rfl allocOkS (fun a4 h4 d4 => ?_)
  replace d4 := d4.trans d3
  clear h3 d3
  obtain ⟨W1, hst, he1, hb1⟩ := step_copy W (sl.getD q z33).f0 A1 (sl.getD q z33).f1.length c1 sd
  refine store_ops (N := 137) (i := 3) (l := []) (t := 33) rfl rfl rfl h4 (b := W.heap.size) (cs := ((List.range 3).map (stp (sl.getD q z33).f0 A1 (sl.getD q z33).f1.length c1 sd)).toArray) (y := .tmp 42) (x := .tmp 13) rfl (h4.2 13 _ rfl) (h4.2 42 _ rfl) hst ?_
  have hI1 := hI.keep hb1
  have hCt1 := Kd.C_below hCt hb1
  generalize hE : W.heap.size = e at he1
  have h4' := has_list (β := bn [e]) (a := a4) h4.1 (E := [(1, .v (.slice K lk.length kc)), (2, .v (.bool dg)), (3, .v (.slice (some ⟨sb, so, none⟩) sl.length c)), (9, .v (.int .i64 (sz : Int))), (10, .v (.slice At L.length ct)), (11, .v vw), (13, .p 0 0), (37, .v (.slice (some ⟨sb, so, none⟩) sl.length c)), (38, .v (.int .i64 (sl.length : Int))), (39, .v (.int .i64 (q : Int)))]) ⟨h4.2 1 _ rfl, h4.2 2 _ rfl, h4.2 3 _ rfl, h4.2 9 _ rfl, h4.2 10 _ rfl, h4.2 11 _ rfl, (h4.2 13 _ rfl).trans (congrArg (fun b => Value.pointer (some ⟨b, 0, none⟩)) hE), h4.2 37 _ rfl, h4.2 38 _ rfl, h4.2 39 _ rfl, trivial⟩
  replace h4 := h4'
  clear h4' hst
  show Code.wp _ _ _ _ _
  have M1 := mw1 he1
  refine wp_seq ?_
  refine wp_seq ?_
  refine wp_region ?_
  refine opsP (N := 137) (T := TD) (M := bm [⟨e, 33, 3, stp (sl.getD q z33).f0 A1 (sl.getD q z33).f1.length c1 sd⟩]) tabOkD M1.mem [1, 2, 3, 4, 5, 6, 7, 8] [0] [(1, .v (.slice K lk.length kc)), (2, .v (.bool dg)), (3, .v (.slice (some ⟨sb, so, none⟩) sl.length c)), (9, .v (.int .i64 (sz : Int))), (10, .v (.slice At L.length ct)), (11, .v vw), (13, .p 0 0), (37, .v (.slice (some ⟨sb, so, none⟩) sl.length c)), (38, .v (.int .i64 (sl.length : Int))), (39, .v (.int .i64 (q : Int))), (43, .v (.slice At L.length ct))] h4 (by kernel_rfl) ⟨by kernel_rfl, by kernel_rfl, by kernel_rfl, by kernel_rfl, by kernel_rfl, by kernel_rfl, by kernel_rfl, by kernel_rfl, by kernel_rfl, by kernel_rfl, by kernel_rfl, trivial⟩ (fun a5 h5 d5 => ?_)
  replace d5 := d5.trans d4
  clear h4 d4
  refine callW_ops (N := 137) (i := 1) (d := 44) (f := 10) (args := [.v (.slice At L.length ct)]) (l := [2, 3, 4, 5, 6, 7, 8]) rfl (want_ rfl) rfl (by decide) h5 Tryd.func10 rfl rfl rfl (by kernel_rfl) (fun vz Wz => vz = .bool (decide ((L.length : Int) ≤ 8192)) ∧ Below W1.heap.size W1 Wz) ((laws_hashBrief.calls At ct L _ W1 hCt1 hct rfl).mono fun e' W' hh => ⟨_, hh.1, rfl, hh.2.below⟩) (fun v6 W6 a6 hR6 h6 d6 => ?_)
  replace d6 := d6.trans d5
  clear h5 d5
  obtain ⟨rfl, hb6⟩ := hR6
  have he2 := he1.on (Fr.ofBelow [] hb6) (by simp)
  have M2 := mw1 he2
  have hI2 := hI1.keep hb6
  refine givenW_ops (N := 137) (i := 2) (d := 45) (s := .v (.bool (!decide ((L.length : Int) ≤ 8192)))) (l := [3, 4, 5, 6, 7, 8]) rfl (want_ rfl) rfl (by decide) h6 (op_not rfl (h6.2 44 _ rfl)) (fun a7 h7 d7 => ?_)
  replace d7 := d7.trans d6
  clear h6 d6
  refine opsP (N := 137) (T := TD) (M := bm [⟨e, 33, 3, stp (sl.getD q z33).f0 A1 (sl.getD q z33).f1.length c1 sd⟩]) tabOkD M2.mem [4, 5, 6, 7, 8] [3] [(1, .v (.slice K lk.length kc)), (2, .v (.bool dg)), (3, .v (.slice (some ⟨sb, so, none⟩) sl.length c)), (9, .v (.int .i64 (sz : Int))), (10, .v (.slice At L.length ct)), (11, .v vw), (13, .p 0 0), (37, .v (.slice (some ⟨sb, so, none⟩) sl.length c)), (38, .v (.int .i64 (sl.length : Int))), (39, .v (.int .i64 (q : Int))), (46, .v (.bool (!decide ((L.length : Int) ≤ 8192))))] h7 (by kernel_rfl) ⟨by kernel_rfl, by kernel_rfl, by kernel_rfl, by kernel_rfl, by kernel_rfl, by kernel_rfl, by kernel_rfl, by kernel_rfl, by kernel_rfl, by kernel_rfl, by kernel_rfl, trivial⟩ (fun a8 h8 d8 => ?_)
  replace d8 := d8.trans d7
  clear h7 d7
  by_cases hLb : L.length ≤ 8192
  rotate_left
  · rw [show (!decide ((L.length : Int) ≤ 8192)) = true by rw [decide_eq_false (by omega)]; rfl] at h8
    refine skip_ops (N := 137) (i := 4) (d := 47) (j := 3) (dj := 46) (b := false) (b' := true) (l := [5, 6, 7, 8]) rfl rfl rfl rfl (by decide) rfl (by decide) h8 (fun a9 h9 d9 => ?_)
    replace d9 := d9.trans d8
    clear h8 d8
    refine skip_ops (N := 137) (i := 5) (d := 48) (j := 3) (dj := 46) (b := false) (b' := true) (l := [6, 7, 8]) rfl rfl rfl rfl (by decide) rfl (by decide) h9 (fun a10 h10 d10 => ?_)
    replace d10 := d10.trans d9
    clear h9 d9
    refine skip_ops (N := 137) (i := 6) (d := 49) (j := 3) (dj := 46) (b := false) (b' := true) (l := [7, 8]) rfl rfl rfl rfl (by decide) rfl (by decide) h10 (fun a11 h11 d11 => ?_)
    replace d11 := d11.trans d10
    clear h10 d10
    refine skip_ops (N := 137) (i := 7) (d := 50) (j := 3) (dj := 46) (b := false) (b' := true) (l := [8]) rfl rfl rfl rfl (by decide) rfl (by decide) h11 (fun a12 h12 d12 => ?_)
    replace d12 := d12.trans d11
    clear h11 d11
    refine givenW_ops (N := 137) (i := 8) (d := 51) (s := .v (Value.bool true)) (l := []) rfl (want_ rfl) rfl (by decide) h12 (op_pickT rfl (h12.2 46 _ rfl) rfl) (fun a13 h13 d13 => ?_)
    replace d13 := d13.trans d12
    clear h12 d12
    show Code.wp _ _ _ _ _
    refine wp_cond_true (h13.2 51 _ rfl) ?_
    refine wp_seq ?_
    refine wp_region ?_
    refine opsP (N := 137) (T := TD) (M := (fun _ _ => none)) tabOkD (fun _ _ _ h => by cases h) [] [0] [(8, .v (.bool true))] h13 (by kernel_rfl) ⟨by kernel_rfl, trivial⟩ (fun a14 h14 d14 => ?_)
    show Code.wp _ _ _ _ _
    refine wp_ret ?_
    exact hret a14 W6 (d14.trans d13) (h14.2 8 _ rfl) hI2.below
  rw [show (!decide ((L.length : Int) ≤ 8192)) = false by rw [decide_eq_true (by omega)]; rfl] at h8
  refine guard_ops (N := 137) (T := TD) (M := bm [⟨e, 33, 3, stp (sl.getD q z33).f0 A1 (sl.getD q z33).f1.length c1 sd⟩]) tabOkD (i := 4) (d := 47) (j := 3) (dj := 46) (b := false) (s := .p 0 1) (l := [5, 6, 7, 8]) M2.mem rfl rfl rfl rfl rfl (by decide) h8 (by kernel_rfl) (fun a9 h9 d9 => ?_)
  replace d9 := d9.trans d8
  clear h8 d8
  refine givenW_ops (N := 137) (i := 5) (d := 48) (s := .v (.slice A1 (sl.getD q z33).f1.length c1)) (l := [6, 7, 8]) rfl (want_g h9 (j := 3) (d := 46) (b := false) rfl rfl rfl) rfl (by decide) h9 (op_load rfl (h9.2 47 _ rfl) Tryd.isAgg22 (he2.cell 1 (show 1 < 3 by decide))) (fun a10 h10 d10 => ?_)
  replace d10 := d10.trans d9
  clear h9 d9
  refine callW_ops (N := 137) (i := 6) (d := 49) (f := 10) (args := [.v (.slice A1 (sl.getD q z33).f1.length c1)]) (l := [7, 8]) rfl (want_g h10 (j := 3) (d := 46) (b := false) rfl rfl rfl) rfl (by decide) h10 Tryd.func10 rfl rfl rfl (by kernel_rfl) (fun vz Wz => vz = .bool (decide (((sl.getD q z33).f1.length : Int) ≤ 8192)) ∧ Below W6.heap.size W6 Wz) ((laws_hashBrief.calls A1 c1 (sl.getD q z33).f1 _ W6 (Kd.C_below hC1 hI2.below) hc1 rfl).mono fun e' W' hh => ⟨_, hh.1, rfl, hh.2.below⟩) (fun v11 W11 a11 hR11 h11 d11 => ?_)
  replace d11 := d11.trans d10
  clear h10 d10
  obtain ⟨rfl, hb11⟩ := hR11
  have he3 := he2.on (Fr.ofBelow [] hb11) (by simp)
  have M3 := mw1 he3
  have hI3 := hI2.keep hb11
  refine givenW_ops (N := 137) (i := 7) (d := 50) (s := .v (.bool (!decide (((sl.getD q z33).f1.length : Int) ≤ 8192)))) (l := [8]) rfl (want_g h11 (j := 3) (d := 46) (b := false) rfl rfl rfl) rfl (by decide) h11 (op_not rfl (h11.2 49 _ rfl)) (fun a12 h12 d12 => ?_)
  replace d12 := d12.trans d11
  clear h11 d11
  refine givenW_ops (N := 137) (i := 8) (d := 51) (s := .v (.bool (!decide (((sl.getD q z33).f1.length : Int) ≤ 8192)))) (l := []) rfl (want_ rfl) rfl (by decide) h12 (op_pickF rfl (h12.2 46 _ rfl) (h12.2 50 _ rfl)) (fun a13 h13 d13 => ?_)
  replace d13 := d13.trans d12
  clear h12 d12
  show Code.wp _ _ _ _ _
  by_cases hdl : (sl.getD q z33).f1.length ≤ 8192
  rotate_left
  · refine wp_cond_true ((h13.2 51 _ rfl).trans (congrArg Value.bool (by rw [decide_eq_false (by omega)]; rfl))) ?_
    refine wp_seq ?_
    refine wp_region ?_
    refine opsP (N := 137) (T := TD) (M := (fun _ _ => none)) tabOkD (fun _ _ _ h => by cases h) [] [0] [(8, .v (.bool true))] h13 (by kernel_rfl) ⟨by kernel_rfl, trivial⟩ (fun a14 h14 d14 => ?_)
    show Code.wp _ _ _ _ _
    refine wp_ret ?_
    exact hret a14 W11 (d14.trans d13) (h14.2 8 _ rfl) hI3.below
  refine wp_cond_false ((h13.2 51 _ rfl).trans (congrArg Value.bool (by rw [decide_eq_true (by omega)]; rfl))) ?_
  refine wp_skip ?_
  show Code.wp _ _ _ _ _
  refine wp_seq ?_
  refine wp_region ?_
  refine opsP (N := 137) (T := TD) (M := bm [⟨e, 33, 3, stp (sl.getD q z33).f0 A1 (sl.getD q z33).f1.length c1 sd⟩]) tabOkD M3.mem [] [0, 1] [(1, .v (.slice K lk.length kc)), (2, .v (.bool dg)), (3, .v (.slice (some ⟨sb, so, none⟩) sl.length c)), (9, .v (.int .i64 (sz : Int))), (10, .v (.slice At L.length ct)), (11, .v vw), (13, .p 0 0), (37, .v (.slice (some ⟨sb, so, none⟩) sl.length c)), (38, .v (.int .i64 (sl.length : Int))), (39, .v (.int .i64 (q : Int))), (53, .v (.int .u8 (sl.getD q z33).f0))] h13 (by kernel_rfl) ⟨by kernel_rfl, by kernel_rfl, by kernel_rfl, by kernel_rfl, by kernel_rfl, by kernel_rfl, by kernel_rfl, by kernel_rfl, by kernel_rfl, by kernel_rfl, by kernel_rfl, trivial⟩ (fun a14 h14 d14 => ?_)
  replace d14 := d14.trans d13
  clear h13 d13
  show Code.wp _ _ _ _ _
  refine wp_block ?_
  have fin : ∀ a' W' vt' vw', okK sz (sl.getD q z33).f0 → Has 137 (bn []) [(1, .v (.slice K lk.length kc)), (2, .v (.bool dg)), (3, .v (.slice (some ⟨sb, so, none⟩) sl.length c)), (9, .v (.int .i64 (sz : Int))), (10, .v vt'), (11, .v vw'), (37, .v (.slice (some ⟨sb, so, none⟩) sl.length c)), (38, .v (.int .i64 (sl.length : Int))), (39, .v (.int .i64 (q : Int)))] a' → a'.defers = a0_.defers → LInv w W' vt' vw' (stF sz (lx lk) (sl.getD q z33).f0 (sl.getD q z33).f1 (L, R)).1 (stF sz (lx lk) (sl.getD q z33).f0 (sl.getD q z33).f1 (L, R)).2 → Code.wp Tryd.prog cLast4 (Exit.then Kc Q0) a' W' := by
    intro a' W' vt' vw' hk h d hh
    have hw : IntKind.i64.wrap ((q : Int) + 1) = ((q + 1 : Nat) : Int) := by
      have := hSl.2.1
      rw [i64_w]
      unfold wrap64
      omega
    have M9 : Mw (bn []) [] W' := ⟨bg_bn _, trivial⟩
    refine regM_seq (N := 137) (T := TD) (n := 2) (E2 := [(1, .v (.slice K lk.length kc)), (2, .v (.bool dg)), (3, .v (.slice (some ⟨sb, so, none⟩) sl.length c)), (9, .v (.int .i64 (sz : Int))), (10, .v vt'), (11, .v vw'), (37, .v (.slice (some ⟨sb, so, none⟩) sl.length c)), (38, .v (.int .i64 (sl.length : Int))), (39, .v (.int .i64 (IntKind.i64.wrap ((q : Int) + 1))))]) tabOkD h M9 rfl (by kernel_rfl) ⟨by kernel_rfl, by kernel_rfl, by kernel_rfl, by kernel_rfl, by kernel_rfl, by kernel_rfl, by kernel_rfl, by kernel_rfl, by kernel_rfl, trivial⟩ (fun a9 h9 d9 => ?_)
    rw [hw] at h9
    exact hKc a9 W' vt' vw' hk hdl h9 (d9.trans d) hh
  have step : ∀ (p : List Int × List (List Int)), okK sz (sl.getD q z33).f0 → stF sz (lx lk) (sl.getD q z33).f0 (sl.getD q z33).f1 (L, R) = p → ∀ a' W' vt' vw', Has 137 (bn []) [(1, .v (.slice K lk.length kc)), (2, .v (.bool dg)), (3, .v (.slice (some ⟨sb, so, none⟩) sl.length c)), (9, .v (.int .i64 (sz : Int))), (10, .v vt'), (11, .v vw'), (37, .v (.slice (some ⟨sb, so, none⟩) sl.length c)), (38, .v (.int .i64 (sl.length : Int))), (39, .v (.int .i64 (q : Int)))] a' → a'.defers = a0_.defers → LInv w W' vt' vw' p.1 p.2 → Exit.inBlock 2 (Exit.inBlock 1 (Exit.then (Code.wp Tryd.prog cLast4 (Exit.then Kc Q0)) (Exit.then Kc Q0))) .normal a' W' := by
    intro p hk hp a' W' vt' vw' h1 h2 h3
    rw [hp] at fin
    exact fin a' W' vt' vw' hk h1 h2 h3
  have hret' : ∀ (a1 : Act), a1.defers = a0_.defers → ∀ a' W', a'.defers = a1.defers → a'.eval (.tmp 8) = .bool true → Below w.heap.size w W' → Exit.inBlock 2 (Exit.inBlock 1 (Exit.then (Code.wp Tryd.prog cLast4 (Exit.then Kc Q0)) (Exit.then Kc Q0))) .ret a' W' := fun a1 e0 a' W' e1 e2 e3 => hret a' W' (e1.trans e0) e2 e3
  clear hKc
  refine wp_seq ?_
  refine wp_region ?_
  refine opsP (N := 137) (T := TD) (M := bm [⟨e, 33, 3, stp (sl.getD q z33).f0 A1 (sl.getD q z33).f1.length c1 sd⟩]) tabOkD M3.mem [] [0, 1] [(1, .v (.slice K lk.length kc)), (2, .v (.bool dg)), (3, .v (.slice (some ⟨sb, so, none⟩) sl.length c)), (9, .v (.int .i64 (sz : Int))), (10, .v (.slice At L.length ct)), (11, .v vw), (13, .p 0 0), (37, .v (.slice (some ⟨sb, so, none⟩) sl.length c)), (38, .v (.int .i64 (sl.length : Int))), (39, .v (.int .i64 (q : Int))), (53, .v (.int .u8 (sl.getD q z33).f0)), (54, .v (.bool ((sl.getD q z33).f0 == 0)))] h14 (by kernel_rfl) ⟨by kernel_rfl, by kernel_rfl, by kernel_rfl, by kernel_rfl, by kernel_rfl, by kernel_rfl, by kernel_rfl, by kernel_rfl, by kernel_rfl, by kernel_rfl, by kernel_rfl, by kernel_rfl, trivial⟩ (fun a15 h15 d15 => ?_)
  replace d15 := d15.trans d14
  clear h14 d14
  show Code.wp _ _ _ _ _
  by_cases hk : (sl.getD q z33).f0 = 0
  · refine wp_cond_true ((h15.2 54 _ rfl).trans (congrArg Value.bool (beq_iff_eq.2 hk))) ?_
    exact law_k0 a0 ha K kc lk dg (some ⟨sb, so, none⟩) c sl w hK hkc ok_ hSl hsc os_ h32 sz hsz q W11 (.slice At L.length ct) vw L R e A1 c1 sd hI3 hLb hRl he3 hc1 hC1 hdl hdo a15 _ (sub_ok (E := [(1, .v (.slice K lk.length kc)), (2, .v (.bool dg)), (3, .v (.slice (some ⟨sb, so, none⟩) sl.length c)), (9, .v (.int .i64 (sz : Int))), (10, .v (.slice At L.length ct)), (11, .v vw), (13, .p 0 0), (37, .v (.slice (some ⟨sb, so, none⟩) sl.length c)), (38, .v (.int .i64 (sl.length : Int))), (39, .v (.int .i64 (q : Int))), (53, .v (.int .u8 (sl.getD q z33).f0))]) h15 ⟨by kernel_rfl, by kernel_rfl, by kernel_rfl, by kernel_rfl, by kernel_rfl, by kernel_rfl, by kernel_rfl, by kernel_rfl, by kernel_rfl, by kernel_rfl, by kernel_rfl, trivial⟩) (fun a' W' vt' vw' e1 e2 e3 => step _ (Or.inl hk) (by unfold stF; rw [if_pos hk]) a' W' vt' vw' e1 (e2.trans d15) e3)
  refine wp_cond_false ((h15.2 54 _ rfl).trans (congrArg Value.bool (beq_eq_false_iff_ne.2 hk))) ?_
  show Code.wp _ _ _ _ _
  have hne0 := hk
  clear hk
  refine wp_seq ?_
  refine wp_region ?_
  refine opsP (N := 137) (T := TD) (M := bm [⟨e, 33, 3, stp (sl.getD q z33).f0 A1 (sl.getD q z33).f1.length c1 sd⟩]) tabOkD M3.mem [] [0, 1] [(1, .v (.slice K lk.length kc)), (2, .v (.bool dg)), (3, .v (.slice (some ⟨sb, so, none⟩) sl.length c)), (9, .v (.int .i64 (sz : Int))), (10, .v (.slice At L.length ct)), (11, .v vw), (13, .p 0 0), (37, .v (.slice (some ⟨sb, so, none⟩) sl.length c)), (38, .v (.int .i64 (sl.length : Int))), (39, .v (.int .i64 (q : Int))), (53, .v (.int .u8 (sl.getD q z33).f0)), (60, .v (.bool ((sl.getD q z33).f0 == 1)))] h15 (by kernel_rfl) ⟨by kernel_rfl, by kernel_rfl, by kernel_rfl, by kernel_rfl, by kernel_rfl, by kernel_rfl, by kernel_rfl, by kernel_rfl, by kernel_rfl, by kernel_rfl, by kernel_rfl, by kernel_rfl, trivial⟩ (fun a16 h16 d16 => ?_)
  replace d16 := d16.trans d15
  clear h15 d15
  show Code.wp _ _ _ _ _
  by_cases hk : (sl.getD q z33).f0 = 1
  · refine wp_cond_true ((h16.2 60 _ rfl).trans (congrArg Value.bool (beq_iff_eq.2 hk))) ?_
    exact law_k1 a0 ha K kc lk dg (some ⟨sb, so, none⟩) c sl w hK hkc ok_ hSl hsc os_ h32 sz hsz q W11 (.slice At L.length ct) vw L R e A1 c1 sd hI3 hLb hRl he3 hc1 hC1 hdl hdo a16 _ (sub_ok (E := [(1, .v (.slice K lk.length kc)), (2, .v (.bool dg)), (3, .v (.slice (some ⟨sb, so, none⟩) sl.length c)), (9, .v (.int .i64 (sz : Int))), (10, .v (.slice At L.length ct)), (11, .v vw), (13, .p 0 0), (37, .v (.slice (some ⟨sb, so, none⟩) sl.length c)), (38, .v (.int .i64 (sl.length : Int))), (39, .v (.int .i64 (q : Int))), (53, .v (.int .u8 (sl.getD q z33).f0))]) h16 ⟨by kernel_rfl, by kernel_rfl, by kernel_rfl, by kernel_rfl, by kernel_rfl, by kernel_rfl, by kernel_rfl, by kernel_rfl, by kernel_rfl, by kernel_rfl, by kernel_rfl, trivial⟩) (fun a' W' vt' vw' e1 e2 e3 => step _ (Or.inr (Or.inl hk)) (by unfold stF; rw [if_neg (by omega), if_pos hk]) a' W' vt' vw' e1 (e2.trans d16) e3)
  refine wp_cond_false ((h16.2 60 _ rfl).trans (congrArg Value.bool (beq_eq_false_iff_ne.2 hk))) ?_
  show Code.wp _ _ _ _ _
  have hne1 := hk
  clear hk
  refine wp_seq ?_
  refine wp_region ?_
  refine opsP (N := 137) (T := TD) (M := bm [⟨e, 33, 3, stp (sl.getD q z33).f0 A1 (sl.getD q z33).f1.length c1 sd⟩]) tabOkD M3.mem [] [0, 1] [(1, .v (.slice K lk.length kc)), (2, .v (.bool dg)), (3, .v (.slice (some ⟨sb, so, none⟩) sl.length c)), (9, .v (.int .i64 (sz : Int))), (10, .v (.slice At L.length ct)), (11, .v vw), (13, .p 0 0), (37, .v (.slice (some ⟨sb, so, none⟩) sl.length c)), (38, .v (.int .i64 (sl.length : Int))), (39, .v (.int .i64 (q : Int))), (53, .v (.int .u8 (sl.getD q z33).f0)), (74, .v (.bool ((sl.getD q z33).f0 == 2)))] h16 (by kernel_rfl) ⟨by kernel_rfl, by kernel_rfl, by kernel_rfl, by kernel_rfl, by kernel_rfl, by kernel_rfl, by kernel_rfl, by kernel_rfl, by kernel_rfl, by kernel_rfl, by kernel_rfl, by kernel_rfl, trivial⟩ (fun a17 h17 d17 => ?_)
  replace d17 := d17.trans d16
  clear h16 d16
  show Code.wp _ _ _ _ _
  by_cases hk : (sl.getD q z33).f0 = 2
  · refine wp_cond_true ((h17.2 74 _ rfl).trans (congrArg Value.bool (beq_iff_eq.2 hk))) ?_
    exact law_k2 a0 ha K kc lk dg (some ⟨sb, so, none⟩) c sl w hK hkc ok_ hSl hsc os_ h32 sz hsz q W11 (.slice At L.length ct) vw L R e A1 c1 sd hI3 hLb hRl he3 hc1 hC1 hdl hdo a17 _ (sub_ok (E := [(1, .v (.slice K lk.length kc)), (2, .v (.bool dg)), (3, .v (.slice (some ⟨sb, so, none⟩) sl.length c)), (9, .v (.int .i64 (sz : Int))), (10, .v (.slice At L.length ct)), (11, .v vw), (13, .p 0 0), (37, .v (.slice (some ⟨sb, so, none⟩) sl.length c)), (38, .v (.int .i64 (sl.length : Int))), (39, .v (.int .i64 (q : Int))), (53, .v (.int .u8 (sl.getD q z33).f0))]) h17 ⟨by kernel_rfl, by kernel_rfl, by kernel_rfl, by kernel_rfl, by kernel_rfl, by kernel_rfl, by kernel_rfl, by kernel_rfl, by kernel_rfl, by kernel_rfl, by kernel_rfl, trivial⟩) (fun a' W' vt' vw' e1 e2 e3 => step _ (Or.inr (Or.inr (Or.inl hk))) (by unfold stF; rw [if_neg (by omega), if_neg (by omega), if_pos hk]) a' W' vt' vw' e1 (e2.trans d17) e3)
  refine wp_cond_false ((h17.2 74 _ rfl).trans (congrArg Value.bool (beq_eq_false_iff_ne.2 hk))) ?_
  show Code.wp _ _ _ _ _
  have hne2 := hk
  clear hk
  refine wp_seq ?_
  refine wp_region ?_
  refine opsP (N := 137) (T := TD) (M := bm [⟨e, 33, 3, stp (sl.getD q z33).f0 A1 (sl.getD q z33).f1.length c1 sd⟩]) tabOkD M3.mem [] [0, 1] [(1, .v (.slice K lk.length kc)), (2, .v (.bool dg)), (3, .v (.slice (some ⟨sb, so, none⟩) sl.length c)), (9, .v (.int .i64 (sz : Int))), (10, .v (.slice At L.length ct)), (11, .v vw), (13, .p 0 0), (37, .v (.slice (some ⟨sb, so, none⟩) sl.length c)), (38, .v (.int .i64 (sl.length : Int))), (39, .v (.int .i64 (q : Int))), (53, .v (.int .u8 (sl.getD q z33).f0)), (76, .v (.bool ((sl.getD q z33).f0 == 3)))] h17 (by kernel_rfl) ⟨by kernel_rfl, by kernel_rfl, by kernel_rfl, by kernel_rfl, by kernel_rfl, by kernel_rfl, by kernel_rfl, by kernel_rfl, by kernel_rfl, by kernel_rfl, by kernel_rfl, by kernel_rfl, trivial⟩ (fun a18 h18 d18 => ?_)
  replace d18 := d18.trans d17
  clear h17 d17
  show Code.wp _ _ _ _ _
  by_cases hk : (sl.getD q z33).f0 = 3
  · refine wp_cond_true ((h18.2 76 _ rfl).trans (congrArg Value.bool (beq_iff_eq.2 hk))) ?_
    exact law_k3 a0 ha K kc lk dg (some ⟨sb, so, none⟩) c sl w hK hkc ok_ hSl hsc os_ h32 sz hsz q W11 (.slice At L.length ct) vw L R e A1 c1 sd hI3 hLb hRl he3 hc1 hC1 hdl hdo a18 _ (sub_ok (E := [(1, .v (.slice K lk.length kc)), (2, .v (.bool dg)), (3, .v (.slice (some ⟨sb, so, none⟩) sl.length c)), (9, .v (.int .i64 (sz : Int))), (10, .v (.slice At L.length ct)), (11, .v vw), (13, .p 0 0), (37, .v (.slice (some ⟨sb, so, none⟩) sl.length c)), (38, .v (.int .i64 (sl.length : Int))), (39, .v (.int .i64 (q : Int))), (53, .v (.int .u8 (sl.getD q z33).f0))]) h18 ⟨by kernel_rfl, by kernel_rfl, by kernel_rfl, by kernel_rfl, by kernel_rfl, by kernel_rfl, by kernel_rfl, by kernel_rfl, by kernel_rfl, by kernel_rfl, by kernel_rfl, trivial⟩) (hret' a18 d18) (fun e8 a' W' vt' vw' e1 e2 e3 => step _ (Or.inr (Or.inr (Or.inr ⟨hk, e8⟩))) (by unfold stF; rw [if_neg (by omega), if_neg (by omega), if_neg (by omega)]) a' W' vt' vw' e1 (e2.trans d18) e3)
  refine wp_cond_false ((h18.2 76 _ rfl).trans (congrArg Value.bool (beq_eq_false_iff_ne.2 hk))) ?_
  have hne3 := hk
  clear hk
  refine wp_seq ?_
  refine wp_region ?_
  refine opsP (N := 137) (T := TD) (M := (fun _ _ => none)) tabOkD (fun _ _ _ h => by cases h) [] [0] [(8, .v (.bool true))] h18 (by kernel_rfl) ⟨by kernel_rfl, trivial⟩ (fun a19 h19 d19 => ?_)
  show Code.wp _ _ _ _ _
  refine wp_ret ?_
  exact hret a19 W11 (d19.trans d18) (h19.2 8 _ rfl) hI3.below
def told2 (sz : Nat) : Nat → Value := fun i => if i = 0 then .int .i64 (sz : Int) else .int .i64 32
theorem told2_at (sz : Nat) (i : Nat) (hi : i < 2) : (#[Value.int .i64 (sz : Int), .int .i64 32])[i]? = some (told2 sz i) := by
  match i, hi with
  | 0, _ => rfl
  | 1, _ => rfl
set_option maxHeartbeats 8000000 in
set_option maxRecDepth 100000 in
theorem law_end (a0 : Int) (ha : 0 ≤ a0) (K : Option Addr) (kc : Nat) (lk : List Int) (dg : Bool) (A : Option Addr) (c : Nat) (sl : List S33) (w : World) (hK : Kd.C (Kd.int .u8) w K lk.length lk) (hkc : lk.length ≤ kc) (ok_ : octs lk) (hSl : Kd.C k33 w A sl.length sl) (hsc : sl.length ≤ c) (os_ : ∀ x ∈ sl, octs x.f1) (h32 : lk.length = 32) (hn : sl.length ≤ 60) (sz : Nat) (hsz : sz = 8 ∨ sz = 16 ∨ sz = 32) (W : World) (vt vw : Value) (L : List Int) (R : List (List Int)) (hI : LInv w W vt vw L R) (hRR : R = (runF sz (lx lk) (fun i => (sl.getD i z33).f0) (fun i => (sl.getD i z33).f1) sl.length).2) (hRm : R.length < 1048576) (hRl : ∀ (q : Nat) (p : List Int), R[q]? = some p → p.length < 9223372036854775807) (hkk : ∀ i, i < sl.length → okK sz (sl.getD i z33).f0) (hdl : ∀ i, i < sl.length → (sl.getD i z33).f1.length ≤ 8192) (a0_ : Act)
    (h0 : Has 137 (bn []) [(1, .v (.slice K lk.length kc)), (2, .v (.bool dg)), (3, .v (.slice A sl.length c)), (9, .v (.int .i64 (sz : Int))), (11, .v vw)] a0_) (d0 : a0_.defers = []) : Code.wp Tryd.prog c4_26 (bodyPost Tryd.prog Tryd.f4 fun e w' => e = .returned (.bool true) ∧ Below w.heap.size w w') a0_ W := by
  refine wp_seq ?_
  refine wp_region ?_
  refine opsP (N := 137) (T := TD) (M := (fun _ _ => none)) tabOkD (fun _ _ _ h => by cases h) [4, 5, 6, 7, 8, 9, 10, 11, 12, 13, 14] [0, 1, 2, 3] [(1, .v (.slice K lk.length kc)), (2, .v (.bool dg)), (3, .v (.slice A sl.length c)), (9, .v (.int .i64 (sz : Int))), (11, .v vw), (88, .v (.int .i64 (sz : Int))), (89, .v (.slice K lk.length kc)), (90, .v (.bool dg)), (91, .v (.slice A sl.length c))] h0 (by kernel_rfl) ⟨by kernel_rfl, by kernel_rfl, by kernel_rfl, by kernel_rfl, by kernel_rfl, by kernel_rfl, by kernel_rfl, by kernel_rfl, by kernel_rfl, trivial⟩ (fun a1 h1 d1 => ?_)
  replace d1 := d1.trans d0
  clear h0 d0
  refine callW_ops (N := 137) (i := 4) (d := 92) (f := 7) (args := [.v (.int .i64 (sz : Int)), .v (.slice K lk.length kc), .v (.bool dg), .v (.slice A sl.length c)]) (l := [5, 6, 7, 8, 9, 10, 11, 12, 13, 14]) rfl (want_ rfl) rfl (by decide) h1 Tryd.func7 rfl rfl rfl (by kernel_rfl) (fun vz Wz => ∃ v, vz = .tuple #[v, .bool true, .agg #[.int .i64 (sz : Int), .int .i64 32], .bool true] ∧ Kd.R KRows 22 Wz W.heap.size (fun _ => True) v R ∧ Below W.heap.size W Wz) ((run_val sz hsz dg K kc lk A sl.length c (fun i => (sl.getD i z33).f0) (fun i => (sl.getD i z33).f1) W (Kd.C_below hK hI.below) hkc h32 ((stepsAt_of hSl).onB hI.below) hkk (fun i hi => Nat.lt_of_le_of_lt (hdl i hi) (by decide)) (by omega)).mono fun e' W' hh => ?_) (fun v2 W2 a2 hR2 h2 d2 => ?_)
  · obtain ⟨v, e1, e2, e3⟩ := hh
    refine ⟨_, e1, v, rfl, ?_, e3⟩
    rw [hRR]
    exact e2
  replace d2 := d2.trans d1
  clear h1 d1
  obtain ⟨vg, rfl, hg1, hb1⟩ := hR2
  refine opsP (N := 137) (T := TD) (M := (fun _ _ => none)) tabOkD (fun _ _ _ h => by cases h) [10, 11, 12, 13, 14] [5, 6, 7, 8, 9] [(9, .v (.int .i64 (sz : Int))), (11, .v vw), (93, .v vg), (94, .v (.bool true)), (95, .v (.agg #[.int .i64 (sz : Int), .int .i64 32])), (96, .v (.bool true))] h2 (by kernel_rfl) ⟨by kernel_rfl, by kernel_rfl, by kernel_rfl, by kernel_rfl, by kernel_rfl, by kernel_rfl, trivial⟩ (fun a3 h3 d3 => ?_)
  replace d3 := d3.trans d2
  clear h2 d2
  refine alloc_ops (N := 137) (i := 10) (d := 16) (l := [11, 12, 13, 14]) rfl rfl rfl (by decide) h3 rfl allocOkI (fun a4 h4 d4 => ?_)
  replace d4 := d4.trans d3
  clear h3 d3
  refine opsP (N := 137) (T := TD) (M := (fun _ _ => none)) tabOkD (fun _ _ _ h => by cases h) [13, 14] [11, 12] [(9, .v (.int .i64 (sz : Int))), (11, .v vw), (14, .v vg), (15, .v (.bool true)), (16, .v (.pointer (some ⟨W2.heap.size, 0, none⟩))), (93, .v vg), (94, .v (.bool true)), (95, .v (.agg #[.int .i64 (sz : Int), .int .i64 32])), (96, .v (.bool true))] h4 (by kernel_rfl) ⟨by kernel_rfl, by kernel_rfl, by kernel_rfl, by kernel_rfl, by kernel_rfl, by kernel_rfl, by kernel_rfl, by kernel_rfl, by kernel_rfl, trivial⟩ (fun a5 h5 d5 => ?_)
  replace d5 := d5.trans d4
  clear h4 d4
  have hst := run_storeVar_row (P := Tryd.prog) (W2.alloc (.cells #[.int .i64 0, .int .i64 0] 24)) W2.heap.size 24 24 #[.int .i64 0, .int .i64 0] #[.int .i64 (sz : Int), .int .i64 32] (MapKept.heap_alloc W2 _).1 (by kernel_rfl) rfl (by rw [Array.all_eq_true_iff_forall_mem]; intro v hv; simp at hv; rcases hv with rfl | rfl <;> rfl)
  refine store_ops (N := 137) (i := 13) (l := [14]) (t := 24) rfl rfl rfl h5 (b := W2.heap.size) (cs := #[.int .i64 (sz : Int), .int .i64 32]) (y := .tmp 95) (x := .tmp 16) rfl (h5.2 16 _ rfl) (h5.2 95 _ rfl) hst ?_
  have ht2 : (⟨W2.heap.size, 24, 2, told2 sz⟩ : Bl).In ((W2.alloc (.cells #[.int .i64 0, .int .i64 0] 24)).setRow W2.heap.size #[.int .i64 (sz : Int), .int .i64 32]) := ⟨_, setRow_heap _ _ _ _ _ _ (MapKept.heap_alloc W2 _).1, rfl, fun i hi => told2_at sz i hi⟩
  have hb2 : Below W2.heap.size W2 ((W2.alloc (.cells #[.int .i64 0, .int .i64 0] 24)).setRow W2.heap.size #[.int .i64 (sz : Int), .int .i64 32]) := below_setRow ((Below.refl _ _).alloc (Nat.le_refl _) _) (Nat.le_refl _) _
  clear hst
  generalize (W2.alloc (.cells #[.int .i64 0, .int .i64 0] 24)).setRow W2.heap.size #[.int .i64 (sz : Int), .int .i64 32] = Wt at ht2 hb2 ⊢
  refine opsP (N := 137) (T := TD) (M := (fun _ _ => none)) tabOkD (fun _ _ _ h => by cases h) [] [14] [(9, .v (.int .i64 (sz : Int))), (11, .v vw), (14, .v vg), (15, .v (.bool true)), (16, .v (.pointer (some ⟨W2.heap.size, 0, none⟩))), (17, .v (.bool true))] h5 (by kernel_rfl) ⟨by kernel_rfl, by kernel_rfl, by kernel_rfl, by kernel_rfl, by kernel_rfl, by kernel_rfl, trivial⟩ (fun a6 h6 d6 => ?_)
  replace d6 := d6.trans d5
  clear h5 d5
  show Code.wp _ _ _ _ _
  generalize hT : W2.heap.size = t at ht2 hb2
  have hI2 := (hI.keep hb1).keep (hT ▸ hb2 : Below W2.heap.size W2 Wt)
  have hg2 := Kd.R_below hg1 (hT ▸ hb2 : Below W2.heap.size W2 Wt)
  obtain ⟨Ag, cg, rfl, hcg, hCg⟩ := Kd.R_reads hg2
  obtain ⟨Aw, cw, rfl, hcw, hCw⟩ := Kd.R_reads hI2.want
  have h6' := has_list (β := bn [t]) (a := a6) h6.1 (E := [(9, .v (.int .i64 (sz : Int))), (11, .v (.slice Aw R.length cw)), (14, .v (.slice Ag R.length cg)), (15, .v (.bool true)), (16, .p 0 0), (17, .v (.bool true))]) ⟨h6.2 9 _ rfl, h6.2 11 _ rfl, h6.2 14 _ rfl, h6.2 15 _ rfl, (h6.2 16 _ rfl).trans (congrArg (fun b => Value.pointer (some ⟨b, 0, none⟩)) hT), h6.2 17 _ rfl, trivial⟩
  replace h6 := h6'
  clear h6'
  have M2 := mw1 ht2
  refine wp_seq ?_
  refine wp_seq ?_
  refine wp_region ?_
  refine opsP (N := 137) (T := TD) (M := bm [⟨t, 24, 2, told2 sz⟩]) tabOkD M2.mem [1, 2, 3, 4, 5, 6, 7, 8, 9, 10, 11, 12, 13, 14, 15, 16, 17, 18, 19, 20, 21, 22, 23] [0] [(9, .v (.int .i64 (sz : Int))), (11, .v (.slice Aw R.length cw)), (14, .v (.slice Ag R.length cg)), (15, .v (.bool true)), (16, .p 0 0), (17, .v (.bool true)), (97, .v (.bool true))] h6 (by kernel_rfl) ⟨by kernel_rfl, by kernel_rfl, by kernel_rfl, by kernel_rfl, by kernel_rfl, by kernel_rfl, by kernel_rfl, trivial⟩ (fun a7 h7 d7 => ?_)
  replace d7 := d7.trans d6
  clear h6 d6
  refine givenW_ops (N := 137) (i := 1) (d := 98) (s := .v (.bool false)) (l := [2, 3, 4, 5, 6, 7, 8, 9, 10, 11, 12, 13, 14, 15, 16, 17, 18, 19, 20, 21, 22, 23]) rfl (want_ rfl) rfl (by decide) h7 (op_not rfl (h7.2 97 _ rfl)) (fun a8 h8 d8 => ?_)
  replace d8 := d8.trans d7
  clear h7 d7
  refine opsP (N := 137) (T := TD) (M := bm [⟨t, 24, 2, told2 sz⟩]) tabOkD M2.mem [3, 4, 5, 6, 7, 8, 9, 10, 11, 12, 13, 14, 15, 16, 17, 18, 19, 20, 21, 22, 23] [2] [(9, .v (.int .i64 (sz : Int))), (11, .v (.slice Aw R.length cw)), (14, .v (.slice Ag R.length cg)), (15, .v (.bool true)), (16, .p 0 0), (17, .v (.bool true)), (97, .v (.bool true)), (98, .v (.bool false)), (99, .v (.bool false))] h8 (by kernel_rfl) ⟨by kernel_rfl, by kernel_rfl, by kernel_rfl, by kernel_rfl, by kernel_rfl, by kernel_rfl, by kernel_rfl, by kernel_rfl, by kernel_rfl, trivial⟩ (fun a9 h9 d9 => ?_)
  replace d9 := d9.trans d8
  clear h8 d8
  refine guard_ops (N := 137) (T := TD) (M := bm [⟨t, 24, 2, told2 sz⟩]) tabOkD (i := 3) (d := 100) (j := 2) (dj := 99) (b := false) (s := .v (.bool true)) (l := [4, 5, 6, 7, 8, 9, 10, 11, 12, 13, 14, 15, 16, 17, 18, 19, 20, 21, 22, 23]) M2.mem rfl rfl rfl rfl rfl (by decide) h9 (by kernel_rfl) (fun a10 h10 d10 => ?_)
  replace d10 := d10.trans d9
  clear h9 d9
  refine givenW_ops (N := 137) (i := 4) (d := 101) (s := .v (.bool false)) (l := [5, 6, 7, 8, 9, 10, 11, 12, 13, 14, 15, 16, 17, 18, 19, 20, 21, 22, 23]) rfl (want_g h10 (j := 2) (d := 99) (b := false) rfl rfl rfl) rfl (by decide) h10 (op_not rfl (h10.2 100 _ rfl)) (fun a11 h11 d11 => ?_)
  replace d11 := d11.trans d10
  clear h10 d10
  refine givenW_ops (N := 137) (i := 5) (d := 102) (s := .v (.bool false)) (l := [6, 7, 8, 9, 10, 11, 12, 13, 14, 15, 16, 17, 18, 19, 20, 21, 22, 23]) rfl (want_ rfl) rfl (by decide) h11 (op_pickF rfl (h11.2 99 _ rfl) (h11.2 101 _ rfl)) (fun a12 h12 d12 => ?_)
  replace d12 := d12.trans d11
  clear h11 d11
  refine opsP (N := 137) (T := TD) (M := bm [⟨t, 24, 2, told2 sz⟩]) tabOkD M2.mem [7, 8, 9, 10, 11, 12, 13, 14, 15, 16, 17, 18, 19, 20, 21, 22, 23] [6] [(9, .v (.int .i64 (sz : Int))), (11, .v (.slice Aw R.length cw)), (14, .v (.slice Ag R.length cg)), (15, .v (.bool true)), (16, .p 0 0), (17, .v (.bool true)), (97, .v (.bool true)), (98, .v (.bool false)), (99, .v (.bool false)), (100, .v (.bool true)), (101, .v (.bool false)), (102, .v (.bool false)), (103, .v (.bool false))] h12 (by kernel_rfl) ⟨by kernel_rfl, by kernel_rfl, by kernel_rfl, by kernel_rfl, by kernel_rfl, by kernel_rfl, by kernel_rfl, by kernel_rfl, by kernel_rfl, by kernel_rfl, by kernel_rfl, by kernel_rfl, by kernel_rfl, trivial⟩ (fun a13 h13 d13 => ?_)
  replace d13 := d13.trans d12
  clear h12 d12
  refine guard_ops (N := 137) (T := TD) (M := bm [⟨t, 24, 2, told2 sz⟩]) tabOkD (i := 7) (d := 104) (j := 6) (dj := 103) (b := false) (s := .p 0 0) (l := [8, 9, 10, 11, 12, 13, 14, 15, 16, 17, 18, 19, 20, 21, 22, 23]) M2.mem rfl rfl rfl rfl rfl (by decide) h13 (by kernel_rfl) (fun a14 h14 d14 => ?_)
  replace d14 := d14.trans d13
  clear h13 d13
  refine guard_ops (N := 137) (T := TD) (M := bm [⟨t, 24, 2, told2 sz⟩]) tabOkD (i := 8) (d := 105) (j := 6) (dj := 103) (b := false) (s := .v (.int .i64 (sz : Int))) (l := [9, 10, 11, 12, 13, 14, 15, 16, 17, 18, 19, 20, 21, 22, 23]) M2.mem rfl rfl rfl rfl rfl (by decide) h14 (by kernel_rfl) (fun a15 h15 d15 => ?_)
  replace d15 := d15.trans d14
  clear h14 d14
  refine guard_ops (N := 137) (T := TD) (M := bm [⟨t, 24, 2, told2 sz⟩]) tabOkD (i := 9) (d := 106) (j := 6) (dj := 103) (b := false) (s := .v (.int .i64 (sz : Int))) (l := [10, 11, 12, 13, 14, 15, 16, 17, 18, 19, 20, 21, 22, 23]) M2.mem rfl rfl rfl rfl rfl (by decide) h15 (by kernel_rfl) (fun a16 h16 d16 => ?_)
  replace d16 := d16.trans d15
  clear h15 d15
  refine guard_ops (N := 137) (T := TD) (M := bm [⟨t, 24, 2, told2 sz⟩]) tabOkD (i := 10) (d := 107) (j := 6) (dj := 103) (b := false) (s := .v (.bool ((sz : Int) != (sz : Int)))) (l := [11, 12, 13, 14, 15, 16, 17, 18, 19, 20, 21, 22, 23]) M2.mem rfl rfl rfl rfl rfl (by decide) h16 (by kernel_rfl) (fun a17 h17 d17 => ?_)
  replace d17 := d17.trans d16
  clear h16 d16
  rw [show ((sz : Int) != (sz : Int)) = false from bne_self_eq_false _] at h17
  refine givenW_ops (N := 137) (i := 11) (d := 108) (s := .v (.bool false)) (l := [12, 13, 14, 15, 16, 17, 18, 19, 20, 21, 22, 23]) rfl (want_ rfl) rfl (by decide) h17 (op_pickF rfl (h17.2 103 _ rfl) (h17.2 107 _ rfl)) (fun a18 h18 d18 => ?_)
  replace d18 := d18.trans d17
  clear h17 d17
  refine opsP (N := 137) (T := TD) (M := bm [⟨t, 24, 2, told2 sz⟩]) tabOkD M2.mem [13, 14, 15, 16, 17, 18, 19, 20, 21, 22, 23] [12] [(9, .v (.int .i64 (sz : Int))), (11, .v (.slice Aw R.length cw)), (14, .v (.slice Ag R.length cg)), (15, .v (.bool true)), (16, .p 0 0), (17, .v (.bool true)), (97, .v (.bool true)), (98, .v (.bool false)), (99, .v (.bool false)), (100, .v (.bool true)), (101, .v (.bool false)), (102, .v (.bool false)), (103, .v (.bool false)), (104, .p 0 0), (105, .v (.int .i64 (sz : Int))), (106, .v (.int .i64 (sz : Int))), (107, .v (.bool false)), (108, .v (.bool false)), (109, .v (.bool false))] h18 (by kernel_rfl) ⟨by kernel_rfl, by kernel_rfl, by kernel_rfl, by kernel_rfl, by kernel_rfl, by kernel_rfl, by kernel_rfl, by kernel_rfl, by kernel_rfl, by kernel_rfl, by kernel_rfl, by kernel_rfl, by kernel_rfl, by kernel_rfl, by kernel_rfl, by kernel_rfl, by kernel_rfl, by kernel_rfl, by kernel_rfl, trivial⟩ (fun a19 h19 d19 => ?_)
  replace d19 := d19.trans d18
  clear h18 d18
  refine guard_ops (N := 137) (T := TD) (M := bm [⟨t, 24, 2, told2 sz⟩]) tabOkD (i := 13) (d := 110) (j := 12) (dj := 109) (b := false) (s := .p 0 1) (l := [14, 15, 16, 17, 18, 19, 20, 21, 22, 23]) M2.mem rfl rfl rfl rfl rfl (by decide) h19 (by kernel_rfl) (fun a20 h20 d20 => ?_)
  replace d20 := d20.trans d19
  clear h19 d19
  refine guard_ops (N := 137) (T := TD) (M := bm [⟨t, 24, 2, told2 sz⟩]) tabOkD (i := 14) (d := 111) (j := 12) (dj := 109) (b := false) (s := .v (.int .i64 32)) (l := [15, 16, 17, 18, 19, 20, 21, 22, 23]) M2.mem rfl rfl rfl rfl rfl (by decide) h20 (by kernel_rfl) (fun a21 h21 d21 => ?_)
  replace d21 := d21.trans d20
  clear h20 d20
  refine guard_ops (N := 137) (T := TD) (M := bm [⟨t, 24, 2, told2 sz⟩]) tabOkD (i := 15) (d := 112) (j := 12) (dj := 109) (b := false) (s := .v (.bool false)) (l := [16, 17, 18, 19, 20, 21, 22, 23]) M2.mem rfl rfl rfl rfl rfl (by decide) h21 (by kernel_rfl) (fun a22 h22 d22 => ?_)
  replace d22 := d22.trans d21
  clear h21 d21
  refine givenW_ops (N := 137) (i := 16) (d := 113) (s := .v (.bool false)) (l := [17, 18, 19, 20, 21, 22, 23]) rfl (want_ rfl) rfl (by decide) h22 (op_pickF rfl (h22.2 109 _ rfl) (h22.2 112 _ rfl)) (fun a23 h23 d23 => ?_)
  replace d23 := d23.trans d22
  clear h22 d22
  refine opsP (N := 137) (T := TD) (M := bm [⟨t, 24, 2, told2 sz⟩]) tabOkD M2.mem [18, 19, 20, 21, 22, 23] [17] [(9, .v (.int .i64 (sz : Int))), (11, .v (.slice Aw R.length cw)), (14, .v (.slice Ag R.length cg)), (15, .v (.bool true)), (16, .p 0 0), (17, .v (.bool true)), (97, .v (.bool true)), (98, .v (.bool false)), (99, .v (.bool false)), (100, .v (.bool true)), (101, .v (.bool false)), (102, .v (.bool false)), (103, .v (.bool false)), (104, .p 0 0), (105, .v (.int .i64 (sz : Int))), (106, .v (.int .i64 (sz : Int))), (107, .v (.bool false)), (108, .v (.bool false)), (109, .v (.bool false)), (110, .p 0 1), (111, .v (.int .i64 32)), (112, .v (.bool false)), (113, .v (.bool false)), (114, .v (.bool false))] h23 (by kernel_rfl) ⟨by kernel_rfl, by kernel_rfl, by kernel_rfl, by kernel_rfl, by kernel_rfl, by kernel_rfl, by kernel_rfl, by kernel_rfl, by kernel_rfl, by kernel_rfl, by kernel_rfl, by kernel_rfl, by kernel_rfl, by kernel_rfl, by kernel_rfl, by kernel_rfl, by kernel_rfl, by kernel_rfl, by kernel_rfl, by kernel_rfl, by kernel_rfl, by kernel_rfl, by kernel_rfl, by kernel_rfl, trivial⟩ (fun a24 h24 d24 => ?_)
  replace d24 := d24.trans d23
  clear h23 d23
  refine guard_ops (N := 137) (T := TD) (M := bm [⟨t, 24, 2, told2 sz⟩]) tabOkD (i := 18) (d := 115) (j := 17) (dj := 114) (b := false) (s := .v (.slice Ag R.length cg)) (l := [19, 20, 21, 22, 23]) M2.mem rfl rfl rfl rfl rfl (by decide) h24 (by kernel_rfl) (fun a25 h25 d25 => ?_)
  replace d25 := d25.trans d24
  clear h24 d24
  refine givenW_ops (N := 137) (i := 19) (d := 116) (s := .v (.int .i64 (R.length : Int))) (l := [20, 21, 22, 23]) rfl (want_g h25 (j := 17) (d := 114) (b := false) rfl rfl rfl) rfl (by decide) h25 (op_len rfl Tryd.underlying23 (h25.2 115 _ rfl)) (fun a26 h26 d26 => ?_)
  replace d26 := d26.trans d25
  clear h25 d25
  refine guard_ops (N := 137) (T := TD) (M := bm [⟨t, 24, 2, told2 sz⟩]) tabOkD (i := 20) (d := 117) (j := 17) (dj := 114) (b := false) (s := .v (.slice Aw R.length cw)) (l := [21, 22, 23]) M2.mem rfl rfl rfl rfl rfl (by decide) h26 (by kernel_rfl) (fun a27 h27 d27 => ?_)
  replace d27 := d27.trans d26
  clear h26 d26
  refine givenW_ops (N := 137) (i := 21) (d := 118) (s := .v (.int .i64 (R.length : Int))) (l := [22, 23]) rfl (want_g h27 (j := 17) (d := 114) (b := false) rfl rfl rfl) rfl (by decide) h27 (op_len rfl Tryd.underlying23 (h27.2 117 _ rfl)) (fun a28 h28 d28 => ?_)
  replace d28 := d28.trans d27
  clear h27 d27
  refine guard_ops (N := 137) (T := TD) (M := bm [⟨t, 24, 2, told2 sz⟩]) tabOkD (i := 22) (d := 119) (j := 17) (dj := 114) (b := false) (s := .v (.bool ((R.length : Int) != (R.length : Int)))) (l := [23]) M2.mem rfl rfl rfl rfl rfl (by decide) h28 (by kernel_rfl) (fun a29 h29 d29 => ?_)
  replace d29 := d29.trans d28
  clear h28 d28
  rw [show ((R.length : Int) != (R.length : Int)) = false from bne_self_eq_false _] at h29
  refine givenW_ops (N := 137) (i := 23) (d := 120) (s := .v (.bool false)) (l := []) rfl (want_ rfl) rfl (by decide) h29 (op_pickF rfl (h29.2 114 _ rfl) (h29.2 119 _ rfl)) (fun a30 h30 d30 => ?_)
  replace d30 := d30.trans d29
  clear h29 d29
  show Code.wp _ _ _ _ _
  refine wp_cond_false (h30.2 120 _ rfl) ?_
  refine wp_skip ?_
  show Code.wp _ _ _ _ _
  have h30' := has_list (β := bn []) (a := a30) h30.1 (E := [(11, .v (.slice Aw R.length cw)), (14, .v (.slice Ag R.length cg))]) ⟨h30.2 11 _ rfl, h30.2 14 _ rfl, trivial⟩
  replace h30 := h30'
  clear h30'
  refine wp_seq ?_
  refine wp_seq ?_
  refine wp_region ?_
  refine opsP (N := 137) (T := TD) (M := (fun _ _ => none)) tabOkD (fun _ _ _ h => by cases h) [1, 2] [0] [(11, .v (.slice Aw R.length cw)), (14, .v (.slice Ag R.length cg)), (121, .v (.slice Ag R.length cg))] h30 (by kernel_rfl) ⟨by kernel_rfl, by kernel_rfl, by kernel_rfl, trivial⟩ (fun a31 h31 d31 => ?_)
  replace d31 := d31.trans d30
  clear h30 d30
  refine givenW_ops (N := 137) (i := 1) (d := 122) (s := .v (.int .i64 (R.length : Int))) (l := [2]) rfl (want_ rfl) rfl (by decide) h31 (op_len rfl Tryd.underlying23 (h31.2 121 _ rfl)) (fun a32 h32 d32 => ?_)
  replace d32 := d32.trans d31
  clear h31 d31
  refine opsP (N := 137) (T := TD) (M := (fun _ _ => none)) tabOkD (fun _ _ _ h => by cases h) [] [2] [(11, .v (.slice Aw R.length cw)), (14, .v (.slice Ag R.length cg)), (122, .v (.int .i64 (R.length : Int))), (123, .v (.int .i64 ((0 : Nat) : Int)))] h32 (by kernel_rfl) ⟨by kernel_rfl, by kernel_rfl, by kernel_rfl, by kernel_rfl, trivial⟩ (fun a33 h33 d33 => ?_)
  replace d33 := d33.trans d32
  clear h32 d32
  show Code.wp _ _ _ _ _
  refine wp_block ?_
  refine wp_loop (fun a wr => ∃ q, q ≤ R.length ∧ Has 137 (bn []) [(11, .v (.slice Aw R.length cw)), (14, .v (.slice Ag R.length cg)), (122, .v (.int .i64 (R.length : Int))), (123, .v (.int .i64 (q : Int)))] a ∧ a.defers = [] ∧ Below Wt.heap.size Wt wr) (fun a _ => R.length - (intOf (a.eval (.tmp 123))).toNat) ⟨0, Nat.zero_le _, h33, d33, Below.refl _ _⟩ ?_
  rintro a wr ⟨q, hq, hH, hd, hbr⟩
  clear h33 d33
  have hwr : Below w.heap.size w wr := hI2.below.trans (hbr.mono hI2.below.size)
  have h0 := hH
  have d0 := hd
  refine wp_seq ?_
  refine wp_region ?_
  refine opsP (N := 137) (T := TD) (M := (fun _ _ => none)) tabOkD (fun _ _ _ h => by cases h) [] [0] [(11, .v (.slice Aw R.length cw)), (14, .v (.slice Ag R.length cg)), (122, .v (.int .i64 (R.length : Int))), (123, .v (.int .i64 (q : Int))), (124, .v (.bool (decide ((q : Int) < (R.length : Int)))))] h0 (by kernel_rfl) ⟨by kernel_rfl, by kernel_rfl, by kernel_rfl, by kernel_rfl, by kernel_rfl, trivial⟩ (fun a1 h1 d1 => ?_)
  replace d1 := d1.trans d0
  clear h0 d0
  show Code.wp _ _ _ _ _
  refine wp_seq ?_
  by_cases hlt : q < R.length
  · refine wp_cond_true ((h1.2 124 _ rfl).trans (congrArg Value.bool (decide_eq_true (by omega)))) ?_
    refine wp_skip ?_
    show Code.wp _ _ _ _ _
    refine wp_seq ?_
    refine wp_block ?_
    refine wp_seq ?_
    refine wp_region ?_
    refine opsP (N := 137) (T := TD) (M := (fun _ _ => none)) tabOkD (fun _ _ _ h => by cases h) [] [0, 1] [(11, .v (.slice Aw R.length cw)), (14, .v (.slice Ag R.length cg)), (18, .v (.int .i64 (q : Int))), (122, .v (.int .i64 (R.length : Int))), (123, .v (.int .i64 (q : Int)))] h1 (by kernel_rfl) ⟨by kernel_rfl, by kernel_rfl, by kernel_rfl, by kernel_rfl, by kernel_rfl, trivial⟩ (fun a2 h2 d2 => ?_)
    replace d2 := d2.trans d1
    clear h1 d1
    show Code.wp _ _ _ _ _
    obtain ⟨p, hp⟩ : ∃ p, R[q]? = some p := ⟨_, List.getElem?_eq_getElem hlt⟩
    have hCg' := Kd.C_below hCg hbr
    have hCw' := Kd.C_below hCw hbr
    obtain ⟨gb, go, A1, c1, rfl, hcell1, hc1, hC1⟩ := piece_at hCg' q p hp
    obtain ⟨wb, wo, A2, c2, rfl, hcell2, hc2, hC2⟩ := piece_at hCw' q p hp
    refine wp_seq ?_
    let SS : World → Prop := fun V => V.cell? ⟨gb, go + q * 1, none⟩ = some (.slice A1 p.length c1) ∧ V.cell? ⟨wb, wo + q * 1, none⟩ = some (.slice A2 p.length c2)
    have hSM : ∀ W, SS W → MemOk (bn []) (fun _ _ => none) W := fun _ _ _ _ _ h => by cases h
    have hS0 : SS wr := ⟨hcell1, hcell2⟩
    refine start_ (S := SS) (ds := []) (n := 10) _ (by kernel_rfl) rfl rfl (show SS wr.drew from hS0) (fun hS0 => ?_)
    refine segP (S := SS) (T := TD) (M := fun _ _ => none) (N := 137) tabOkD hSM (fun _ _ _ _ hd h => And.intro (hd.trans (And.left h)) (And.right h)) hS0 [0, 1] 8 [(11, .v (.slice (some ⟨wb, wo, none⟩) R.length cw)), (14, .v (.slice (some ⟨gb, go, none⟩) R.length cg)), (18, .v (.int .i64 (q : Int))), (122, .v (.int .i64 (R.length : Int))), (123, .v (.int .i64 (q : Int))), (126, .v (.slice (some ⟨gb, go, none⟩) R.length cg)), (127, .v (.int .i64 (q : Int)))] h2 (by kernel_rfl) (by kernel_rfl) ⟨by kernel_rfl, by kernel_rfl, by kernel_rfl, by kernel_rfl, by kernel_rfl, by kernel_rfl, by kernel_rfl, trivial⟩ (fun a3 h3 d3 => ?_)
    replace d3 := d3.trans d2
    clear h2 d2
    refine segV (S := SS) (N := 137) (i := 2) (d := 128) (s := .v (.pointer (some ⟨gb, go + q * 1, none⟩))) (fun _ _ _ _ hd h => And.intro (hd.trans (And.left h)) (And.right h)) hS0 h3 rfl rfl rfl (by decide) (by kernel_rfl) (fun W' hW => op_indexT rfl (h3.2 126 _ rfl) (h3.2 127 _ rfl) Tryd.underlying23 Tryd.sizeOf22 hlt) (fun a4 h4 d4 => ?_)
    replace d4 := d4.trans d3
    clear h3 d3
    refine segV (S := SS) (N := 137) (i := 3) (d := 129) (s := .v (.slice A1 p.length c1)) (fun _ _ _ _ hd h => And.intro (hd.trans (And.left h)) (And.right h)) hS0 h4 rfl rfl rfl (by decide) (by kernel_rfl) (fun W' hW => op_load rfl (h4.2 128 _ rfl) Tryd.isAgg22 hW.1) (fun a5 h5 d5 => ?_)
    replace d5 := d5.trans d4
    clear h4 d4
    refine segP (S := SS) (T := TD) (M := fun _ _ => none) (N := 137) tabOkD hSM (fun _ _ _ _ hd h => And.intro (hd.trans (And.left h)) (And.right h)) hS0 [4, 5] 4 [(11, .v (.slice (some ⟨wb, wo, none⟩) R.length cw)), (14, .v (.slice (some ⟨gb, go, none⟩) R.length cg)), (18, .v (.int .i64 (q : Int))), (122, .v (.int .i64 (R.length : Int))), (123, .v (.int .i64 (q : Int))), (126, .v (.slice (some ⟨gb, go, none⟩) R.length cg)), (127, .v (.int .i64 (q : Int))), (128, .v (.pointer (some ⟨gb, go + q * 1, none⟩))), (129, .v (.slice A1 p.length c1)), (130, .v (.slice (some ⟨wb, wo, none⟩) R.length cw)), (131, .v (.int .i64 (q : Int)))] h5 (by kernel_rfl) (by kernel_rfl) ⟨by kernel_rfl, by kernel_rfl, by kernel_rfl, by kernel_rfl, by kernel_rfl, by kernel_rfl, by kernel_rfl, by kernel_rfl, by kernel_rfl, by kernel_rfl, by kernel_rfl, trivial⟩ (fun a6 h6 d6 => ?_)
    replace d6 := d6.trans d5
    clear h5 d5
    refine segV (S := SS) (N := 137) (i := 6) (d := 132) (s := .v (.pointer (some ⟨wb, wo + q * 1, none⟩))) (fun _ _ _ _ hd h => And.intro (hd.trans (And.left h)) (And.right h)) hS0 h6 rfl rfl rfl (by decide) (by kernel_rfl) (fun W' hW => op_indexT rfl (h6.2 130 _ rfl) (h6.2 131 _ rfl) Tryd.underlying23 Tryd.sizeOf22 hlt) (fun a7 h7 d7 => ?_)
    replace d7 := d7.trans d6
    clear h6 d6
    refine segV (S := SS) (N := 137) (i := 7) (d := 133) (s := .v (.slice A2 p.length c2)) (fun _ _ _ _ hd h => And.intro (hd.trans (And.left h)) (And.right h)) hS0 h7 rfl rfl rfl (by decide) (by kernel_rfl) (fun W' hW => op_load rfl (h7.2 132 _ rfl) Tryd.isAgg22 hW.2) (fun a8 h8 d8 => ?_)
    replace d8 := d8.trans d7
    clear h7 d7
    have hpl : p.length < 9223372036854775807 := hRl q p hp
    refine stepR (S := SS) (N := 137) (j := 8) (d := 134) (f := 12) (args := [.v (.slice A1 p.length c1), .v (.slice A2 p.length c2)]) h8 (by kernel_rfl) (by kernel_rfl) Tryd.func12 rfl rfl (fun vz Wz => vz = .bool true ∧ Below wr.heap.size wr Wz) (fun vz Wz hh => ⟨(hh.2.cell (World.block_lt_of_cell? wr _ hcell1)).trans hcell1, (hh.2.cell (World.block_lt_of_cell? wr _ hcell2)).trans hcell2⟩) ((spec_SameBytes.calls _ A1 c1 p A2 c2 p true wr.drew hC1 hc1 hC2 hc2 (same_self p hpl)).mono fun e' W' hh => ⟨_, hh.1, rfl, ((Below.refl wr.heap.size wr).drew).trans hh.2.below⟩) (fun a9 vz Wz h9 d9 hRz => ?_)
    replace d9 := d9.trans d8
    clear h8 d8
    obtain ⟨rfl, hbz⟩ := hRz
    have hSz : SS Wz := ⟨(hbz.cell (World.block_lt_of_cell? wr _ hcell1)).trans hcell1, (hbz.cell (World.block_lt_of_cell? wr _ hcell2)).trans hcell2⟩
    refine segV (S := SS) (N := 137) (i := 9) (d := 135) (s := .v (.bool false)) (fun _ _ _ _ hd h => And.intro (hd.trans (And.left h)) (And.right h)) hSz h9 rfl rfl rfl (by decide) (by kernel_rfl) (fun W' hW => op_not rfl (h9.2 134 _ rfl)) (fun a10 h10 d10 => ?_)
    replace d10 := d10.trans d9
    clear h9 d9
    refine segE (by kernel_rfl) ?_
    show Code.wp _ _ _ _ _
    refine wp_cond_false (h10.2 135 _ rfl) ?_
    refine wp_skip ?_
    show Code.wp _ _ _ _ _
    refine wp_region ?_
    refine opsP (N := 137) (T := TD) (M := (fun _ _ => none)) tabOkD (fun _ _ _ h => by cases h) [] [0, 1] [(11, .v (.slice (some ⟨wb, wo, none⟩) R.length cw)), (14, .v (.slice (some ⟨gb, go, none⟩) R.length cg)), (122, .v (.int .i64 (R.length : Int))), (123, .v (.int .i64 (IntKind.i64.wrap ((q : Int) + 1))))] h10 (by kernel_rfl) ⟨by kernel_rfl, by kernel_rfl, by kernel_rfl, by kernel_rfl, trivial⟩ (fun a11 h11 d11 => ?_)
    replace d11 := d11.trans d10
    clear h10 d10
    rw [show IntKind.i64.wrap ((q : Int) + 1) = ((q + 1 : Nat) : Int) by rw [i64_w]; unfold wrap64; omega] at h11
    refine ⟨⟨q + 1, hlt, h11, d11, hbr.trans (hbz.mono hbr.size)⟩, ?_⟩
    have e1 : a11.eval (.tmp 123) = .int .i64 ((q + 1 : Nat) : Int) := h11.2 123 _ rfl
    have e2 : a.eval (.tmp 123) = .int .i64 (q : Int) := hH.2 123 _ rfl
    rw [e1, e2]
    simp only [intOf]
    omega
  refine wp_cond_false ((h1.2 124 _ rfl).trans (congrArg Value.bool (decide_eq_false (by omega)))) (wp_exit ?_)
  refine then_exit (then_exit (exit_in ?_))
  show Code.wp _ _ _ _ _
  refine wp_seq ?_
  refine wp_region ?_
  refine opsP (N := 137) (T := TD) (M := (fun _ _ => none)) tabOkD (fun _ _ _ h => by cases h) [] [0] [(8, .v (.bool true))] h1 (by kernel_rfl) ⟨by kernel_rfl, trivial⟩ (fun a2 h2 d2 => ?_)
  show Code.wp _ _ _ _ _
  refine wp_ret ?_
  exact ⟨d2.trans d1, _, results_tmp rfl _ _ _, congrArg Ending.returned (h2.2 8 _ rfl), hwr⟩
theorem runF_rows (sz : Nat) (hsz : sz = 8 ∨ sz = 16 ∨ sz = 32) (y : Nat → Int) (ks : Nat → Int) (dl : Nat → List Int) : ∀ q, (∀ i, i < q → (dl i).length ≤ 8192) → ∀ p ∈ (runF sz y ks dl q).2, p.length < 9223372036854775807
  | 0, _, p, hp => by cases hp
  | q + 1, h, p, hp => by
    have ih := runF_rows sz hsz y ks dl q (fun i hi => h i (by omega))
    have hq := h q (by omega)
    unfold runF stF at hp
    have e1 := sumS_len sz hsz
    have e2 := sumS_len 8 (Or.inl rfl)
    split at hp
    · exact ih p hp
    · split at hp
      · rcases List.mem_append.1 hp with h1 | h1
        · exact ih p h1
        · rw [List.mem_singleton.1 h1, List.length_append, e1]
          omega
      · split at hp
        · exact ih p hp
        · rcases List.mem_append.1 hp with h1 | h1
          · exact ih p h1
          · have e3 := e2 (hvS y (lx (runF sz y ks dl q).1) (runF sz y ks dl q).1.length)
            rw [List.mem_singleton.1 h1]
            have e4 : (sumS (8 : Int) (hvS y (lx (runF sz y ks dl q).1) (runF sz y ks dl q).1.length)).length = 8 := e3
            omega
set_option maxHeartbeats 8000000 in
set_option maxRecDepth 100000 in
theorem law_body (a0 : Int) (ha : 0 ≤ a0) (K : Option Addr) (kc : Nat) (lk : List Int) (dg : Bool) (A : Option Addr) (c : Nat) (sl : List S33) (w : World) (hK : Kd.C (Kd.int .u8) w K lk.length lk) (hkc : lk.length ≤ kc) (ok_ : octs lk) (hSl : Kd.C k33 w A sl.length sl) (hsc : sl.length ≤ c) (os_ : ∀ x ∈ sl, octs x.f1) (a0_ : Act) (h0 : Has 137 (bn []) [(0, .v (.int .u8 a0)), (1, .v (.slice K lk.length kc)), (2, .v (.bool dg)), (3, .v (.slice A sl.length c))] a0_) (d0 : a0_.defers = []) : Code.wp Tryd.prog c4_0 (bodyPost Tryd.prog Tryd.f4 fun e w' => e = .returned (.bool true) ∧ Below w.heap.size w w') a0_ w := by
  have hb0 : Below w.heap.size w w := Below.refl _ _
  refine wp_seq ?_
  refine wp_region ?_
  refine opsP (N := 137) (T := TD) (M := (fun _ _ => none)) tabOkD (fun _ _ _ h => by cases h) [] [0] [(0, .v (.int .u8 a0)), (1, .v (.slice K lk.length kc)), (2, .v (.bool dg)), (3, .v (.slice A sl.length c)), (8, .v (.bool false))] h0 (by kernel_rfl) ⟨by kernel_rfl, by kernel_rfl, by kernel_rfl, by kernel_rfl, by kernel_rfl, trivial⟩ (fun a1 h1 d1 => ?_)
  replace d1 := d1.trans d0
  clear h0 d0
  show Code.wp _ _ _ _ _
  refine wp_seq ?_
  refine wp_seq ?_
  refine wp_region ?_
  refine opsP (N := 137) (T := TD) (M := (fun _ _ => none)) tabOkD (fun _ _ _ h => by cases h) [4, 5, 6, 7] [0, 1, 2, 3] [(0, .v (.int .u8 a0)), (1, .v (.slice K lk.length kc)), (2, .v (.bool dg)), (3, .v (.slice A sl.length c)), (8, .v (.bool false)), (22, .v (.bool (decide ((lk.length : Int) > 2147483647))))] h1 (by kernel_rfl) ⟨by kernel_rfl, by kernel_rfl, by kernel_rfl, by kernel_rfl, by kernel_rfl, by kernel_rfl, trivial⟩ (fun a2 h2 d2 => ?_)
  replace d2 := d2.trans d1
  clear h1 d1
  by_cases hk1 : (lk.length : Int) > 2147483647
  · rw [show decide ((lk.length : Int) > 2147483647) = true from decide_eq_true hk1] at h2
    refine skip_ops (N := 137) (i := 4) (d := 23) (j := 3) (dj := 22) (b := false) (b' := true) (l := [5, 6, 7]) rfl rfl rfl rfl (by decide) rfl (by decide) h2 (fun a3 h3 d3 => ?_)
    replace d3 := d3.trans d2
    clear h2 d2
    refine skip_ops (N := 137) (i := 5) (d := 24) (j := 3) (dj := 22) (b := false) (b' := true) (l := [6, 7]) rfl rfl rfl rfl (by decide) rfl (by decide) h3 (fun a4 h4 d4 => ?_)
    replace d4 := d4.trans d3
    clear h3 d3
    refine skip_ops (N := 137) (i := 6) (d := 25) (j := 3) (dj := 22) (b := false) (b' := true) (l := [7]) rfl rfl rfl rfl (by decide) rfl (by decide) h4 (fun a5 h5 d5 => ?_)
    replace d5 := d5.trans d4
    clear h4 d4
    refine givenW_ops (N := 137) (i := 7) (d := 26) (s := .v (Value.bool true)) (l := []) rfl (want_ rfl) rfl (by decide) h5 (op_pickT rfl (h5.2 22 _ rfl) rfl) (fun a6 h6 d6 => ?_)
    replace d6 := d6.trans d5
    clear h5 d5
    show Code.wp _ _ _ _ _
    refine wp_cond_true (h6.2 26 _ rfl) ?_
    refine wp_seq ?_
    refine wp_region ?_
    refine opsP (N := 137) (T := TD) (M := (fun _ _ => none)) tabOkD (fun _ _ _ h => by cases h) [] [0] [(8, .v (.bool true))] h6 (by kernel_rfl) ⟨by kernel_rfl, trivial⟩ (fun a7 h7 d7 => ?_)
    show Code.wp _ _ _ _ _
    refine wp_ret ?_
    exact ⟨d7.trans d6, _, results_tmp rfl _ _ _, congrArg Ending.returned (h7.2 8 _ rfl), hb0⟩
  rw [show decide ((lk.length : Int) > 2147483647) = false from decide_eq_false hk1] at h2
  obtain ⟨kf, rf, hf⟩ := fits1_some sl hSl.2.1
  refine guard_ops (N := 137) (T := TD) (M := (fun _ _ => none)) tabOkD (i := 4) (d := 23) (j := 3) (dj := 22) (b := false) (s := .v (.slice A sl.length c)) (l := [5, 6, 7]) (fun _ _ _ h => by cases h) rfl rfl rfl rfl rfl (by decide) h2 (by kernel_rfl) (fun a3 h3 d3 => ?_)
  replace d3 := d3.trans d2
  clear h2 d2
  refine callW_ops (N := 137) (i := 5) (d := 24) (f := 9) (args := [.v (.slice A sl.length c)]) (l := [6, 7]) rfl (want_g h3 (j := 3) (d := 22) (b := false) rfl rfl rfl) rfl (by decide) h3 Tryd.func9 rfl rfl rfl (by kernel_rfl) (fun vz Wz => vz = .bool rf ∧ Below w.heap.size w Wz) ((laws_zzFits1.calls kf A c sl rf w hSl hsc hf).mono fun e' W' hh => ⟨_, hh.1, rfl, by first | exact hh.2 | exact hh.2.below⟩) (fun v4 W4 a4 hR4 h4 d4 => ?_)
  replace d4 := d4.trans d3
  clear h3 d3
  obtain ⟨rfl, hb4⟩ := hR4
  refine givenW_ops (N := 137) (i := 6) (d := 25) (s := .v (.bool (!rf))) (l := [7]) rfl (want_g h4 (j := 3) (d := 22) (b := false) rfl rfl rfl) rfl (by decide) h4 (op_not rfl (h4.2 24 _ rfl)) (fun a5 h5 d5 => ?_)
  replace d5 := d5.trans d4
  clear h4 d4
  refine givenW_ops (N := 137) (i := 7) (d := 26) (s := .v (.bool (!rf))) (l := []) rfl (want_ rfl) rfl (by decide) h5 (op_pickF rfl (h5.2 22 _ rfl) (h5.2 25 _ rfl)) (fun a6 h6 d6 => ?_)
  replace d6 := d6.trans d5
  clear h5 d5
  show Code.wp _ _ _ _ _
  cases rf
  · refine wp_cond_true (h6.2 26 _ rfl) ?_
    refine wp_seq ?_
    refine wp_region ?_
    refine opsP (N := 137) (T := TD) (M := (fun _ _ => none)) tabOkD (fun _ _ _ h => by cases h) [] [0] [(8, .v (.bool true))] h6 (by kernel_rfl) ⟨by kernel_rfl, trivial⟩ (fun a7 h7 d7 => ?_)
    show Code.wp _ _ _ _ _
    refine wp_ret ?_
    exact ⟨d7.trans d6, _, results_tmp rfl _ _ _, congrArg Ending.returned (h7.2 8 _ rfl), hb4⟩
  refine wp_cond_false (h6.2 26 _ rfl) ?_
  refine wp_skip ?_
  show Code.wp _ _ _ _ _
  obtain ⟨sz, hsz1, hsz⟩ := sz_law a0 ha
  refine wp_seq ?_
  refine wp_region ?_
  refine opsP (N := 137) (T := TD) (M := (fun _ _ => none)) tabOkD (fun _ _ _ h => by cases h) [1, 2] [0] [(0, .v (.int .u8 a0)), (1, .v (.slice K lk.length kc)), (2, .v (.bool dg)), (3, .v (.slice A sl.length c)), (8, .v (.bool false)), (27, .v (.int .u8 a0))] h6 (by kernel_rfl) ⟨by kernel_rfl, by kernel_rfl, by kernel_rfl, by kernel_rfl, by kernel_rfl, by kernel_rfl, trivial⟩ (fun a7 h7 d7 => ?_)
  replace d7 := d7.trans d6
  clear h6 d6
  refine callW_ops (N := 137) (i := 1) (d := 28) (f := 8) (args := [.v (.int .u8 a0)]) (l := [2]) rfl (want_ rfl) rfl (by decide) h7 Tryd.func8 rfl rfl rfl (by kernel_rfl) (fun vz Wz => vz = .int .i64 (sz : Int) ∧ Below W4.heap.size W4 Wz) ((laws_hashSize.calls a0 _ W4 hsz1).mono fun e' W' hh => ⟨_, hh.1, rfl, hh.2.below⟩) (fun v8 W8 a8 hR8 h8 d8 => ?_)
  replace d8 := d8.trans d7
  clear h7 d7
  obtain ⟨rfl, hc8⟩ := hR8
  have hb8 : Below w.heap.size w W8 := hb4.trans (hc8.mono hb4.size)
  refine opsP (N := 137) (T := TD) (M := (fun _ _ => none)) tabOkD (fun _ _ _ h => by cases h) [] [2] [(1, .v (.slice K lk.length kc)), (2, .v (.bool dg)), (3, .v (.slice A sl.length c)), (8, .v (.bool false)), (9, .v (.int .i64 (sz : Int)))] h8 (by kernel_rfl) ⟨by kernel_rfl, by kernel_rfl, by kernel_rfl, by kernel_rfl, by kernel_rfl, trivial⟩ (fun a9 h9 d9 => ?_)
  replace d9 := d9.trans d8
  clear h8 d8
  show Code.wp _ _ _ _ _
  refine wp_seq ?_
  refine wp_seq ?_
  refine wp_region ?_
  refine opsP (N := 137) (T := TD) (M := (fun _ _ => none)) tabOkD (fun _ _ _ h => by cases h) [4, 5, 6, 7] [0, 1, 2, 3] [(1, .v (.slice K lk.length kc)), (2, .v (.bool dg)), (3, .v (.slice A sl.length c)), (8, .v (.bool false)), (9, .v (.int .i64 (sz : Int))), (32, .v (.bool ((lk.length : Int) != 32)))] h9 (by kernel_rfl) ⟨by kernel_rfl, by kernel_rfl, by kernel_rfl, by kernel_rfl, by kernel_rfl, by kernel_rfl, trivial⟩ (fun a10 h10 d10 => ?_)
  replace d10 := d10.trans d9
  clear h9 d9
  by_cases h32 : lk.length = 32
  rotate_left
  · rw [show ((lk.length : Int) != 32) = true by rw [bne_iff_ne]; omega] at h10
    refine skip_ops (N := 137) (i := 4) (d := 33) (j := 3) (dj := 32) (b := false) (b' := true) (l := [5, 6, 7]) rfl rfl rfl rfl (by decide) rfl (by decide) h10 (fun a11 h11 d11 => ?_)
    replace d11 := d11.trans d10
    clear h10 d10
    refine skip_ops (N := 137) (i := 5) (d := 34) (j := 3) (dj := 32) (b := false) (b' := true) (l := [6, 7]) rfl rfl rfl rfl (by decide) rfl (by decide) h11 (fun a12 h12 d12 => ?_)
    replace d12 := d12.trans d11
    clear h11 d11
    refine skip_ops (N := 137) (i := 6) (d := 35) (j := 3) (dj := 32) (b := false) (b' := true) (l := [7]) rfl rfl rfl rfl (by decide) rfl (by decide) h12 (fun a13 h13 d13 => ?_)
    replace d13 := d13.trans d12
    clear h12 d12
    refine givenW_ops (N := 137) (i := 7) (d := 36) (s := .v (Value.bool true)) (l := []) rfl (want_ rfl) rfl (by decide) h13 (op_pickT rfl (h13.2 32 _ rfl) rfl) (fun a14 h14 d14 => ?_)
    replace d14 := d14.trans d13
    clear h13 d13
    show Code.wp _ _ _ _ _
    refine wp_cond_true (h14.2 36 _ rfl) ?_
    refine wp_seq ?_
    refine wp_region ?_
    refine opsP (N := 137) (T := TD) (M := (fun _ _ => none)) tabOkD (fun _ _ _ h => by cases h) [] [0] [(8, .v (.bool true))] h14 (by kernel_rfl) ⟨by kernel_rfl, trivial⟩ (fun a15 h15 d15 => ?_)
    show Code.wp _ _ _ _ _
    refine wp_ret ?_
    exact ⟨d15.trans d14, _, results_tmp rfl _ _ _, congrArg Ending.returned (h15.2 8 _ rfl), hb8⟩
  rw [show ((lk.length : Int) != 32) = false by rw [h32]; rfl] at h10
  refine guard_ops (N := 137) (T := TD) (M := (fun _ _ => none)) tabOkD (i := 4) (d := 33) (j := 3) (dj := 32) (b := false) (s := .v (.slice A sl.length c)) (l := [5, 6, 7]) (fun _ _ _ h => by cases h) rfl rfl rfl rfl rfl (by decide) h10 (by kernel_rfl) (fun a11 h11 d11 => ?_)
  replace d11 := d11.trans d10
  clear h10 d10
  refine givenW_ops (N := 137) (i := 5) (d := 34) (s := .v (.int .i64 (sl.length : Int))) (l := [6, 7]) rfl (want_g h11 (j := 3) (d := 32) (b := false) rfl rfl rfl) rfl (by decide) h11 (op_len rfl Tryd.underlying29 (h11.2 33 _ rfl)) (fun a12 h12 d12 => ?_)
  replace d12 := d12.trans d11
  clear h11 d11
  refine guard_ops (N := 137) (T := TD) (M := (fun _ _ => none)) tabOkD (i := 6) (d := 35) (j := 3) (dj := 32) (b := false) (s := .v (.bool (decide ((sl.length : Int) > 60)))) (l := [7]) (fun _ _ _ h => by cases h) rfl rfl rfl rfl rfl (by decide) h12 (by kernel_rfl) (fun a13 h13 d13 => ?_)
  replace d13 := d13.trans d12
  clear h12 d12
  refine givenW_ops (N := 137) (i := 7) (d := 36) (s := .v (.bool (decide ((sl.length : Int) > 60)))) (l := []) rfl (want_ rfl) rfl (by decide) h13 (op_pickF rfl (h13.2 32 _ rfl) (h13.2 35 _ rfl)) (fun a14 h14 d14 => ?_)
  replace d14 := d14.trans d13
  clear h13 d13
  show Code.wp _ _ _ _ _
  by_cases hn : sl.length ≤ 60
  rotate_left
  · refine wp_cond_true ((h14.2 36 _ rfl).trans (congrArg Value.bool (decide_eq_true (by omega)))) ?_
    refine wp_seq ?_
    refine wp_region ?_
    refine opsP (N := 137) (T := TD) (M := (fun _ _ => none)) tabOkD (fun _ _ _ h => by cases h) [] [0] [(8, .v (.bool true))] h14 (by kernel_rfl) ⟨by kernel_rfl, trivial⟩ (fun a15 h15 d15 => ?_)
    show Code.wp _ _ _ _ _
    refine wp_ret ?_
    exact ⟨d15.trans d14, _, results_tmp rfl _ _ _, congrArg Ending.returned (h15.2 8 _ rfl), hb8⟩
  refine wp_cond_false ((h14.2 36 _ rfl).trans (congrArg Value.bool (decide_eq_false (by omega)))) ?_
  refine wp_skip ?_
  show Code.wp _ _ _ _ _
  refine wp_seq ?_
  refine wp_region ?_
  refine opsP (N := 137) (T := TD) (M := (fun _ _ => none)) tabOkD (fun _ _ _ h => by cases h) [] [0] [(1, .v (.slice K lk.length kc)), (2, .v (.bool dg)), (3, .v (.slice A sl.length c)), (9, .v (.int .i64 (sz : Int))), (10, .v (.slice none 0 0))] h14 (by kernel_rfl) ⟨by kernel_rfl, by kernel_rfl, by kernel_rfl, by kernel_rfl, by kernel_rfl, trivial⟩ (fun a15 h15 d15 => ?_)
  replace d15 := d15.trans d14
  clear h14 d14
  show Code.wp _ _ _ _ _
  refine wp_seq ?_
  refine wp_region ?_
  refine opsP (N := 137) (T := TD) (M := (fun _ _ => none)) tabOkD (fun _ _ _ h => by cases h) [] [0] [(1, .v (.slice K lk.length kc)), (2, .v (.bool dg)), (3, .v (.slice A sl.length c)), (9, .v (.int .i64 (sz : Int))), (10, .v (.slice none 0 0)), (11, .v (.slice none 0 0))] h15 (by kernel_rfl) ⟨by kernel_rfl, by kernel_rfl, by kernel_rfl, by kernel_rfl, by kernel_rfl, by kernel_rfl, trivial⟩ (fun a16 h16 d16 => ?_)
  replace d16 := d16.trans d15
  clear h15 d15
  show Code.wp _ _ _ _ _
  refine wp_seq ?_
  refine wp_seq ?_
  refine wp_region ?_
  refine opsP (N := 137) (T := TD) (M := (fun _ _ => none)) tabOkD (fun _ _ _ h => by cases h) [1, 2] [0] [(1, .v (.slice K lk.length kc)), (2, .v (.bool dg)), (3, .v (.slice A sl.length c)), (9, .v (.int .i64 (sz : Int))), (10, .v (.slice none 0 0)), (11, .v (.slice none 0 0)), (37, .v (.slice A sl.length c))] h16 (by kernel_rfl) ⟨by kernel_rfl, by kernel_rfl, by kernel_rfl, by kernel_rfl, by kernel_rfl, by kernel_rfl, by kernel_rfl, trivial⟩ (fun a17 h17 d17 => ?_)
  replace d17 := d17.trans d16
  clear h16 d16
  refine givenW_ops (N := 137) (i := 1) (d := 38) (s := .v (.int .i64 (sl.length : Int))) (l := [2]) rfl (want_ rfl) rfl (by decide) h17 (op_len rfl Tryd.underlying29 (h17.2 37 _ rfl)) (fun a18 h18 d18 => ?_)
  replace d18 := d18.trans d17
  clear h17 d17
  refine opsP (N := 137) (T := TD) (M := (fun _ _ => none)) tabOkD (fun _ _ _ h => by cases h) [] [2] [(1, .v (.slice K lk.length kc)), (2, .v (.bool dg)), (3, .v (.slice A sl.length c)), (9, .v (.int .i64 (sz : Int))), (10, .v (.slice none 0 0)), (11, .v (.slice none 0 0)), (37, .v (.slice A sl.length c)), (38, .v (.int .i64 (sl.length : Int))), (39, .v (.int .i64 ((0 : Nat) : Int)))] h18 (by kernel_rfl) ⟨by kernel_rfl, by kernel_rfl, by kernel_rfl, by kernel_rfl, by kernel_rfl, by kernel_rfl, by kernel_rfl, by kernel_rfl, by kernel_rfl, trivial⟩ (fun a19 h19 d19 => ?_)
  replace d19 := d19.trans d18
  clear h18 d18
  show Code.wp _ _ _ _ _
  refine wp_block ?_
  refine wp_loop (fun a wr => ∃ (q : Nat) (vt vw : Value), q ≤ sl.length ∧ Has 137 (bn []) [(1, .v (.slice K lk.length kc)), (2, .v (.bool dg)), (3, .v (.slice A sl.length c)), (9, .v (.int .i64 (sz : Int))), (10, .v vt), (11, .v vw), (37, .v (.slice A sl.length c)), (38, .v (.int .i64 (sl.length : Int))), (39, .v (.int .i64 (q : Int)))] a ∧ a.defers = [] ∧ LInv w wr vt vw (runF sz (lx lk) (fun i => (sl.getD i z33).f0) (fun i => (sl.getD i z33).f1) q).1 (runF sz (lx lk) (fun i => (sl.getD i z33).f0) (fun i => (sl.getD i z33).f1) q).2 ∧ (∀ i, i < q → okK sz (sl.getD i z33).f0) ∧ ∀ i, i < q → (sl.getD i z33).f1.length ≤ 8192) (fun a _ => sl.length - (intOf (a.eval (.tmp 39))).toNat) ⟨0, _, _, Nat.zero_le _, h19, d19, ⟨hb8, Kd.R_nil _ _ _ _ _, Kd.R_nil _ _ _ _ _, fun x hx => by cases hx⟩, fun i hi => absurd hi (by omega), fun i hi => absurd hi (by omega)⟩ ?_
  rintro a wr ⟨q, vt, vw, hq, hH, hd, hI, hkq, hdq⟩
  clear h19 d19
  have hrl := runF_len sz (lx lk) (fun i => (sl.getD i z33).f0) (fun i => (sl.getD i z33).f1) q
  by_cases hlt : q < sl.length
  · refine law_round a0 ha K kc lk dg A c sl w hK hkc ok_ hSl hsc os_ h32 sz hsz q hlt wr vt vw _ _ hI (by omega) a _ _ hH (fun a' W' e1 e2 e3 => ?_) (fun a' W' vt' vw' e1 e2 e3 e4 e5 => ?_)
    · exact ⟨e1.trans hd, _, results_tmp rfl _ _ _, congrArg Ending.returned e2, e3⟩
    · refine ⟨⟨q + 1, vt', vw', hlt, e3, e4.trans hd, e5, fun i hi => ?_, fun i hi => ?_⟩, ?_⟩
      · by_cases hiq : i < q
        · exact hkq i hiq
        · obtain rfl : i = q := by omega
          exact e1
      · by_cases hiq : i < q
        · exact hdq i hiq
        · obtain rfl : i = q := by omega
          exact e2
      · have q1 : a'.eval (.tmp 39) = .int .i64 ((q + 1 : Nat) : Int) := e3.2 39 _ rfl
        have q2 : a.eval (.tmp 39) = .int .i64 (q : Int) := hH.2 39 _ rfl
        rw [q1, q2]
        simp only [intOf]
        omega
  · obtain rfl : q = sl.length := by omega
    have M0 : Mw (bn []) [] wr := ⟨bg_bn _, trivial⟩
    refine wp_seq ?_
    refine regM_seq (N := 137) (T := TD) (n := 1) (E2 := [(1, .v (.slice K lk.length kc)), (2, .v (.bool dg)), (3, .v (.slice A sl.length c)), (9, .v (.int .i64 (sz : Int))), (11, .v vw), (40, .v (.bool (decide ((sl.length : Int) < (sl.length : Int)))))]) tabOkD hH M0 rfl (by kernel_rfl) ⟨by kernel_rfl, by kernel_rfl, by kernel_rfl, by kernel_rfl, by kernel_rfl, by kernel_rfl, trivial⟩ (fun a1 h1 d1 => ?_)
    show Code.wp _ _ _ _ _
    refine wp_seq ?_
    refine wp_cond_false ((h1.2 40 _ rfl).trans (congrArg Value.bool (decide_eq_false (by omega)))) (wp_exit ?_)
    refine then_exit (then_exit (exit_in ?_))
    show Code.wp _ _ _ _ _
    exact law_end a0 ha K kc lk dg A c sl w hK hkc ok_ hSl hsc os_ h32 hn sz hsz wr vt vw _ _ hI rfl (by omega) (fun i p hp => runF_rows sz hsz (lx lk) (fun i => (sl.getD i z33).f0) (fun i => (sl.getD i z33).f1) sl.length hdq p (List.mem_of_getElem? hp)) hkq hdq a1 (sub_ok (E := [(1, .v (.slice K lk.length kc)), (2, .v (.bool dg)), (3, .v (.slice A sl.length c)), (9, .v (.int .i64 (sz : Int))), (11, .v vw)]) h1 ⟨by kernel_rfl, by kernel_rfl, by kernel_rfl, by kernel_rfl, by kernel_rfl, trivial⟩) (d1.trans hd)
theorem law_walk (a0 : Int) (ha : 0 ≤ a0) (K : Option Addr) (kc : Nat) (lk : List Int) (dg : Bool) (A : Option Addr) (c : Nat) (sl : List S33) (w : World) (hK : Kd.C (Kd.int .u8) w K lk.length lk) (hkc : lk.length ≤ kc) (ok_ : octs lk) (hSl : Kd.C k33 w A sl.length sl) (hsc : sl.length ≤ c) (os_ : ∀ x ∈ sl, octs x.f1) :
    Calls Tryd.prog 4 #[.int .u8 a0, .slice K lk.length kc, .bool dg, .slice A sl.length c] w fun e w' => e = .returned (.bool true) ∧ Below w.heap.size w w' :=
  calls_of_wp (c := c4_0) Tryd.func4 rfl (law_body a0 ha K kc lk dg A c sl w hK hkc ok_ hSl hsc os_ _ (has_four (β := bn []) (.v _) (.v _) (.v _) (.v _) 133) rfl)
end Go.Proofs.YtnehminojlocoaaDoor.PAll
namespace Go.Proofs.YtnehminojlocoaaDoor.PAll
open Go.RowKit Go.Proofs.YtnehminojlocoaaDoorW.PrintWords Go.Proofs.YtnehminojlocoaaDoorW.PrintLast Go.Proofs.YtnehminojlocoaaDoorW.PrintMore
set_option linter.unusedVariables false
theorem FnHighwayRun_walk (a0 : Int) (a1 : Option Addr) (len1 cap1 : Nat) (z1 : List Int) (a2 : Bool) (a3 : Option Addr) (len3 cap3 : Nat) (z3 : List S33) (w : World) (b0 : 0 ≤ a0 ∧ a0 ≤ 255) (w1 : (a1 = none ∧ len1 = 0 ∧ cap1 = 0 ∧ z1 = []) ∨ ∃ x, a1 = some x ∧ len1 ≤ cap1 ∧ cap1 ≤ maxLen ∧ z1.length = cap1 ∧ (∀ i, i < z1.length → w.cell? (x.add i) = some (.int .u8 (z1.getD i 0))) ∧ ∀ n ∈ z1, (Lit.int .u8 n).wf = true) (y1 : len1 * 1 ≤ 140737488351232) (w3 : StepsIn w a3 len3 cap3 z3) :
    Calls Tryd.prog 4 #[.int .u8 a0, .slice a1 len1 cap1, .bool a2, .slice a3 len3 cap3] w fun e w' => e = .returned (.bool true) ∧ Below w.heap.size w w' := by
  obtain ⟨l, rfl, hc, hC, ho⟩ := row_in w1
  obtain ⟨rfl, h2, hP, hos⟩ := w3
  exact law_walk a0 b0.1 a1 cap1 l a2 a3 cap3 z3 w hC hc ho hP h2 hos
end Go.Proofs.YtnehminojlocoaaDoor.PAll
