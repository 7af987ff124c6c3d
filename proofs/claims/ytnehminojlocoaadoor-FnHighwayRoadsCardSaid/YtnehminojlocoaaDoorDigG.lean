/- DigG: HdRunE, HdRun, HdRunW, HdLawE, HdOpen, HdRoads, HdRoadsR. -/
import Derived.Test.YtnehminojlocoaaDoorDigF
import Derived.Great.BuildSlice
import Derived.Deep.Matrix
import Derived.WalkKit
namespace Go.Proofs.YtnehminojlocoaaDoor.PAll
open Go.RowKit Go.Proofs.YtnehminojlocoaaDoorW.PrintWords Go.Proofs.YtnehminojlocoaaDoorW.PrintLast Go.Proofs.YtnehminojlocoaaDoorW.PrintMore
set_option linter.unusedVariables false
set_option linter.unusedSimpArgs false
section
variable {P : Program} {ops : Array Oper} {Q : Exit → Act → World → Prop} {S : World → Prop} {ds : List Nat} {N : Nat} {β : Nat → Nat} {M : Nat → Nat → Option Value} {T : TypeId → Option Ty}
/-- Pure operations in the order of the text; E2 is told on. -/
theorem opsP (hT : TabOk P T) {w : World} (hM : MemOk β M w) (l2 l : List Nat) (E2 : List (Nat × SV)) {E : List (Nat × SV)} {a : Act} (hA : Has N β E a) (hs : (evs N T M ops l E).isSome = true) (hsub : Sub (evs N T M ops l E) E2)
    (h : ∀ a', Has N β E2 a' → a'.defers = a.defers → wpOps P ops Q l2 a' w) : wpOps P ops Q (l ++ l2) a w := by
  obtain ⟨E', he⟩ := Option.isSome_iff_exists.1 hs
  rw [he] at hsub
  exact ops_ hT hM l2 l he hA (fun a' h1 h2 => h a' (sub_ok h1 hsub) h2)
/-- A store, shown by hand, that keeps S. -/
theorem stepS {j fuel : Nat} {o : Oper} {L : Array Bool} {a : Act} {w w1 : World} (ho : ops[j]? = some o) (hg : o.guard = none) (hd : o.dst = none)
    (hB : (readyB .any ops L (L.setIfInBounds j true) j && !(ds.contains j)) = true) (hrun : (execOp a.eval o).run P w = .ok .skip w1) (hS : S w1)
    (h : wpAnyLast P .any ops Q S ds fuel (L.setIfInBounds j true) a w1) : wpAnyLast P .any ops Q S ds (fuel + 1) L a w := by
  simp only [Bool.and_eq_true, Bool.not_eq_true', List.contains_eq_mem, decide_eq_false_iff_not] at hB
  obtain ⟨hB2, hB6⟩ := hB
  refine one_ (i := j) (N := none) _ ho hd hB2 hB6 (fun K hK => ?_)
  exact skip_ (want_ hg) hd hrun (hK.out _ _ hS (fun _ => h))
/-- An append that keeps S. -/
theorem stepA {α : Type} {j dst fuel : Nat} {o : Oper} {L : Array Bool} {E : List (Nat × SV)} {a : Act} (d : Kd α) {Rr : α → List Value → Prop} {w0 W : World} (base : Nat) (hA : Has N β E a) (hoi : ops[j]? = some o) (hg : o.guard = none) (hd : o.dst = some dst) (hN : dst < N)
    (hB : (readyB .any ops L (L.setIfInBounds j true) j && !(ds.contains j)) = true) (s x : Operand) (t e : TypeId) (z : Value) (bytes : Nat)
    (ho : o.op = .call { callee := .builtin .append, args := #[s, x], argTypes := #[t, t] })
    (ht : P.underlying t = some (.slice e)) (hinfo : (P.info? e).map (fun i => (i.zero, i.size, i.bytes)) = some (some z, d.sz, bytes)) (hz : z.cells.size = d.sz) (hs0 : 0 < d.sz) (hb0 : 0 < bytes)
    (v : Value) (xs ys : List α) (A : Option Addr) (m c : Nat) (ok okp : Nat → Prop) (hs : a.eval s = v) (hx : a.eval x = .slice A m c)
    (HO : d.R e W base ok v xs) (HR : ReadsRow Rr d.sz W A m ys) (hKM : ∀ x cs, Rr x cs → d.M W base okp x cs) (hokp : ∀ k, okp k → ok k ∧ some k ≠ v.ownBlock) (hfresh : ∀ k, W.heap.size ≤ k → ok k)
    (HB : Below base w0 W) (hbase : base ≤ W.heap.size) (hl : (xs.length + m) * bytes ≤ 140737488355328)
    (hS : ∀ w1, Below base w0 w1 → W.grownBy w1 v.ownBlock → S w1)
    (h : ∀ v1 w1 a', d.R e w1 base ok v1 (xs ++ ys) → Below base w0 w1 → W.grownBy w1 v.ownBlock → Has N β ((dst, .v v1) :: E) a' → a'.defers = a.defers → wpAnyLast P .any ops Q S ds fuel (L.setIfInBounds j true) a' w1) : wpAnyLast P .any ops Q S ds (fuel + 1) L a W := by
  simp only [Bool.and_eq_true, Bool.not_eq_true', List.contains_eq_mem, decide_eq_false_iff_not] at hB
  obtain ⟨hB2, hB6⟩ := hB
  refine one_ (i := j) (N := some dst) _ hoi hd hB2 hB6 (fun K hK => ?_)
  have key := Kd.R_append_rows_step (Kc := K) (Q := Q) (ops := ops) d base (want_ hg) s x t e z bytes ho ht hinfo hz hs0 hb0 v xs ys A m c ok okp hs hx HO HR hKM hokp hfresh HB hbase hl (fun v1 w1 h1 h2 h3 _ => by
    rw [hd]
    exact hK.out _ _ (hS _ h2 h3) (fun _ => h v1 w1 _ h1 h2 h3 (hA.put dst hN (.v v1)) (put_defs _ _ _)))
  rw [hd] at key
  exact key
/-- A guard that is met. -/
theorem want_g {o : Oper} {a : Act} {E : List (Nat × SV)} {j d : Nat} {b : Bool} (hA : Has N β E a) (hg : o.guard = some (j, b)) (hj : (ops[j]?).bind (·.dst) = some d) (hd : look E d = some (.v (.bool b))) : Region.wanted o (yielded ops a.tmps) = true := by
  have h1 : a.eval (.tmp d) = .bool b := hA.2 d _ hd
  have h2 : a.tmps[d]? = some (.bool b) := by
    simp only [Act.eval] at h1
    rw [Array.getD_eq_getD_getElem?] at h1
    cases h3 : a.tmps[d]? with
    | none =>
      rw [h3] at h1
      cases h1
    | some v =>
      rw [h3] at h1
      exact congrArg some h1
  unfold Region.wanted yielded
  simp [hg, hj, h2]
theorem givenW_ops {i d : Nat} {o : Oper} {s : SV} {l : List Nat} {a : Act} {w : World} {E : List (Nat × SV)} (ho : ops[i]? = some o) (hw : Region.wanted o (yielded ops a.tmps) = true) (hd : o.dst = some d) (hN : d < N) (hA : Has N β E a) (hrun : (execOp a.eval o).run P w = .ok (.value (s.den β)) w)
    (h : ∀ a', Has N β ((d, s) :: E) a' → a'.defers = a.defers → wpOps P ops Q l a' w) : wpOps P ops Q (i :: l) a w := by
  unfold wpOps
  simp only [ho]
  rw [if_pos hw]
  refine Or.inl ?_
  unfold Oper.wp
  rw [hrun, Oper.upon_value, hd]
  exact h _ (hA.put d hN s) rfl
/-- A pure operation whose guard is met. -/
theorem guard_ops (hT : TabOk P T) {i d j dj : Nat} {b : Bool} {o : Oper} {s : SV} {l : List Nat} {a : Act} {w : World} {E : List (Nat × SV)} (hM : MemOk β M w) (ho : ops[i]? = some o) (hg : o.guard = some (j, b)) (hj : (ops[j]?).bind (·.dst) = some dj) (hb : look E dj = some (.v (.bool b))) (hd : o.dst = some d) (hN : d < N) (hA : Has N β E a) (hs : ev T M E o = some s)
    (h : ∀ a', Has N β ((d, s) :: E) a' → a'.defers = a.defers → wpOps P ops Q l a' w) : wpOps P ops Q (i :: l) a w :=
  givenW_ops ho (want_g hA hg hj hb) hd hN hA (ev_ok hT hA hM hs) h
section
variable {ρ : Operand → Value} {o : Oper} {W : World}
theorem op_not {t : TypeId} {x : Operand} {b : Bool} (ho : o.op = .unOp .not t x) (hx : ρ x = .bool b) : (execOp ρ o).run P W = .ok (.value (.bool !b)) W := by
  unfold execOp
  rw [ho]
  simp [go_sem, Op.unary, hx]
theorem op_pickT {c x y : Operand} {v : Value} (ho : o.op = .pick c x y) (hc : ρ c = .bool true) (hx : ρ x = v) : (execOp ρ o).run P W = .ok (.value v) W := by
  unfold execOp
  rw [ho]
  simp [go_sem, hc, hx]
theorem op_pickF {c x y : Operand} {v : Value} (ho : o.op = .pick c x y) (hc : ρ c = .bool false) (hy : ρ y = v) : (execOp ρ o).run P W = .ok (.value v) W := by
  unfold execOp
  rw [ho]
  simp [go_sem, hc, hy]
theorem op_makeFunc {fn : Fn} {f c : Array Operand} (ho : o.op = .makeFunc fn f c) : (execOp ρ o).run P W = .ok (.value (.func fn (f.map ρ) (c.map ρ))) W := by
  unfold execOp
  rw [ho]
  rfl
theorem op_makeFunc1 {fn : Fn} {x : Operand} {v : Value} (ho : o.op = .makeFunc fn #[x] #[]) (hx : ρ x = v) : (execOp ρ o).run P W = .ok (.value (.func fn #[v] #[])) W := by
  have h := op_makeFunc (P := P) (ρ := ρ) (W := W) ho
  simp only [List.map_toArray, List.map_cons, List.map_nil, hx] at h
  exact h
theorem op_nilFunc {x : Operand} {nm : String} {t : TypeId} {u : Value} {cap : Array Value} (ho : o.op = .nilCheck x) (hx : ρ x = .func (.method nm) #[.iface t u] cap) (hn : ∀ w, (nilAhead (P.types.size + Made.depth) t u nm).run P w = .ok (some false) w) : (execOp ρ o).run P W = .ok (.value (.func (.method nm) #[.iface t u] cap)) W := by
  unfold execOp
  rw [ho]
  simp only [hx]
  have hp : (program : Sem Program).run P W = .ok P W := rfl
  have h0 : (#[Value.iface t u])[0]? = some (.iface t u) := rfl
  simp only [h0, Sem.run_bind]
  rw [hp]
  simp only [Result.andThen_ok]
  rw [hn W]
  simp [go_sem]
theorem op_indexS {t e : TypeId} {x ix : Operand} {b i n c j k : Nat} (ho : o.op = .indexAddr t x ix) (hx : ρ x = .slice (some ⟨b, i, none⟩) n c) (hi : ρ ix = .int .i64 (j : Int)) (ht : P.underlying t = some (.slice e)) (hs : ∀ w, (Go.sizeOf e).run P w = .ok k w) (hj : j < n) :
    (execOp ρ o).run P W = .ok (.value (.pointer (some (Addr.add ⟨b, i, none⟩ (j * k))))) W := by
  unfold execOp
  rw [ho]
  simp [go_sem, Instr.indexAt, hx, hi, und ht, hs, hj]
theorem op_eqNil {t t2 : TypeId} {x : Operand} (ho : o.op = .binOp .eql t x (.const .nilIface) t2) (hx : ρ x = .nilIface) (hc : ρ (.const .nilIface) = .nilIface) (he : ∀ w, (Op.equal t .nilIface .nilIface).run P w = .ok true w) : (execOp ρ o).run P W = .ok (.value (.bool true)) W := by
  unfold execOp
  rw [ho]
  simp [go_sem, eqGuard, hx, hc, binOp, he]
theorem op_assert {x : Operand} {t i dt : TypeId} {u : Value} (ho : o.op = .typeAssert x t i true) (hx : ρ x = .iface dt u) (h : ∀ w, (Instr.typeAssert (.iface dt u) t i true).run P w = .ok (.tuple #[.iface dt u, .bool true]) w) : (execOp ρ o).run P W = .ok (.value (.tuple #[.iface dt u, .bool true])) W := by
  unfold execOp
  rw [ho]
  simp [go_sem, hx, h W]
end
end
theorem addr_add (b i k : Nat) : (Addr.add ⟨b, i, none⟩ k) = ⟨b, i + k, none⟩ := by
  unfold Addr.add
  by_cases h : k = 0
  · simp [h]
  · simp [h]
theorem op_indexT {P : Program} {ρ : Operand → Value} {o : Oper} {W : World} {t e : TypeId} {x ix : Operand} {b i n c j k : Nat} (ho : o.op = .indexAddr t x ix) (hx : ρ x = .slice (some ⟨b, i, none⟩) n c) (hi : ρ ix = .int .i64 (j : Int)) (ht : P.underlying t = some (.slice e)) (hs : ∀ w, (Go.sizeOf e).run P w = .ok k w) (hj : j < n) :
    (execOp ρ o).run P W = .ok (.value (.pointer (some ⟨b, i + j * k, none⟩))) W := by
  have key := op_indexS (W := W) ho hx hi ht hs hj
  rw [addr_add] at key
  exact key
/-- A row of octets of the call's own, with where it lies. -/
theorem R_bts2 {W : World} {base : Nat} {ok : Nat → Prop} {v : Value} {l : List Int} (h : Kd.R (Kd.int .u8) 5 W base ok v l) : ∃ A c b, v = .slice A l.length c ∧ l.length ≤ c ∧ (0 < l.length → A = some ⟨b, 0, none⟩ ∧ base ≤ b) ∧ Bts b 0 l.length (lx l) W := by
  have ho := Kd.own_of_R (enc := Value.int .u8) (h1 := fun _ => rfl) h
  rcases ho.2 with ⟨rfl, h0⟩ | ⟨g, cap, cur, rfl, hg, hh, hle, hmx, hsz, htk⟩
  · exact ⟨none, 0, 0, by rw [h0], by omega, fun h => by omega, fun i hi => by omega⟩
  · refine ⟨_, cap, g, rfl, hle, fun _ => ⟨rfl, hg⟩, fun i hi => ?_⟩
    rw [Nat.zero_add, blk_cell hh, ← Array.getElem?_toList]
    have e : cur.toList[i]? = (cur.toList.take (l.length * 1))[i]? := by rw [List.getElem?_take_of_lt (by omega)]
    rw [e, htk]
    unfold lx
    rw [List.getD_eq_getElem?_getD, List.getElem?_eq_getElem hi]
    simp [encs, hi]
theorem op_storeAgg {P : Program} {ρ : Operand → Value} {o : Oper} {W W1 : World} {t : TypeId} {x y : Operand} {b : Nat} {cs : Array Value} (hop : o.op = .store t x y) (hx : ρ x = .pointer (some ⟨b, 0, none⟩)) (hy : ρ y = .agg cs) (hst : (storeVar t ⟨b, 0, none⟩ (.agg cs)).run P W = .ok () W1) : (execOp ρ o).run P W = .ok .skip W1 := by
  unfold execOp
  rw [hop]
  simp only [hx, hy, Instr.storeAt, Instr.sureAddr, Sem.run_bind, Sem.run_pure, Result.andThen_ok, hst]
theorem op_buildSlice1 {P : Program} {ρ : Operand → Value} {o : Oper} {W W1 : World} {t : TypeId} {x : Operand} {v r : Value} (ho : o.op = .buildSlice t 1 #[(0, x)]) (hx : ρ x = v) (h : (Instr.buildSlice t 1 #[(0, v)]).run P W = .ok r W1) : (execOp ρ o).run P W = .ok (.value r) W1 := by
  unfold execOp
  rw [ho]
  simp only [List.map_toArray, List.map_cons, List.map_nil, hx, Sem.run_bind, h, Result.andThen_ok]
  rfl
theorem build_row (W : World) (A : Option Addr) (n c : Nat) : (Instr.buildSlice 23 1 #[(0, .slice A n c)]).run Tryd.prog W = .ok (.slice (some ⟨W.heap.size, 0, none⟩) 1 1) (W.alloc (.cells #[.slice A n c] 22)) := by
  cases hq : Tryd.prog.info? 22 with
  | none => exact absurd (show (Tryd.prog.info? 22).isSome = true by kernel_rfl) (by simp [hq])
  | some ie =>
    have h1 : (Tryd.prog.info? 22).map (fun i => (i.zero, i.size)) = some (some (.slice none 0 0), 1) := by kernel_rfl
    rw [hq] at h1
    simp only [Option.map_some, Option.some.injEq, Prod.mk.injEq] at h1
    obtain ⟨hz, hs⟩ := h1
    refine run_buildSlice W _ _ 1 _ _ ie _ Tryd.underlying23 hq hz (by rw [hs]; decide) (by rw [hs]; decide) ?_
    rw [hs]
    kernel_rfl
/-- A row that was just made, as the one element of a row. -/
theorem one_row {W0 W : World} {B : Nat} {v : Value} {xs : List Int} {A : Option Addr} {n c : Nat} (h : Kd.R (Kd.int .u8) 5 W W0.heap.size (fun _ => True) (.slice A n c) xs) (hB : B ≤ W0.heap.size) (hv : ∀ k, v.ownBlock = some k → k < W0.heap.size) :
    ReadsRow ((Kd.slice 5 (Kd.int .u8)).M (W.alloc (.cells #[.slice A n c] 22)) B (fun k => W0.heap.size ≤ k)) 1 (W.alloc (.cells #[.slice A n c] 22)) (some ⟨W.heap.size, 0, none⟩) 1 [xs] ∧ ∀ k, W0.heap.size ≤ k → True ∧ some k ≠ v.ownBlock := by
  refine ⟨⟨rfl, by decide, fun _ => ⟨_, rfl, fun j p hp => ?_⟩⟩, fun k hk => ⟨trivial, fun e => ?_⟩⟩
  · cases j with
    | succ j => simp at hp
    | zero =>
      obtain rfl : xs = p := by simpa using hp
      refine ⟨[.slice A n c], rfl, ⟨_, rfl, ?_⟩, fun i u hu => ?_⟩
      · exact Kd.R_below (Kd.R_lower (Kd.R_mono (Kd.R_bound h) (fun k hk => hk.2.1)) hB) ((Below.refl _ _).alloc (Nat.le_refl _) _)
      · cases i with
        | succ i => simp at hu
        | zero =>
          obtain rfl : Value.slice A n c = u := by simpa using hu
          show (W.alloc _).cell? (Addr.add ⟨W.heap.size, 0, none⟩ (0 * 1 + 0)) = _
          rw [addr_add, blk_cell (MapKept.heap_alloc W _).1]
          rfl
  · have := hv k e.symm
    omega
theorem Bl.In.below {b : Bl} {B : Nat} {W W' : World} (h : b.In W) (hb : Below B W W') (hlt : b.g < B) : b.In W' := by
  obtain ⟨cs, h1, h2⟩ := h
  exact ⟨cs, (hb.block _ hlt).trans h1, h2⟩
/-- Rows of octets, of the call's own. -/
abbrev KRows : Kd (List Int) := Kd.slice 5 (Kd.int .u8)
def Rows (W : World) (B : Nat) (v : Value) (R : List (List Int)) : Prop := Kd.R KRows 22 W B (fun _ => True) v R
theorem Rows.fr {S : List Nat} {W W' : World} {B : Nat} {v : Value} {R : List (List Int)} (h : Rows W B v R) (hF : Fr S W W') (hS : ∀ k, k ∈ S → k < B) : Rows W' B v R :=
  Kd.R_mono (Kd.R_step (Kd.R_bound h) (fun k hk hlt => hF.2.2.2.2 k hlt (fun hm => Nat.not_lt.2 hk.2.1 (hS k hm)))) (fun _ _ => trivial)
theorem Rows.onB {W W' : World} {B : Nat} {v : Value} {R : List (List Int)} (h : Rows W B v R) (hb : Below W.heap.size W W') : Rows W' B v R := Kd.R_below h hb
end Go.Proofs.YtnehminojlocoaaDoor.PAll
namespace Go.Proofs.YtnehminojlocoaaDoor.PAll
open Go.RowKit Go.Proofs.YtnehminojlocoaaDoorW.PrintWords Go.Proofs.YtnehminojlocoaaDoorW.PrintLast Go.Proofs.YtnehminojlocoaaDoorW.PrintMore
set_option linter.unusedVariables false
set_option linter.unusedSimpArgs false
def TD (t : TypeId) : Option Ty :=
  match t with
  | 33 => some (.st [0, 1, 2])
  | 24 => some (.arr 2)
  | t => TT t
set_option maxHeartbeats 4000000 in
theorem tabOkD : TabOk Tryd.prog TD := by
  intro t y h
  unfold TD at h
  split at h
  · obtain rfl := Option.some.inj h
    refine ⟨_, Tryd.underlying33, fun f o h => ?_⟩
    match f, h with
    | 0, h =>
      obtain rfl := Option.some.inj h
      exact ⟨_, rfl, rfl, 0, fun w => Tryd.sizeOf5 w⟩
    | 1, h =>
      obtain rfl := Option.some.inj h
      exact ⟨_, rfl, rfl, 0, fun w => Tryd.sizeOf22 w⟩
    | 2, h =>
      obtain rfl := Option.some.inj h
      exact ⟨_, rfl, rfl, 0, fun w => Tryd.sizeOf31 w⟩
  · obtain rfl := Option.some.inj h
    exact ⟨_, Tryd.underlying24, Tryd.sizeOf3, Tryd.isAgg24, Tryd.sizeOf24, Tryd.isAgg3⟩
  · exact tabOk _ _ h
/-- A step's cells. -/
def stp (k : Int) (A : Option Addr) (n c : Nat) (sd : Int) : Nat → Value := fun i => if i = 0 then .int .u8 k else if i = 1 then .slice A n c else .int .u64 sd
/-- What is known while HighwayRun runs: the digest in block g holds L, block t holds what is told at the end, v holds the sums R. -/
structure HInv (w : World) (B g t sz : Nat) (y : Nat → Int) (W : World) (v : Value) (L : List Int) (R : List (List Int)) : Prop where
  dig : ∃ s z q, (Dig g (hT sz) s y z q sz).In W ∧ HoldL y L s z q
  told : (⟨t, 24, 2, fun _ => .int .i64 0⟩ : Bl).In W
  rows : Rows W B v R
  below : Below w.heap.size w W
  gB : g < B
  tB : t < B
  wg : w.heap.size ≤ g
  wt : w.heap.size ≤ t
  gt : g ≠ t
  BW : B ≤ W.heap.size
theorem HInv.keep {w : World} {B g t sz : Nat} {y : Nat → Int} {W W' : World} {v : Value} {L : List Int} {R : List (List Int)} (h : HInv w B g t sz y W v L R) (hb : Below W.heap.size W W') : HInv w B g t sz y W' v L R := by
  obtain ⟨s, z, q, h1, h2⟩ := h.dig
  have hF : Fr [] W W' := Fr.ofBelow [] hb
  exact ⟨⟨s, z, q, h1.on hF (by simp), h2⟩, h.told.on hF (by simp), h.rows.onB hb, h.below.trans (hb.mono h.below.size), h.gB, h.tB, h.wg, h.wt, h.gt, Nat.le_trans h.BW hF.size⟩
/-- The digest is written to. -/
theorem HInv.put {w : World} {B g t sz : Nat} {y : Nat → Int} {W W' : World} {v : Value} {L L' : List Int} {R : List (List Int)} (h : HInv w B g t sz y W v L R) (hF : Fr [g] W W') {s z : Nat → Int} {q : Nat} (hd : (Dig g (hT sz) s y z q sz).In W') (hh : HoldL y L' s z q) : HInv w B g t sz y W' v L' R :=
  ⟨⟨s, z, q, hd, hh⟩, h.told.on hF (by simp; exact Ne.symm h.gt), h.rows.fr hF (fun k hk => by simp at hk; subst hk; exact h.gB), h.below.trans (hF.below _ h.below.size (by simp; exact h.wg)), h.gB, h.tB, h.wg, h.wt, h.gt, Nat.le_trans h.BW hF.size⟩
theorem meth_Write (sz : Nat) (hsz : sz = 8 ∨ sz = 16 ∨ sz = 32) (g : Nat) (w : World) : (method (Tryd.prog.types.size + Made.depth) (hU sz) (.pointer (some ⟨g, 0, none⟩)) "Write").run Tryd.prog w = .ok (73, .pointer (some ⟨g, 0, none⟩)) w := by
  rcases hsz with rfl | rfl | rfl <;> kernel_rfl
theorem ahead_Write (sz : Nat) (hsz : sz = 8 ∨ sz = 16 ∨ sz = 32) (g : Nat) (w : World) : (nilAhead (Tryd.prog.types.size + Made.depth) (hU sz) (.pointer (some ⟨g, 0, none⟩)) "Write").run Tryd.prog w = .ok (some false) w := by
  rcases hsz with rfl | rfl | rfl <;> kernel_rfl
theorem meth_Sum (sz : Nat) (hsz : sz = 8 ∨ sz = 16 ∨ sz = 32) (g : Nat) (w : World) : (method (Tryd.prog.types.size + Made.depth) (hU sz) (.pointer (some ⟨g, 0, none⟩)) "Sum").run Tryd.prog w = .ok (71, .pointer (some ⟨g, 0, none⟩)) w := by
  rcases hsz with rfl | rfl | rfl <;> kernel_rfl
theorem ahead_Sum (sz : Nat) (hsz : sz = 8 ∨ sz = 16 ∨ sz = 32) (g : Nat) (w : World) : (nilAhead (Tryd.prog.types.size + Made.depth) (hU sz) (.pointer (some ⟨g, 0, none⟩)) "Sum").run Tryd.prog w = .ok (some false) w := by
  rcases hsz with rfl | rfl | rfl <;> kernel_rfl
theorem meth_Reset (sz : Nat) (hsz : sz = 8 ∨ sz = 16 ∨ sz = 32) (g : Nat) (w : World) : (method (Tryd.prog.types.size + Made.depth) (hU sz) (.pointer (some ⟨g, 0, none⟩)) "Reset").run Tryd.prog w = .ok (44, .pointer (some ⟨g, 0, none⟩)) w := by
  rcases hsz with rfl | rfl | rfl <;> kernel_rfl
theorem meth_Size (sz : Nat) (hsz : sz = 8 ∨ sz = 16 ∨ sz = 32) (g : Nat) (w : World) : (method (Tryd.prog.types.size + Made.depth) (hU sz) (.pointer (some ⟨g, 0, none⟩)) "Size").run Tryd.prog w = .ok (70, .pointer (some ⟨g, 0, none⟩)) w := by
  rcases hsz with rfl | rfl | rfl <;> kernel_rfl
theorem meth_BlockSize (sz : Nat) (hsz : sz = 8 ∨ sz = 16 ∨ sz = 32) (g : Nat) (w : World) : (method (Tryd.prog.types.size + Made.depth) (hU sz) (.pointer (some ⟨g, 0, none⟩)) "BlockSize").run Tryd.prog w = .ok (69, .pointer (some ⟨g, 0, none⟩)) w := by
  rcases hsz with rfl | rfl | rfl <;> kernel_rfl
theorem meth_Sum64 (g : Nat) (w : World) : (method (Tryd.prog.types.size + Made.depth) (hU 8) (.pointer (some ⟨g, 0, none⟩)) "Sum64").run Tryd.prog w = .ok (72, .pointer (some ⟨g, 0, none⟩)) w := by kernel_rfl
theorem assert_64 (g : Nat) (w : World) : (Instr.typeAssert (.iface (hU 8) (.pointer (some ⟨g, 0, none⟩))) 44 52 true).run Tryd.prog w = .ok (.tuple #[.iface (hU 8) (.pointer (some ⟨g, 0, none⟩)), .bool true]) w := by kernel_rfl
theorem eq_err (w : World) : (Op.equal 48 .nilIface .nilIface).run Tryd.prog w = .ok true w := by kernel_rfl
noncomputable def c7_loop : Code := match Tryd.f7.body with
  | some (.seq _ (.seq _ (.seq _ (.seq _ (.seq (.seq _ (.block _ (.loop c))) _))))) => c
  | _ => .skip
noncomputable def c7_end : Code := match Tryd.f7.body with
  | some (.seq _ (.seq _ (.seq _ (.seq _ (.seq _ c))))) => c
  | _ => .skip
noncomputable def c7_b2 : Code := match c7_loop with
  | .seq _ (.seq _ (.seq (.block _ (.seq _ (.seq _ (.block _ c)))) _)) => c
  | _ => .skip
noncomputable def cThen : Code → Code
  | .seq _ (.cond _ c _) => c
  | _ => .skip
noncomputable def cElse : Code → Code
  | .seq _ (.cond _ _ c) => c
  | _ => .skip
set_option maxHeartbeats 8000000 in
set_option maxRecDepth 100000 in
theorem run_k0 (w W : World) (B g t sz e n c q : Nat) (A : Option Addr) (k sd : Int) (A1 : Option Addr) (c1 : Nat) (l : List Int) (y : Nat → Int) (v : Value) (L : List Int) (R : List (List Int)) (a : Act) (Q : Exit → Act → World → Prop) (hsz : sz = 8 ∨ sz = 16 ∨ sz = 32)
    (hI : HInv w B g t sz y W v L R) (he : (⟨e, 33, 3, stp k A1 l.length c1 sd⟩ : Bl).In W) (heB : B ≤ e)
    (hC : Kd.C (Kd.int .u8) W A1 l.length l) (hc1 : l.length ≤ c1) (hl : l.length < 1048576)
    (h0 : Has 104 (bn [e]) [(8, .v v), (9, .v (.bool true)), (10, .v (.pointer (some ⟨t, 0, none⟩))), (11, .v (.bool true)), (12, .v (.iface (hU sz) (.pointer (some ⟨g, 0, none⟩)))), (14, .p 0 0), (29, .v (.slice A n c)), (30, .v (.int .i64 (n : Int))), (31, .v (.int .i64 (q : Int))), (36, .v (.int .u8 k))] a) (hQ : ∀ c (a a' : Act) w, a'.defers = a.defers → Q (.panic c) a w → Q (.panic c) a' w)
    (hK : ∀ a' W' v', Has 104 (bn []) [(8, .v v'), (9, .v (.bool true)), (10, .v (.pointer (some ⟨t, 0, none⟩))), (11, .v (.bool true)), (12, .v (.iface (hU sz) (.pointer (some ⟨g, 0, none⟩)))), (29, .v (.slice A n c)), (30, .v (.int .i64 (n : Int))), (31, .v (.int .i64 (q : Int)))] a' → a'.defers = a.defers → HInv w B g t sz y W' v' (L ++ l) (R) → W.heap.size ≤ W'.heap.size → Q .normal a' W') : Code.wp Tryd.prog (cThen c7_b2) Q a W := by
  have hM0 : Mw (bn [e]) [⟨e, 33, 3, stp k A1 l.length c1 sd⟩] W := ⟨bg_bn _, he, by simp, trivial⟩
  have hge : g ≠ e := by have := hI.gB; omega
  refine wp_seq ?_
  let SS : World → Prop := fun V => V.cell? ⟨e, 1, none⟩ = some (.slice A1 l.length c1)
  have hSM : ∀ W, SS W → MemOk (bn [e]) (fun _ _ => none) W := fun _ _ _ _ _ h => by cases h
  have hS0 : SS W := he.cell 1 (show 1 < 3 by decide)
  refine start_ (S := SS) (ds := []) (n := 13) _ (by kernel_rfl) rfl rfl (show SS W.drew from hS0) (fun hS0 => ?_)
  refine segP (S := SS) (T := TD) (M := fun _ _ => none) (N := 104) tabOkD hSM (by exact fun c a a1 w hd h => hQ c a a1 w hd h) hS0 [0, 1] 11 [(8, .v v), (9, .v (.bool true)), (10, .v (.pointer (some ⟨t, 0, none⟩))), (11, .v (.bool true)), (12, .v (.iface (hU sz) (.pointer (some ⟨g, 0, none⟩)))), (14, .p 0 0), (29, .v (.slice A n c)), (30, .v (.int .i64 (n : Int))), (31, .v (.int .i64 (q : Int))), (36, .v (.int .u8 k)), (40, .v (.iface (hU sz) (.pointer (some ⟨g, 0, none⟩)))), (41, .p 0 1)] h0 (by kernel_rfl) (by kernel_rfl) ⟨by kernel_rfl, by kernel_rfl, by kernel_rfl, by kernel_rfl, by kernel_rfl, by kernel_rfl, by kernel_rfl, by kernel_rfl, by kernel_rfl, by kernel_rfl, by kernel_rfl, by kernel_rfl, trivial⟩ (fun a1 h1 d1 => ?_)
  refine segV (S := SS) (N := 104) (i := 2) (d := 42) (s := .v (.slice A1 l.length c1)) (by exact fun c a a1 w hd h => hQ c a a1 w hd h) hS0 h1 rfl rfl rfl (by decide) (by kernel_rfl) (fun W' hW => op_load rfl (h1.2 41 _ rfl) Tryd.isAgg22 hW) (fun a2 h2 d2 => ?_)
  refine segV (S := SS) (N := 104) (i := 4) (d := 44) (s := .v (.func (.method "Write") #[.iface (hU sz) (.pointer (some ⟨g, 0, none⟩))] #[])) (by exact fun c a a1 w hd h => hQ c a a1 w hd h) hS0 h2 rfl rfl rfl (by decide) (by kernel_rfl) (fun W' hW => op_makeFunc1 rfl (h2.2 40 _ rfl)) (fun a3 h3 d3 => ?_)
  refine segV (S := SS) (N := 104) (i := 5) (d := 45) (s := .v (.func (.method "Write") #[.iface (hU sz) (.pointer (some ⟨g, 0, none⟩))] #[])) (by exact fun c a a1 w hd h => hQ c a a1 w hd h) hS0 h3 rfl rfl rfl (by decide) (by kernel_rfl) (fun W' hW => op_nilFunc rfl (h3.2 44 _ rfl) (ahead_Write sz hsz g)) (fun a4 h4 d4 => ?_)
  refine segP (S := SS) (T := TD) (M := fun _ _ => none) (N := 104) tabOkD hSM (by exact fun c a a1 w hd h => hQ c a a1 w hd h) hS0 [6] 7 [(8, .v v), (9, .v (.bool true)), (10, .v (.pointer (some ⟨t, 0, none⟩))), (11, .v (.bool true)), (12, .v (.iface (hU sz) (.pointer (some ⟨g, 0, none⟩)))), (14, .p 0 0), (29, .v (.slice A n c)), (30, .v (.int .i64 (n : Int))), (31, .v (.int .i64 (q : Int))), (36, .v (.int .u8 k)), (42, .v (.slice A1 l.length c1)), (46, .v (.iface (hU sz) (.pointer (some ⟨g, 0, none⟩))))] h4 (by kernel_rfl) (by kernel_rfl) ⟨by kernel_rfl, by kernel_rfl, by kernel_rfl, by kernel_rfl, by kernel_rfl, by kernel_rfl, by kernel_rfl, by kernel_rfl, by kernel_rfl, by kernel_rfl, by kernel_rfl, by kernel_rfl, trivial⟩ (fun a5 h5 d5 => ?_)
  refine stepR (S := SS) (N := 104) (j := 3) (d := 43) (f := 16) (args := [.v (.slice A1 l.length c1)]) h5 (by kernel_rfl) (by kernel_rfl) Tryd.func16 rfl rfl (fun v1 W1 => Kd.R (Kd.int .u8) 5 W1 W.heap.size (fun _ => True) v1 l ∧ Below W.heap.size W W1) (fun v1 W1 hh => (hh.2.cell (World.block_lt_of_cell? W _ hS0)).trans hS0) ((impl_own.calls A1 c1 l l W.drew hC hc1 (own_law l (by omega))).mono fun e' W' hh => ?_) (fun a6 v6 W6 h6 d6 hR => ?_)
  · obtain ⟨v1, e1, e2, e3⟩ := hh
    exact ⟨v1, e1, e2, ((Below.refl W.heap.size W).drew).trans e3⟩
  obtain ⟨hR6, hb6⟩ := hR
  obtain ⟨A6, c6, b6, rfl, hc6, hA6, hx6⟩ := R_bts2 hR6
  have hI6 := hI.keep hb6
  obtain ⟨s, z, q6, hd6, hh6⟩ := hI6.dig
  have P := write_walk g (hT sz) b6 0 l.length c6 sz q6 A6 s y z (lx l) W6 (fun hp => by have := (hA6 hp).2; have := hI.gB; have := hI.BW; omega) hd6 (holdL_lt hh6) (by omega) hc6 (fun hp => (hA6 hp).1) hx6
  refine stepI (S := SS) (N := 104) (j := 7) (d := 47) (f := 73) (nm := "Write") (t := hU sz) (u := .pointer (some ⟨g, 0, none⟩)) (u' := .pointer (some ⟨g, 0, none⟩)) (args := [.v (.slice A6 l.length c6)]) h6 (by kernel_rfl) (by kernel_rfl) Tryd.func73 rfl rfl (meth_Write sz hsz g) (fun v1 W1 => v1 = .tuple #[.int .i64 (l.length : Int), .nilIface] ∧ (Dig g (hT sz) (wrS s z q6 (lx l) l.length) y (wrZ z q6 (lx l) l.length) (wrQ q6 l.length) sz).In W1 ∧ Fr [g] W6 W1) (fun v1 W1 hh => ?_) (P.mono fun e' W' hh => ⟨_, hh.1, rfl, hh.2.1, hh.2.2⟩) (fun a7 v7 W7 h7 d7 hR => ?_)
  · show W1.cell? _ = _
    rw [hh.2.2.cell ((hb6.cell (World.block_lt_of_cell? W _ hS0)).trans hS0) (by simp; exact Ne.symm hge)]
  obtain ⟨rfl, hd7, hF7⟩ := hR
  have hS7 : SS W7 := hF7.cell ((hb6.cell (World.block_lt_of_cell? W _ hS0)).trans hS0) (by simp; exact Ne.symm hge)
  refine segP (S := SS) (T := TD) (M := fun _ _ => none) (N := 104) tabOkD hSM (by exact fun c a a1 w hd h => hQ c a a1 w hd h) hS7 [8, 9, 10, 11, 12] 0 [(8, .v v), (9, .v (.bool true)), (10, .v (.pointer (some ⟨t, 0, none⟩))), (11, .v (.bool true)), (12, .v (.iface (hU sz) (.pointer (some ⟨g, 0, none⟩)))), (14, .p 0 0), (15, .v (.int .i64 (l.length : Int))), (16, .v .nilIface), (29, .v (.slice A n c)), (30, .v (.int .i64 (n : Int))), (31, .v (.int .i64 (q : Int))), (36, .v (.int .u8 k))] h7 (by kernel_rfl) (by kernel_rfl) ⟨by kernel_rfl, by kernel_rfl, by kernel_rfl, by kernel_rfl, by kernel_rfl, by kernel_rfl, by kernel_rfl, by kernel_rfl, by kernel_rfl, by kernel_rfl, by kernel_rfl, by kernel_rfl, trivial⟩ (fun a8 h8 d8 => ?_)
  refine segE (by kernel_rfl) ?_
  have hI7 := hI6.put hF7 hd7 (holdL_write l hh6)
  have he7 : (⟨e, 33, 3, stp k A1 l.length c1 sd⟩ : Bl).In W7 := (he.on (Fr.ofBelow [] hb6) (by simp)).on hF7 (by simp; exact Ne.symm hge)
  have sW7 : W.heap.size ≤ W7.heap.size := Nat.le_trans hb6.size hF7.size
  replace d8 := d8.trans (d7.trans (d6.trans (d5.trans (d4.trans (d3.trans (d2.trans d1))))))
  clear h1 h2 h3 h4 h5 h6 h7 d1 d2 d3 d4 d5 d6 d7 P hd7 hx6 hR6 hS0
  show Code.wp _ _ _ _ _
  have M8 : Mw (bn [e]) [⟨e, 33, 3, stp k A1 l.length c1 sd⟩] W7 := ⟨bg_bn _, he7, by simp, trivial⟩
  refine wp_region ?_
  refine opsP (N := 104) (T := TD) (M := bm [⟨e, 33, 3, stp k A1 l.length c1 sd⟩]) tabOkD M8.mem [2, 3, 4, 5, 6, 7, 8, 9, 10, 11, 12] [0, 1] [(8, .v v), (9, .v (.bool true)), (10, .v (.pointer (some ⟨t, 0, none⟩))), (11, .v (.bool true)), (12, .v (.iface (hU sz) (.pointer (some ⟨g, 0, none⟩)))), (14, .p 0 0), (15, .v (.int .i64 (l.length : Int))), (16, .v .nilIface), (29, .v (.slice A n c)), (30, .v (.int .i64 (n : Int))), (31, .v (.int .i64 (q : Int))), (36, .v (.int .u8 k)), (51, .v (.bool true))] h8 (by kernel_rfl) ⟨by kernel_rfl, by kernel_rfl, by kernel_rfl, by kernel_rfl, by kernel_rfl, by kernel_rfl, by kernel_rfl, by kernel_rfl, by kernel_rfl, by kernel_rfl, by kernel_rfl, by kernel_rfl, by kernel_rfl, trivial⟩ (fun a9 h9 d9 => ?_)
  refine guard_ops (N := 104) (T := TD) (M := bm [⟨e, 33, 3, stp k A1 l.length c1 sd⟩]) tabOkD (i := 2) (d := 52) (j := 1) (dj := 51) (b := true) (s := .v (.int .i64 (l.length : Int))) M8.mem rfl rfl rfl rfl rfl (by decide) h9 (by kernel_rfl) (fun a10 h10 d10 => ?_)
  refine guard_ops (N := 104) (T := TD) (M := bm [⟨e, 33, 3, stp k A1 l.length c1 sd⟩]) tabOkD (i := 3) (d := 53) (j := 1) (dj := 51) (b := true) (s := .p 0 1) M8.mem rfl rfl rfl rfl rfl (by decide) h10 (by kernel_rfl) (fun a11 h11 d11 => ?_)
  refine givenW_ops (N := 104) (i := 4) (d := 54) (s := .v (.slice A1 l.length c1)) rfl (want_g h11 (j := 1) (d := 51) (b := true) rfl rfl rfl) rfl (by decide) h11 (op_load rfl (h11.2 53 _ rfl) Tryd.isAgg22 (he7.cell 1 (show 1 < 3 by decide))) (fun a12 h12 d12 => ?_)
  refine guard_ops (N := 104) (T := TD) (M := bm [⟨e, 33, 3, stp k A1 l.length c1 sd⟩]) tabOkD (i := 5) (d := 55) (j := 1) (dj := 51) (b := true) (s := .v (.int .i64 (l.length : Int))) M8.mem rfl rfl rfl rfl rfl (by decide) h12 (by kernel_rfl) (fun a13 h13 d13 => ?_)
  refine guard_ops (N := 104) (T := TD) (M := bm [⟨e, 33, 3, stp k A1 l.length c1 sd⟩]) tabOkD (i := 6) (d := 56) (j := 1) (dj := 51) (b := true) (s := .v (.bool ((l.length : Int) == (l.length : Int)))) M8.mem rfl rfl rfl rfl rfl (by decide) h13 (by kernel_rfl) (fun a14 h14 d14 => ?_)
  rw [show ((l.length : Int) == (l.length : Int)) = true from beq_self_eq_true _] at h14
  refine givenW_ops (N := 104) (i := 7) (d := 57) (s := .v (.bool true)) rfl (want_ rfl) rfl (by decide) h14 (op_pickT rfl (h14.2 51 _ rfl) (h14.2 56 _ rfl)) (fun a15 h15 d15 => ?_)
  refine opsP (N := 104) (T := TD) (M := bm [⟨e, 33, 3, stp k A1 l.length c1 sd⟩]) tabOkD M8.mem [9, 10, 11, 12] [8] [(8, .v v), (9, .v (.bool true)), (10, .v (.pointer (some ⟨t, 0, none⟩))), (11, .v (.bool true)), (12, .v (.iface (hU sz) (.pointer (some ⟨g, 0, none⟩)))), (14, .p 0 0), (16, .v .nilIface), (29, .v (.slice A n c)), (30, .v (.int .i64 (n : Int))), (31, .v (.int .i64 (q : Int))), (36, .v (.int .u8 k)), (58, .v (.bool true))] h15 (by kernel_rfl) ⟨by kernel_rfl, by kernel_rfl, by kernel_rfl, by kernel_rfl, by kernel_rfl, by kernel_rfl, by kernel_rfl, by kernel_rfl, by kernel_rfl, by kernel_rfl, by kernel_rfl, by kernel_rfl, trivial⟩ (fun a16 h16 d16 => ?_)
  refine guard_ops (N := 104) (T := TD) (M := bm [⟨e, 33, 3, stp k A1 l.length c1 sd⟩]) tabOkD (i := 9) (d := 59) (j := 8) (dj := 58) (b := true) (s := .v .nilIface) M8.mem rfl rfl rfl rfl rfl (by decide) h16 (by kernel_rfl) (fun a17 h17 d17 => ?_)
  refine givenW_ops (N := 104) (i := 10) (d := 60) (s := .v (.bool true)) rfl (want_g h17 (j := 8) (d := 58) (b := true) rfl rfl rfl) rfl (by decide) h17 (op_eqNil rfl (h17.2 59 _ rfl) rfl eq_err) (fun a18 h18 d18 => ?_)
  refine givenW_ops (N := 104) (i := 11) (d := 61) (s := .v (.bool true)) rfl (want_ rfl) rfl (by decide) h18 (op_pickT rfl (h18.2 58 _ rfl) (h18.2 60 _ rfl)) (fun a19 h19 d19 => ?_)
  refine opsP (N := 104) (T := TD) (M := bm [⟨e, 33, 3, stp k A1 l.length c1 sd⟩]) tabOkD M8.mem [] [12] [(8, .v v), (9, .v (.bool true)), (10, .v (.pointer (some ⟨t, 0, none⟩))), (11, .v (.bool true)), (12, .v (.iface (hU sz) (.pointer (some ⟨g, 0, none⟩)))), (14, .p 0 0), (29, .v (.slice A n c)), (30, .v (.int .i64 (n : Int))), (31, .v (.int .i64 (q : Int))), (36, .v (.int .u8 k))] h19 (by kernel_rfl) ⟨by kernel_rfl, by kernel_rfl, by kernel_rfl, by kernel_rfl, by kernel_rfl, by kernel_rfl, by kernel_rfl, by kernel_rfl, by kernel_rfl, by kernel_rfl, trivial⟩ (fun a20 h20 d20 => ?_)
  exact hK a20 W7 v (has_list (β := bn []) (a := a20) h20.1 (E := [(8, .v v), (9, .v (.bool true)), (10, .v (.pointer (some ⟨t, 0, none⟩))), (11, .v (.bool true)), (12, .v (.iface (hU sz) (.pointer (some ⟨g, 0, none⟩)))), (29, .v (.slice A n c)), (30, .v (.int .i64 (n : Int))), (31, .v (.int .i64 (q : Int)))]) ⟨h20.2 8 _ rfl, h20.2 9 _ rfl, h20.2 10 _ rfl, h20.2 11 _ rfl, h20.2 12 _ rfl, h20.2 29 _ rfl, h20.2 30 _ rfl, h20.2 31 _ rfl, trivial⟩) (d20.trans (d19.trans (d18.trans (d17.trans (d16.trans (d15.trans (d14.trans (d13.trans (d12.trans (d11.trans (d10.trans (d9.trans d8)))))))))))) hI7 sW7
theorem HInv.push {w : World} {B g t sz : Nat} {y : Nat → Int} {W w1 : World} {v v1 : Value} {L : List Int} {R R' : List (List Int)} (h : HInv w B g t sz y W v L R) (hb : Below B W w1) (hr : Rows w1 B v1 R') : HInv w B g t sz y w1 v1 L R' := by
  obtain ⟨s, z, q, h1, h2⟩ := h.dig
  exact ⟨⟨s, z, q, h1.below hb h.gB, h2⟩, h.told.below hb h.tB, hr, h.below.trans (hb.mono (by have := h.wg; have := h.gB; omega)), h.gB, h.tB, h.wg, h.wt, h.gt, Nat.le_trans h.BW hb.size⟩
theorem sumS_len (sz : Nat) (hsz : sz = 8 ∨ sz = 16 ∨ sz = 32) (S : Nat → Int) : (sumS (sz : Int) S).length = sz := by
  rcases hsz with rfl | rfl | rfl <;> simp [sumS]
theorem sum_dig (sz : Nat) (hsz : sz = 8 ∨ sz = 16 ∨ sz = 32) (base g T q : Nat) (bv : Value) (l : List Int) (s y z : Nat → Int) (w : World) (hd : (Dig g T s y z q sz).In w) (hq : q < 32) (hgb : g < base) (hbase : base ≤ w.heap.size) (HO : Kd.R (Kd.int .u8) 5 w base (fun _ => True) bv l) (hl : l.length < 70368744177664) :
    Calls Tryd.prog 71 #[.pointer (some ⟨g, 0, none⟩), bv] w fun e w' => ∃ v, e = .returned v ∧ Kd.R (Kd.int .u8) 5 w' base (fun _ => True) v (l ++ sumS (sz : Int) (dgS s z q)) ∧ Below base w w' := by
  rcases hsz with rfl | rfl | rfl
  · exact sum8_dig base g T q bv l s y z w hd hq hgb hbase HO hl
  · exact sum16_dig base g T q bv l s y z w hd hq hgb hbase HO hl
  · exact sum32_dig base g T q bv l s y z w hd hq hgb hbase HO hl
set_option maxHeartbeats 8000000 in
set_option maxRecDepth 100000 in
theorem run_k1 (w W : World) (B g t sz e n c q : Nat) (A : Option Addr) (k sd : Int) (A1 : Option Addr) (c1 : Nat) (l : List Int) (y : Nat → Int) (v : Value) (L : List Int) (R : List (List Int)) (a : Act) (Q : Exit → Act → World → Prop) (hsz : sz = 8 ∨ sz = 16 ∨ sz = 32)
    (hI : HInv w B g t sz y W v L R) (he : (⟨e, 33, 3, stp k A1 l.length c1 sd⟩ : Bl).In W) (heB : B ≤ e)
    (hC : Kd.C (Kd.int .u8) W A1 l.length l) (hc1 : l.length ≤ c1) (hl : l.length < 1048576) (hR : R.length < 1048576)
    (h0 : Has 104 (bn [e]) [(8, .v v), (9, .v (.bool true)), (10, .v (.pointer (some ⟨t, 0, none⟩))), (11, .v (.bool true)), (12, .v (.iface (hU sz) (.pointer (some ⟨g, 0, none⟩)))), (14, .p 0 0), (29, .v (.slice A n c)), (30, .v (.int .i64 (n : Int))), (31, .v (.int .i64 (q : Int))), (36, .v (.int .u8 k))] a) (hQ : ∀ c (a a' : Act) w, a'.defers = a.defers → Q (.panic c) a w → Q (.panic c) a' w)
    (hK : ∀ a' W' v', Has 104 (bn []) [(8, .v v'), (9, .v (.bool true)), (10, .v (.pointer (some ⟨t, 0, none⟩))), (11, .v (.bool true)), (12, .v (.iface (hU sz) (.pointer (some ⟨g, 0, none⟩)))), (29, .v (.slice A n c)), (30, .v (.int .i64 (n : Int))), (31, .v (.int .i64 (q : Int)))] a' → a'.defers = a.defers → HInv w B g t sz y W' v' (L) (R ++ [(l ++ sumS (sz : Int) (hvS y (lx L) L.length))]) → W.heap.size ≤ W'.heap.size → Q .normal a' W') : Code.wp Tryd.prog (cThen (cElse c7_b2)) Q a W := by
  have hgB := hI.gB
  have hBW := hI.BW
  have hge : g ≠ e := by omega
  have hvl : ∀ k, v.ownBlock = some k → k < W.heap.size := by
    obtain ⟨inner, ho⟩ := Kd.R_own hI.rows
    exact own_lt ho
  have hve : some e ≠ v.ownBlock := by
    obtain ⟨cs, h1, _⟩ := he
    exact Kd.R_ne hI.rows h1 (show 22 ≠ 33 by decide)
  have heW : e < W.heap.size := he.lt
  let SS : World → Prop := fun V => V.cell? ⟨e, 1, none⟩ = some (.slice A1 l.length c1)
  have hSM : ∀ W, SS W → MemOk (bn [e]) (fun _ _ => none) W := fun _ _ _ _ _ h => by cases h
  have hS0 : SS W := he.cell 1 (show 1 < 3 by decide)
  refine start_ (S := SS) (ds := []) (n := 13) _ (by kernel_rfl) rfl rfl (show SS W.drew from hS0) (fun hS0 => ?_)
  refine segP (S := SS) (T := TD) (M := fun _ _ => none) (N := 104) tabOkD hSM (by exact fun c a a1 w hd h => hQ c a a1 w hd h) hS0 [0, 1, 2] 10 [(8, .v v), (9, .v (.bool true)), (10, .v (.pointer (some ⟨t, 0, none⟩))), (11, .v (.bool true)), (12, .v (.iface (hU sz) (.pointer (some ⟨g, 0, none⟩)))), (14, .p 0 0), (29, .v (.slice A n c)), (30, .v (.int .i64 (n : Int))), (31, .v (.int .i64 (q : Int))), (36, .v (.int .u8 k)), (64, .v v), (65, .v (.iface (hU sz) (.pointer (some ⟨g, 0, none⟩)))), (66, .p 0 1)] h0 (by kernel_rfl) (by kernel_rfl) ⟨by kernel_rfl, by kernel_rfl, by kernel_rfl, by kernel_rfl, by kernel_rfl, by kernel_rfl, by kernel_rfl, by kernel_rfl, by kernel_rfl, by kernel_rfl, by kernel_rfl, by kernel_rfl, by kernel_rfl, trivial⟩ (fun a1 h1 d1 => ?_)
  refine segV (S := SS) (N := 104) (i := 3) (d := 67) (s := .v (.slice A1 l.length c1)) (by exact fun c a a1 w hd h => hQ c a a1 w hd h) hS0 h1 rfl rfl rfl (by decide) (by kernel_rfl) (fun W' hW => op_load rfl (h1.2 66 _ rfl) Tryd.isAgg22 hW) (fun a2 h2 d2 => ?_)
  refine segV (S := SS) (N := 104) (i := 5) (d := 69) (s := .v (.func (.method "Sum") #[.iface (hU sz) (.pointer (some ⟨g, 0, none⟩))] #[])) (by exact fun c a a1 w hd h => hQ c a a1 w hd h) hS0 h2 rfl rfl rfl (by decide) (by kernel_rfl) (fun W' hW => op_makeFunc1 rfl (h2.2 65 _ rfl)) (fun a3 h3 d3 => ?_)
  refine segV (S := SS) (N := 104) (i := 6) (d := 70) (s := .v (.func (.method "Sum") #[.iface (hU sz) (.pointer (some ⟨g, 0, none⟩))] #[])) (by exact fun c a a1 w hd h => hQ c a a1 w hd h) hS0 h3 rfl rfl rfl (by decide) (by kernel_rfl) (fun W' hW => op_nilFunc rfl (h3.2 69 _ rfl) (ahead_Sum sz hsz g)) (fun a4 h4 d4 => ?_)
  refine segP (S := SS) (T := TD) (M := fun _ _ => none) (N := 104) tabOkD hSM (by exact fun c a a1 w hd h => hQ c a a1 w hd h) hS0 [7] 6 [(8, .v v), (9, .v (.bool true)), (10, .v (.pointer (some ⟨t, 0, none⟩))), (11, .v (.bool true)), (12, .v (.iface (hU sz) (.pointer (some ⟨g, 0, none⟩)))), (14, .p 0 0), (29, .v (.slice A n c)), (30, .v (.int .i64 (n : Int))), (31, .v (.int .i64 (q : Int))), (36, .v (.int .u8 k)), (64, .v v), (67, .v (.slice A1 l.length c1)), (71, .v (.iface (hU sz) (.pointer (some ⟨g, 0, none⟩))))] h4 (by kernel_rfl) (by kernel_rfl) ⟨by kernel_rfl, by kernel_rfl, by kernel_rfl, by kernel_rfl, by kernel_rfl, by kernel_rfl, by kernel_rfl, by kernel_rfl, by kernel_rfl, by kernel_rfl, by kernel_rfl, by kernel_rfl, by kernel_rfl, trivial⟩ (fun a5 h5 d5 => ?_)
  refine stepR (S := SS) (N := 104) (j := 4) (d := 68) (f := 16) (args := [.v (.slice A1 l.length c1)]) h5 (by kernel_rfl) (by kernel_rfl) Tryd.func16 rfl rfl (fun v1 W1 => Kd.R (Kd.int .u8) 5 W1 W.heap.size (fun _ => True) v1 l ∧ Below W.heap.size W W1) (fun v1 W1 hh => (hh.2.cell (World.block_lt_of_cell? W _ hS0)).trans hS0) ((impl_own.calls A1 c1 l l W.drew hC hc1 (own_law l (by omega))).mono fun e' W' hh => ?_) (fun a6 v6 W6 h6 d6 hR6 => ?_)
  · obtain ⟨v1, e1, e2, e3⟩ := hh
    exact ⟨v1, e1, e2, ((Below.refl W.heap.size W).drew).trans e3⟩
  obtain ⟨hR6, hb6⟩ := hR6
  have hI6 := hI.keep hb6
  obtain ⟨s, z, q6, hd6, hh6⟩ := hI6.dig
  have P := sum_dig sz hsz W.heap.size g (hT sz) q6 v6 l s y z W6 hd6 (holdL_lt hh6) (by omega) hb6.size hR6 (by omega)
  rw [holdL_sum hh6] at P
  refine stepI (S := SS) (N := 104) (j := 8) (d := 72) (f := 71) (nm := "Sum") (t := hU sz) (u := .pointer (some ⟨g, 0, none⟩)) (u' := .pointer (some ⟨g, 0, none⟩)) (args := [.v v6]) h6 (by kernel_rfl) (by kernel_rfl) Tryd.func71 rfl rfl (meth_Sum sz hsz g) (fun v1 W1 => Kd.R (Kd.int .u8) 5 W1 W.heap.size (fun _ => True) v1 (l ++ sumS (sz : Int) (hvS y (lx L) L.length)) ∧ Below W.heap.size W W1) (fun v1 W1 hh => (hh.2.cell (World.block_lt_of_cell? W _ hS0)).trans hS0) (P.mono fun e' W' hh => ?_) (fun a7 v7 W7 h7 d7 hR7 => ?_)
  · obtain ⟨v1, e1, e2, e3⟩ := hh
    exact ⟨v1, e1, e2, hb6.trans e3⟩
  obtain ⟨hR7, hb7⟩ := hR7
  obtain ⟨A7, c7, rfl, hc7, hC7⟩ := Kd.R_reads hR7
  have hxl : (l ++ sumS (sz : Int) (hvS y (lx L) L.length)).length < 2097152 := by
    rw [List.length_append, sumS_len sz hsz]
    omega
  refine stepR (S := SS) (N := 104) (j := 9) (d := 73) (f := 16) (args := [.v (.slice A7 (l ++ sumS (sz : Int) (hvS y (lx L) L.length)).length c7)]) h7 (by kernel_rfl) (by kernel_rfl) Tryd.func16 rfl rfl (fun v1 W1 => Kd.R (Kd.int .u8) 5 W1 W7.heap.size (fun _ => True) v1 (l ++ sumS (sz : Int) (hvS y (lx L) L.length)) ∧ Below W7.heap.size W7 W1) (fun v1 W1 hh => ((hb7.trans (hh.2.mono hb7.size)).cell (World.block_lt_of_cell? W _ hS0)).trans hS0) ((impl_own.calls A7 c7 (l ++ sumS (sz : Int) (hvS y (lx L) L.length)) (l ++ sumS (sz : Int) (hvS y (lx L) L.length)) W7 hC7 hc7 (own_law (l ++ sumS (sz : Int) (hvS y (lx L) L.length)) (by omega))).mono fun e' W' hh => ?_) (fun a8 v8 W8 h8 d8 hR8 => ?_)
  · obtain ⟨v1, e1, e2, e3⟩ := hh
    exact ⟨v1, e1, e2, e3⟩
  obtain ⟨hR8, hb8⟩ := hR8
  obtain ⟨A8, c8, rfl⟩ := Kd.R_slice hR8
  have hb8' : Below W.heap.size W W8 := hb7.trans (hb8.mono hb7.size)
  have hal : Below W.heap.size W (W8.alloc (.cells #[.slice A8 (l ++ sumS (sz : Int) (hvS y (lx L) L.length)).length c8] 22)) := hb8'.alloc hb8'.size _
  refine stepN (S := SS) (N := 104) (j := 10) (d := 74) h8 rfl rfl rfl (by decide) (by kernel_rfl) (op_buildSlice1 rfl (h8.2 73 _ rfl) (build_row W8 A8 _ c8)) ((hal.cell (World.block_lt_of_cell? W _ hS0)).trans hS0) (fun a9 h9 d9 => ?_)
  obtain ⟨hRR, hokp⟩ := one_row hR8 (Nat.le_trans hBW hb7.size) (fun k hk => Nat.lt_of_lt_of_le (hvl k hk) hb7.size)
  refine stepA (S := SS) (N := 104) (j := 11) (dst := 75) KRows (w0 := W) B h9 rfl rfl rfl (by decide) (by kernel_rfl) (.tmp 64) (.tmp 74) 23 22 (.slice none 0 0) 24 rfl Tryd.underlying23 (by kernel_rfl) rfl (by decide) (by decide) v R [(l ++ sumS (sz : Int) (hvS y (lx L) L.length))] (some ⟨W8.heap.size, 0, none⟩) 1 1 (fun _ => True) (fun k => W7.heap.size ≤ k) (h9.2 64 _ rfl) (h9.2 74 _ rfl) (hI.rows.onB hal) hRR (fun _ _ h => h) hokp (fun _ _ => trivial) (hal.mono hBW) (Nat.le_trans hBW hal.size) (by omega) (fun w1 hb1 hg1 => ?_) (fun v1 w1 a10 hv1 hb1 hg1 h10 d10 => ?_)
  · have hc := (hal.cell (World.block_lt_of_cell? W _ hS0)).trans hS0
    exact (World.cell?_of_block (hg1.block e (Nat.lt_of_lt_of_le heW hal.size) hve)).trans hc
  have hS1 : SS w1 := (World.cell?_of_block (hg1.block e (Nat.lt_of_lt_of_le heW hal.size) hve)).trans ((hal.cell (World.block_lt_of_cell? W _ hS0)).trans hS0)
  refine segP (S := SS) (T := TD) (M := fun _ _ => none) (N := 104) tabOkD hSM (by exact fun c a a1 w hd h => hQ c a a1 w hd h) hS1 [12] 0 [(8, .v v1), (9, .v (.bool true)), (10, .v (.pointer (some ⟨t, 0, none⟩))), (11, .v (.bool true)), (12, .v (.iface (hU sz) (.pointer (some ⟨g, 0, none⟩)))), (14, .p 0 0), (29, .v (.slice A n c)), (30, .v (.int .i64 (n : Int))), (31, .v (.int .i64 (q : Int))), (36, .v (.int .u8 k))] h10 (by kernel_rfl) (by kernel_rfl) ⟨by kernel_rfl, by kernel_rfl, by kernel_rfl, by kernel_rfl, by kernel_rfl, by kernel_rfl, by kernel_rfl, by kernel_rfl, by kernel_rfl, by kernel_rfl, trivial⟩ (fun a11 h11 d11 => ?_)
  refine segE (by kernel_rfl) ?_
  exact hK a11 w1 v1 (has_list (β := bn []) (a := a11) h11.1 (E := [(8, .v v1), (9, .v (.bool true)), (10, .v (.pointer (some ⟨t, 0, none⟩))), (11, .v (.bool true)), (12, .v (.iface (hU sz) (.pointer (some ⟨g, 0, none⟩)))), (29, .v (.slice A n c)), (30, .v (.int .i64 (n : Int))), (31, .v (.int .i64 (q : Int)))]) ⟨h11.2 8 _ rfl, h11.2 9 _ rfl, h11.2 10 _ rfl, h11.2 11 _ rfl, h11.2 12 _ rfl, h11.2 29 _ rfl, h11.2 30 _ rfl, h11.2 31 _ rfl, trivial⟩) (d11.trans (d10.trans (d9.trans (d8.trans (d7.trans (d6.trans (d5.trans (d4.trans (d3.trans (d2.trans d1)))))))))) (hI.push hb1 hv1) hb1.size
set_option maxHeartbeats 8000000 in
set_option maxRecDepth 100000 in
theorem run_k2 (w W : World) (B g t sz e n c q : Nat) (A : Option Addr) (k sd : Int) (A1 : Option Addr) (c1 : Nat) (l : List Int) (y : Nat → Int) (v : Value) (L : List Int) (R : List (List Int)) (a : Act) (Q : Exit → Act → World → Prop) (hsz : sz = 8 ∨ sz = 16 ∨ sz = 32)
    (hI : HInv w B g t sz y W v L R) (he : (⟨e, 33, 3, stp k A1 l.length c1 sd⟩ : Bl).In W) (heB : B ≤ e)
    (h0 : Has 104 (bn [e]) [(8, .v v), (9, .v (.bool true)), (10, .v (.pointer (some ⟨t, 0, none⟩))), (11, .v (.bool true)), (12, .v (.iface (hU sz) (.pointer (some ⟨g, 0, none⟩)))), (14, .p 0 0), (29, .v (.slice A n c)), (30, .v (.int .i64 (n : Int))), (31, .v (.int .i64 (q : Int))), (36, .v (.int .u8 k))] a) (hQ : ∀ c (a a' : Act) w, a'.defers = a.defers → Q (.panic c) a w → Q (.panic c) a' w)
    (hK : ∀ a' W' v', Has 104 (bn []) [(8, .v v'), (9, .v (.bool true)), (10, .v (.pointer (some ⟨t, 0, none⟩))), (11, .v (.bool true)), (12, .v (.iface (hU sz) (.pointer (some ⟨g, 0, none⟩)))), (29, .v (.slice A n c)), (30, .v (.int .i64 (n : Int))), (31, .v (.int .i64 (q : Int)))] a' → a'.defers = a.defers → HInv w B g t sz y W' v' ([]) (R) → W.heap.size ≤ W'.heap.size → Q .normal a' W') : Code.wp Tryd.prog (cThen (cElse (cElse c7_b2))) Q a W := by
  have hM0 : Mw (bn [e]) [⟨e, 33, 3, stp k A1 l.length c1 sd⟩] W := ⟨bg_bn _, he, by simp, trivial⟩
  obtain ⟨s, z, q6, hd6, hh6⟩ := hI.dig
  refine wp_region ?_
  refine opsP (N := 104) (T := TD) (M := bm [⟨e, 33, 3, stp k A1 l.length c1 sd⟩]) tabOkD hM0.mem [1] [0] [(8, .v v), (9, .v (.bool true)), (10, .v (.pointer (some ⟨t, 0, none⟩))), (11, .v (.bool true)), (12, .v (.iface (hU sz) (.pointer (some ⟨g, 0, none⟩)))), (14, .p 0 0), (29, .v (.slice A n c)), (30, .v (.int .i64 (n : Int))), (31, .v (.int .i64 (q : Int))), (36, .v (.int .u8 k)), (78, .v (.iface (hU sz) (.pointer (some ⟨g, 0, none⟩))))] h0 (by kernel_rfl) ⟨by kernel_rfl, by kernel_rfl, by kernel_rfl, by kernel_rfl, by kernel_rfl, by kernel_rfl, by kernel_rfl, by kernel_rfl, by kernel_rfl, by kernel_rfl, by kernel_rfl, trivial⟩ (fun a1 h1 d1 => ?_)
  refine meth_ops (N := 104) (i := 1) (d := 79) (f := 44) (nm := "Reset") (t := hU sz) (u := .pointer (some ⟨g, 0, none⟩)) (u' := .pointer (some ⟨g, 0, none⟩)) (args := []) (l := []) h1 (by kernel_rfl) Tryd.func44 rfl rfl (meth_Reset sz hsz g) (fun v1 W1 => (Dig g (hT sz) (ini (keyN y)) y z 0 sz).In W1 ∧ Fr [g] W W1) ((reset_walk g (hT sz) s y z q6 sz W hd6).mono fun e' W' hh => ⟨_, hh.1, hh.2⟩) (fun v2 W2 a2 hR2 h2 d2 => ?_)
  have hI2 := hI.put hR2.2 hR2.1 (holdL_nil y z)
  exact hK a2 W2 v (has_list (β := bn []) (a := a2) h2.1 (E := [(8, .v v), (9, .v (.bool true)), (10, .v (.pointer (some ⟨t, 0, none⟩))), (11, .v (.bool true)), (12, .v (.iface (hU sz) (.pointer (some ⟨g, 0, none⟩)))), (29, .v (.slice A n c)), (30, .v (.int .i64 (n : Int))), (31, .v (.int .i64 (q : Int)))]) ⟨h2.2 8 _ rfl, h2.2 9 _ rfl, h2.2 10 _ rfl, h2.2 11 _ rfl, h2.2 12 _ rfl, h2.2 29 _ rfl, h2.2 30 _ rfl, h2.2 31 _ rfl, trivial⟩) (d2.trans d1) hI2 hR2.2.size
set_option maxHeartbeats 8000000 in
set_option maxRecDepth 100000 in
theorem run_k3 (w W : World) (B g t e n c q : Nat) (A : Option Addr) (k sd : Int) (A1 : Option Addr) (c1 : Nat) (l : List Int) (y : Nat → Int) (v : Value) (L : List Int) (R : List (List Int)) (a : Act) (Q : Exit → Act → World → Prop)
    (hI : HInv w B g t 8 y W v L R) (he : (⟨e, 33, 3, stp k A1 l.length c1 sd⟩ : Bl).In W) (heB : B ≤ e) (hR : R.length < 1048576)
    (h0 : Has 104 (bn [e]) [(8, .v v), (9, .v (.bool true)), (10, .v (.pointer (some ⟨t, 0, none⟩))), (11, .v (.bool true)), (12, .v (.iface (hU 8) (.pointer (some ⟨g, 0, none⟩)))), (14, .p 0 0), (29, .v (.slice A n c)), (30, .v (.int .i64 (n : Int))), (31, .v (.int .i64 (q : Int))), (36, .v (.int .u8 k))] a) (hQ : ∀ c (a a' : Act) w, a'.defers = a.defers → Q (.panic c) a w → Q (.panic c) a' w)
    (hK : ∀ a' W' v', Has 104 (bn []) [(8, .v v'), (9, .v (.bool true)), (10, .v (.pointer (some ⟨t, 0, none⟩))), (11, .v (.bool true)), (12, .v (.iface (hU 8) (.pointer (some ⟨g, 0, none⟩)))), (29, .v (.slice A n c)), (30, .v (.int .i64 (n : Int))), (31, .v (.int .i64 (q : Int)))] a' → a'.defers = a.defers → HInv w B g t 8 y W' v' (L) (R ++ [(sumS (8 : Int) (hvS y (lx L) L.length))]) → W.heap.size ≤ W'.heap.size → Q .normal a' W') : Code.wp Tryd.prog (cThen (cElse (cElse (cElse c7_b2)))) Q a W := by
  have hgB := hI.gB
  have hBW := hI.BW
  have hvl : ∀ k, v.ownBlock = some k → k < W.heap.size := by
    obtain ⟨inner, ho⟩ := Kd.R_own hI.rows
    exact own_lt ho
  have hM0 : Mw (bn [e]) [⟨e, 33, 3, stp k A1 l.length c1 sd⟩] W := ⟨bg_bn _, he, by simp, trivial⟩
  obtain ⟨s, z, q6, hd6, hh6⟩ := hI.dig
  refine wp_seq ?_
  refine wp_region ?_
  refine opsP (N := 104) (T := TD) (M := bm [⟨e, 33, 3, stp k A1 l.length c1 sd⟩]) tabOkD hM0.mem [1, 2, 3, 4, 5, 6] [0] [(8, .v v), (9, .v (.bool true)), (10, .v (.pointer (some ⟨t, 0, none⟩))), (11, .v (.bool true)), (12, .v (.iface (hU 8) (.pointer (some ⟨g, 0, none⟩)))), (14, .p 0 0), (29, .v (.slice A n c)), (30, .v (.int .i64 (n : Int))), (31, .v (.int .i64 (q : Int))), (36, .v (.int .u8 k)), (83, .v (.iface (hU 8) (.pointer (some ⟨g, 0, none⟩))))] h0 (by kernel_rfl) ⟨by kernel_rfl, by kernel_rfl, by kernel_rfl, by kernel_rfl, by kernel_rfl, by kernel_rfl, by kernel_rfl, by kernel_rfl, by kernel_rfl, by kernel_rfl, by kernel_rfl, trivial⟩ (fun a1 h1 d1 => ?_)
  refine givenW_ops (N := 104) (i := 1) (d := 84) (s := .v (.tuple #[.iface (hU 8) (.pointer (some ⟨g, 0, none⟩)), .bool true])) rfl (want_ rfl) rfl (by decide) h1 (op_assert rfl (h1.2 83 _ rfl) (assert_64 g)) (fun a2 h2 d2 => ?_)
  refine opsP (N := 104) (T := TD) (M := bm [⟨e, 33, 3, stp k A1 l.length c1 sd⟩]) tabOkD hM0.mem [] [2, 3, 4, 5, 6] [(8, .v v), (9, .v (.bool true)), (10, .v (.pointer (some ⟨t, 0, none⟩))), (11, .v (.bool true)), (12, .v (.iface (hU 8) (.pointer (some ⟨g, 0, none⟩)))), (14, .p 0 0), (17, .v (.iface (hU 8) (.pointer (some ⟨g, 0, none⟩)))), (18, .v (.bool true)), (29, .v (.slice A n c)), (30, .v (.int .i64 (n : Int))), (31, .v (.int .i64 (q : Int))), (36, .v (.int .u8 k))] h2 (by kernel_rfl) ⟨by kernel_rfl, by kernel_rfl, by kernel_rfl, by kernel_rfl, by kernel_rfl, by kernel_rfl, by kernel_rfl, by kernel_rfl, by kernel_rfl, by kernel_rfl, by kernel_rfl, by kernel_rfl, trivial⟩ (fun a3 h3 d3 => ?_)
  show Code.wp _ _ _ _ _
  refine wp_seq ?_
  refine regM_seq (N := 104) (T := TD) (n := 1) (E2 := [(8, .v v), (9, .v (.bool true)), (10, .v (.pointer (some ⟨t, 0, none⟩))), (11, .v (.bool true)), (12, .v (.iface (hU 8) (.pointer (some ⟨g, 0, none⟩)))), (14, .p 0 0), (17, .v (.iface (hU 8) (.pointer (some ⟨g, 0, none⟩)))), (29, .v (.slice A n c)), (30, .v (.int .i64 (n : Int))), (31, .v (.int .i64 (q : Int))), (36, .v (.int .u8 k)), (87, .v (.bool true))]) tabOkD h3 hM0 rfl (by kernel_rfl) ⟨by kernel_rfl, by kernel_rfl, by kernel_rfl, by kernel_rfl, by kernel_rfl, by kernel_rfl, by kernel_rfl, by kernel_rfl, by kernel_rfl, by kernel_rfl, by kernel_rfl, by kernel_rfl, trivial⟩ (fun a4 h4 d4 => ?_)
  show Code.wp _ _ _ _ _
  refine wp_cond_true (h4.2 87 _ rfl) ?_
  refine wp_region ?_
  refine opsP (N := 104) (T := TD) (M := bm [⟨e, 33, 3, stp k A1 l.length c1 sd⟩]) tabOkD hM0.mem [2, 3, 4, 5, 6] [0, 1] [(8, .v v), (9, .v (.bool true)), (10, .v (.pointer (some ⟨t, 0, none⟩))), (11, .v (.bool true)), (12, .v (.iface (hU 8) (.pointer (some ⟨g, 0, none⟩)))), (14, .p 0 0), (29, .v (.slice A n c)), (30, .v (.int .i64 (n : Int))), (31, .v (.int .i64 (q : Int))), (36, .v (.int .u8 k)), (88, .v v), (89, .v (.iface (hU 8) (.pointer (some ⟨g, 0, none⟩))))] h4 (by kernel_rfl) ⟨by kernel_rfl, by kernel_rfl, by kernel_rfl, by kernel_rfl, by kernel_rfl, by kernel_rfl, by kernel_rfl, by kernel_rfl, by kernel_rfl, by kernel_rfl, by kernel_rfl, by kernel_rfl, trivial⟩ (fun a5 h5 d5 => ?_)
  have P := sum64_dig g (hT 8) q6 8 s y z W hd6 (holdL_lt hh6)
  rw [holdL_sum hh6] at P
  refine meth_ops (N := 104) (i := 2) (d := 90) (f := 72) (nm := "Sum64") (t := hU 8) (u := .pointer (some ⟨g, 0, none⟩)) (u' := .pointer (some ⟨g, 0, none⟩)) (args := []) (l := [3, 4, 5, 6]) h5 (by kernel_rfl) Tryd.func72 rfl rfl (meth_Sum64 g) (fun v1 W1 => v1 = .int .u64 (le8 (byt (add4 (mixN 4 (hvS y (lx L) L.length)) 0 4 8 12))) ∧ Below W.heap.size W W1) (P.mono fun e' W' hh => ⟨_, hh.1, rfl, hh.2⟩) (fun v6 W6 a6 hR6 h6 d6 => ?_)
  obtain ⟨rfl, hb6⟩ := hR6
  refine call_ops (N := 104) (i := 3) (d := 91) (f := 17) (args := [.v (.int .u64 (le8 (byt (add4 (mixN 4 (hvS y (lx L) L.length)) 0 4 8 12))))]) (l := [4, 5, 6]) rfl rfl rfl (by decide) h6 Tryd.func17 rfl rfl rfl (by kernel_rfl) (fun v1 W1 => Kd.R (Kd.int .u8) 5 W1 W6.heap.size (fun _ => True) v1 (sumS (8 : Int) (hvS y (lx L) L.length)) ∧ Below W6.heap.size W6 W1) ((low_walk _ W6).mono fun e' W' hh => ?_) (fun v8 W8 a8 hR8 h8 d8 => ?_)
  · obtain ⟨r, e1, e2, e3⟩ := hh
    exact ⟨r, e1, e2, e3⟩
  obtain ⟨hR8, hb8⟩ := hR8
  obtain ⟨A8, c8, rfl⟩ := Kd.R_slice hR8
  have hb8' : Below W.heap.size W W8 := hb6.trans (hb8.mono hb6.size)
  have hal : Below W.heap.size W (W8.alloc (.cells #[.slice A8 (sumS (8 : Int) (hvS y (lx L) L.length)).length c8] 22)) := hb8'.alloc hb8'.size _
  refine new_ops (N := 104) (i := 4) (d := 92) (l := [5, 6]) rfl rfl rfl (by decide) h8 (op_buildSlice1 rfl (h8.2 91 _ rfl) (build_row W8 A8 _ c8)) (fun a9 h9 d9 => ?_)
  obtain ⟨hRR, hokp⟩ := one_row hR8 (Nat.le_trans hBW hb6.size) (fun k hk => Nat.lt_of_lt_of_le (hvl k hk) hb6.size)
  refine app_ops (N := 104) (i := 5) (dst := 93) (l := [6]) KRows (w0 := W) B rfl rfl rfl (by decide) h9 (.tmp 88) (.tmp 92) 23 22 (.slice none 0 0) 24 rfl Tryd.underlying23 (by kernel_rfl) rfl (by decide) (by decide) v R [(sumS (8 : Int) (hvS y (lx L) L.length))] (some ⟨W8.heap.size, 0, none⟩) 1 1 (fun _ => True) (fun k => W6.heap.size ≤ k) (h9.2 88 _ rfl) (h9.2 92 _ rfl) (hI.rows.onB hal) hRR (fun _ _ h => h) hokp (fun _ _ => trivial) (hal.mono hBW) (Nat.le_trans hBW hal.size) (by omega) (fun v1 w1 a10 hv1 hb1 hg1 h10 d10 => ?_)
  refine opsP (N := 104) (T := TD) (M := fun _ _ => none) tabOkD (fun _ _ _ h => by cases h) [] [6] [(8, .v v1), (9, .v (.bool true)), (10, .v (.pointer (some ⟨t, 0, none⟩))), (11, .v (.bool true)), (12, .v (.iface (hU 8) (.pointer (some ⟨g, 0, none⟩)))), (29, .v (.slice A n c)), (30, .v (.int .i64 (n : Int))), (31, .v (.int .i64 (q : Int)))] h10 (by kernel_rfl) ⟨by kernel_rfl, by kernel_rfl, by kernel_rfl, by kernel_rfl, by kernel_rfl, by kernel_rfl, by kernel_rfl, by kernel_rfl, trivial⟩ (fun a11 h11 d11 => ?_)
  exact hK a11 w1 v1 (has_list (β := bn []) (a := a11) h11.1 (E := [(8, .v v1), (9, .v (.bool true)), (10, .v (.pointer (some ⟨t, 0, none⟩))), (11, .v (.bool true)), (12, .v (.iface (hU 8) (.pointer (some ⟨g, 0, none⟩)))), (29, .v (.slice A n c)), (30, .v (.int .i64 (n : Int))), (31, .v (.int .i64 (q : Int)))]) ⟨h11.2 8 _ rfl, h11.2 9 _ rfl, h11.2 10 _ rfl, h11.2 11 _ rfl, h11.2 12 _ rfl, h11.2 29 _ rfl, h11.2 30 _ rfl, h11.2 31 _ rfl, trivial⟩) (d11.trans (d10.trans (d9.trans (d8.trans (d6.trans (d5.trans (d4.trans (d3.trans (d2.trans d1))))))))) (hI.push hb1 hv1) hb1.size
end Go.Proofs.YtnehminojlocoaaDoor.PAll
namespace Go.Proofs.YtnehminojlocoaaDoor.PAll
open Go.RowKit Go.Proofs.YtnehminojlocoaaDoorW.PrintWords Go.Proofs.YtnehminojlocoaaDoorW.PrintLast Go.Proofs.YtnehminojlocoaaDoorW.PrintMore
set_option linter.unusedVariables false
set_option linter.unusedSimpArgs false
theorem has_four {β : Nat → Nat} (x0 x1 x2 x3 : SV) (k : Nat) : Has (4 + k) β [(0, x0), (1, x1), (2, x2), (3, x3)] ⟨#[x0.den β, x1.den β, x2.den β, x3.den β] ++ Array.replicate k undef, []⟩ := by
  refine has_list (by simp) ⟨?_, ?_, ?_, ?_, trivial⟩
  · show ((#[x0.den β, x1.den β, x2.den β, x3.den β] ++ Array.replicate k undef).getD 0 undef) = _
    rw [Array.getD_eq_getD_getElem?, Array.getElem?_append_left (by simp)]
    rfl
  · show ((#[x0.den β, x1.den β, x2.den β, x3.den β] ++ Array.replicate k undef).getD 1 undef) = _
    rw [Array.getD_eq_getD_getElem?, Array.getElem?_append_left (by simp)]
    rfl
  · show ((#[x0.den β, x1.den β, x2.den β, x3.den β] ++ Array.replicate k undef).getD 2 undef) = _
    rw [Array.getD_eq_getD_getElem?, Array.getElem?_append_left (by simp)]
    rfl
  · show ((#[x0.den β, x1.den β, x2.den β, x3.den β] ++ Array.replicate k undef).getD 3 undef) = _
    rw [Array.getD_eq_getD_getElem?, Array.getElem?_append_left (by simp)]
    rfl
/-- What a step of kind k with the octets l does: the text, the sums. -/
def stF (sz : Nat) (y : Nat → Int) (k : Int) (l : List Int) (p : List Int × List (List Int)) : List Int × List (List Int) :=
  if k = 0 then (p.1 ++ l, p.2) else if k = 1 then (p.1, p.2 ++ [l ++ sumS (sz : Int) (hvS y (lx p.1) p.1.length)]) else if k = 2 then ([], p.2) else (p.1, p.2 ++ [sumS (8 : Int) (hvS y (lx p.1) p.1.length)])
def runF (sz : Nat) (y : Nat → Int) (ks : Nat → Int) (dl : Nat → List Int) : Nat → List Int × List (List Int)
  | 0 => ([], [])
  | q + 1 => stF sz y (ks q) (dl q) (runF sz y ks dl q)
theorem runF_len (sz : Nat) (y : Nat → Int) (ks : Nat → Int) (dl : Nat → List Int) : ∀ q, (runF sz y ks dl q).2.length ≤ q
  | 0 => Nat.le_refl _
  | q + 1 => by
    have h := runF_len sz y ks dl q
    unfold runF stF
    split
    · simpa using Nat.le_succ_of_le h
    · split
      · simpa using h
      · split
        · simpa using Nat.le_succ_of_le h
        · simpa using h
/-- The kinds of steps that are taken here. -/
def okK (sz : Nat) (k : Int) : Prop := k = 0 ∨ k = 1 ∨ k = 2 ∨ (k = 3 ∧ sz = 8)
/-- Steps in memory. -/
def StepsAt (A : Option Addr) (n : Nat) (ks : Nat → Int) (dl : Nat → List Int) (W : World) : Prop := ∀ i, i < n → ∃ sb so, A = some ⟨sb, so, none⟩ ∧ ∃ A1 c1 sd, (∀ j, j < 3 → W.cell? ⟨sb, so + i * 3 + j, none⟩ = some (stp (ks i) A1 (dl i).length c1 sd j)) ∧ (dl i).length ≤ c1 ∧ Kd.C (Kd.int .u8) W A1 (dl i).length (dl i)
theorem StepsAt.onB {A : Option Addr} {n : Nat} {ks : Nat → Int} {dl : Nat → List Int} {W W' : World} (h : StepsAt A n ks dl W) (hb : Below W.heap.size W W') : StepsAt A n ks dl W' := fun i hi => by
  obtain ⟨sb, so, hA, A1, c1, sd, h1, h2, h3⟩ := h i hi
  exact ⟨sb, so, hA, A1, c1, sd, fun j hj => (hb.cell (World.block_lt_of_cell? W _ (h1 j hj))).trans (h1 j hj), h2, Kd.C_below h3 hb⟩
theorem allocOkS : AllocOk Tryd.prog 33 #[.int .u8 0, .slice none 0 0, .int .u64 0] := by
  intro ρ o W ho
  unfold execOp
  rw [ho]
  simp [go_sem]
theorem allocOkI : AllocOk Tryd.prog 24 #[.int .i64 0, .int .i64 0] := by
  intro ρ o W ho
  unfold execOp
  rw [ho]
  simp [go_sem]
theorem stp_one (k : Int) (A : Option Addr) (n c : Nat) (sd : Int) (j : Nat) : (stp k A n c sd j).oneCell' = true := by
  unfold stp
  split
  · rfl
  · split <;> rfl
theorem step_copy (W : World) (k : Int) (A : Option Addr) (n c : Nat) (sd : Int) : ∃ W', (storeVar 33 ⟨W.heap.size, 0, none⟩ (.agg ((List.range 3).map (stp k A n c sd)).toArray)).run Tryd.prog (W.alloc (.cells #[.int .u8 0, .slice none 0 0, .int .u64 0] 33)) = .ok () W' ∧
    (⟨W.heap.size, 33, 3, stp k A n c sd⟩ : Bl).In W' ∧ Below W.heap.size W W' := by
  have hal := (MapKept.heap_alloc W (.cells #[.int .u8 0, .slice none 0 0, .int .u64 0] 33)).1
  refine ⟨_, run_storeVar_row _ _ _ _ _ _ hal (by rw [List.size_toArray, List.length_map, List.length_range]; kernel_rfl) (by simp) ?_, ⟨_, setRow_heap _ _ _ _ _ _ hal, by simp, fun i hi => ?_⟩, ?_⟩
  · rw [Array.all_eq_true_iff_forall_mem]
    intro v hv
    obtain ⟨j, hj, rfl⟩ : ∃ j, j < 3 ∧ stp k A n c sd j = v := by simpa using hv
    exact stp_one k A n c sd j
  · have hi' : i < 3 := hi
    rw [List.getElem?_toArray, List.getElem?_map, List.getElem?_range hi']
    rfl
  · exact below_setRow ((Below.refl W.heap.size W).alloc (Nat.le_refl _) _) (Nat.le_refl _) _
theorem stM_ops {P : Program} {ops : Array Oper} {Q : Exit → Act → World → Prop} {N : Nat} {β : Nat → Nat} {T : TypeId → Option Ty} {n k i : Nat} {u v0 : Value} {l : List Nat} {a : Act} {w : World} {L : List Bl} {E : List (Nat × SV)} (hT : TabOk P T) (hA : Has N β E a) (hM : Mw β L w) (hst : stV T ops n (some E) = some (k, i, u)) (hv0 : bm L k i = some v0)
    (h : ∀ W, Mw β (bput L k i u) W → Fr [β k] w W → wpOps P ops Q l a W) : wpOps P ops Q (n :: l) a w := by
  obtain ⟨rfl, hM⟩ := hM
  obtain ⟨E', o, he, ho, hg, hd, hrun⟩ := stV_ok hst
  obtain rfl := Option.some.inj he
  unfold wpOps
  simp only [ho]
  rw [if_pos (want_ hg)]
  refine Or.inl ?_
  unfold Oper.wp
  rw [hrun a w hT hA ⟨_, (hM.at hv0).1⟩ (hM.at hv0).2, Oper.upon_skip, hd]
  exact h _ ⟨bg_put _ _ _ _, Mm.set u hM hv0⟩ ((Fr.refl [bg L k] w).set _ (by simp) u)
noncomputable def cLast : Code := match c7_loop with
  | .seq _ (.seq _ (.seq _ c)) => c
  | _ => .skip
set_option maxHeartbeats 8000000 in
set_option maxRecDepth 100000 in
theorem run_round (w W : World) (B g t sz n c q : Nat) (A : Option Addr) (ks : Nat → Int) (dl : Nat → List Int) (y : Nat → Int) (v : Value) (a : Act) (K : Act → World → Prop) (Q0 : Exit → Act → World → Prop) (hsz : sz = 8 ∨ sz = 16 ∨ sz = 32) (hq : q < n) (hn : n < 1048576) (hkk : okK sz (ks q)) (hl : (dl q).length < 1048576)
    (hS : StepsAt A n ks dl W) (hI : HInv w B g t sz y W v (runF sz y ks dl q).1 (runF sz y ks dl q).2) (h0 : Has 104 (bn []) [(8, .v v), (9, .v (.bool true)), (10, .v (.pointer (some ⟨t, 0, none⟩))), (11, .v (.bool true)), (12, .v (.iface (hU sz) (.pointer (some ⟨g, 0, none⟩)))), (29, .v (.slice A n c)), (30, .v (.int .i64 (n : Int))), (31, .v (.int .i64 (q : Int)))] a) (hQ : ∀ c (a a' : Act) w, a'.defers = a.defers → Q0 (.panic c) a w → Q0 (.panic c) a' w)
    (hK : ∀ a' W' v', Has 104 (bn []) [(8, .v v'), (9, .v (.bool true)), (10, .v (.pointer (some ⟨t, 0, none⟩))), (11, .v (.bool true)), (12, .v (.iface (hU sz) (.pointer (some ⟨g, 0, none⟩)))), (29, .v (.slice A n c)), (30, .v (.int .i64 (n : Int))), (31, .v (.int .i64 ((q + 1 : Nat) : Int)))] a' → a'.defers = a.defers → HInv w B g t sz y W' v' (runF sz y ks dl (q + 1)).1 (runF sz y ks dl (q + 1)).2 → K a' W') : Code.wp Tryd.prog c7_loop (Exit.then K Q0) a W := by
  have M0 : Mw (bn []) [] W := ⟨bg_bn _, trivial⟩
  obtain ⟨sb, so, rfl, A1, c1, sd, hcell, hc1, hC⟩ := hS q hq
  refine wp_seq ?_
  refine regM_seq (N := 104) (T := TD) (n := 1) (E2 := [(8, .v v), (9, .v (.bool true)), (10, .v (.pointer (some ⟨t, 0, none⟩))), (11, .v (.bool true)), (12, .v (.iface (hU sz) (.pointer (some ⟨g, 0, none⟩)))), (29, .v (.slice (some ⟨sb, so, none⟩) n c)), (30, .v (.int .i64 (n : Int))), (31, .v (.int .i64 (q : Int))), (32, .v (.bool (decide ((q : Int) < (n : Int)))))]) tabOkD h0 M0 rfl (by kernel_rfl) ⟨by kernel_rfl, by kernel_rfl, by kernel_rfl, by kernel_rfl, by kernel_rfl, by kernel_rfl, by kernel_rfl, by kernel_rfl, by kernel_rfl, trivial⟩ (fun a1 h1 d1 => ?_)
  show Code.wp _ _ _ _ _
  refine wp_seq ?_
  refine wp_cond_true ((h1.2 32 _ rfl).trans (congrArg Value.bool (decide_eq_true (by omega)))) (wp_skip ?_)
  show Code.wp _ _ _ _ _
  refine wp_seq ?_
  refine wp_block ?_
  refine wp_seq ?_
  refine wp_region ?_
  refine givenW_ops (N := 104) (i := 0) (d := 33) (s := .v (.pointer (some ⟨sb, so + q * 3, none⟩))) rfl (want_ rfl) rfl (by decide) h1 (op_indexT rfl (h1.2 29 _ rfl) (h1.2 31 _ rfl) Tryd.underlying29 Tryd.sizeOf33 hq) (fun a2 h2 d2 => ?_)
  refine givenW_ops (N := 104) (i := 1) (d := 34) (s := .v (.agg ((List.range 3).map (stp (ks q) A1 (dl q).length c1 sd)).toArray)) rfl (want_ rfl) rfl (by decide) h2 (op_arr rfl (h2.2 33 _ rfl) Tryd.isAgg33 Tryd.sizeOf33 hcell) (fun a3 h3 d3 => ?_)
  refine alloc_ops (N := 104) (i := 2) (d := 14) (l := [3]) rfl rfl rfl (by decide) h3 rfl allocOkS (fun a4 h4 d4 => ?_)
  obtain ⟨W1, hst, he, hb1⟩ := step_copy W (ks q) A1 (dl q).length c1 sd
  refine store_ops (N := 104) (i := 3) (l := []) (t := 33) rfl rfl rfl h4 (b := W.heap.size) (cs := ((List.range 3).map (stp (ks q) A1 (dl q).length c1 sd)).toArray) (y := .tmp 34) (x := .tmp 14) rfl (h4.2 14 _ rfl) (h4.2 34 _ rfl) hst ?_
  have hI1 := hI.keep hb1
  have hC1 := Kd.C_below hC hb1
  have h5 := has_list (β := bn [W.heap.size]) (a := a4) h4.1 (E := [(8, .v v), (9, .v (.bool true)), (10, .v (.pointer (some ⟨t, 0, none⟩))), (11, .v (.bool true)), (12, .v (.iface (hU sz) (.pointer (some ⟨g, 0, none⟩)))), (14, .p 0 0), (29, .v (.slice (some ⟨sb, so, none⟩) n c)), (30, .v (.int .i64 (n : Int))), (31, .v (.int .i64 (q : Int)))]) ⟨h4.2 8 _ rfl, h4.2 9 _ rfl, h4.2 10 _ rfl, h4.2 11 _ rfl, h4.2 12 _ rfl, h4.2 14 _ rfl, h4.2 29 _ rfl, h4.2 30 _ rfl, h4.2 31 _ rfl, trivial⟩
  replace d4 := d4.trans (d3.trans (d2.trans d1))
  have hBW : B ≤ W.heap.size := hI.BW
  clear h0 h1 h2 h3 h4 hst d1 d2 d3 hcell hC
  show Code.wp _ _ _ _ _
  have M1 : Mw (bn [W.heap.size]) [⟨W.heap.size, 33, 3, stp (ks q) A1 (dl q).length c1 sd⟩] W1 := ⟨bg_bn _, he, by simp, trivial⟩
  refine wp_seq ?_
  refine regM_seq (N := 104) (T := TD) (n := 2) (E2 := [(8, .v v), (9, .v (.bool true)), (10, .v (.pointer (some ⟨t, 0, none⟩))), (11, .v (.bool true)), (12, .v (.iface (hU sz) (.pointer (some ⟨g, 0, none⟩)))), (14, .p 0 0), (29, .v (.slice (some ⟨sb, so, none⟩) n c)), (30, .v (.int .i64 (n : Int))), (31, .v (.int .i64 (q : Int))), (36, .v (.int .u8 (ks q)))]) tabOkD h5 M1 rfl (by kernel_rfl) ⟨by kernel_rfl, by kernel_rfl, by kernel_rfl, by kernel_rfl, by kernel_rfl, by kernel_rfl, by kernel_rfl, by kernel_rfl, by kernel_rfl, by kernel_rfl, trivial⟩ (fun a6 h6 d6 => ?_)
  show Code.wp _ _ _ _ _
  replace d6 := d6.trans d4
  clear h5 d4
  refine wp_block ?_
  have fin : ∀ a' W' v', Has 104 (bn []) [(8, .v v'), (9, .v (.bool true)), (10, .v (.pointer (some ⟨t, 0, none⟩))), (11, .v (.bool true)), (12, .v (.iface (hU sz) (.pointer (some ⟨g, 0, none⟩)))), (29, .v (.slice (some ⟨sb, so, none⟩) n c)), (30, .v (.int .i64 (n : Int))), (31, .v (.int .i64 (q : Int)))] a' → a'.defers = a.defers → HInv w B g t sz y W' v' (runF sz y ks dl (q + 1)).1 (runF sz y ks dl (q + 1)).2 → Code.wp Tryd.prog cLast (Exit.then K Q0) a' W' := by
    intro a' W' v' h d hh
    have hw : IntKind.i64.wrap ((q : Int) + 1) = ((q + 1 : Nat) : Int) := by
      rw [i64_w]
      unfold wrap64
      omega
    have M9 : Mw (bn []) [] W' := ⟨bg_bn _, trivial⟩
    refine regM_seq (N := 104) (T := TD) (n := 2) (E2 := [(8, .v v'), (9, .v (.bool true)), (10, .v (.pointer (some ⟨t, 0, none⟩))), (11, .v (.bool true)), (12, .v (.iface (hU sz) (.pointer (some ⟨g, 0, none⟩)))), (29, .v (.slice (some ⟨sb, so, none⟩) n c)), (30, .v (.int .i64 (n : Int))), (31, .v (.int .i64 (IntKind.i64.wrap ((q : Int) + 1))))]) tabOkD h M9 rfl (by kernel_rfl) ⟨by kernel_rfl, by kernel_rfl, by kernel_rfl, by kernel_rfl, by kernel_rfl, by kernel_rfl, by kernel_rfl, by kernel_rfl, trivial⟩ (fun a9 h9 d9 => ?_)
    rw [hw] at h9
    exact hK a9 W' v' h9 (d9.trans d) hh
  have eq1 : runF sz y ks dl (q + 1) = stF sz y (ks q) (dl q) (runF sz y ks dl q) := rfl
  have hRl : (runF sz y ks dl q).2.length < 1048576 := Nat.lt_of_le_of_lt (runF_len sz y ks dl q) (by omega)
  rw [eq1] at fin
  clear eq1 hK
  generalize runF sz y ks dl q = p at hI hI1 fin hRl
  obtain ⟨L, R⟩ := p
  simp only at hI hI1 hRl
  have hQ2 : ∀ c (a a' : Act) w, a'.defers = a.defers → Exit.inBlock 2 (Exit.inBlock 1 (Exit.then (Code.wp Tryd.prog cLast (Exit.then K Q0)) (Exit.then K Q0))) (.panic c) a w → Exit.inBlock 2 (Exit.inBlock 1 (Exit.then (Code.wp Tryd.prog cLast (Exit.then K Q0)) (Exit.then K Q0))) (.panic c) a' w := fun c a a1 w hd h => hQ c a a1 w hd h
  have step : ∀ (p : List Int × List (List Int)), stF sz y (ks q) (dl q) (L, R) = p → ∀ a' W' v', Has 104 (bn []) [(8, .v v'), (9, .v (.bool true)), (10, .v (.pointer (some ⟨t, 0, none⟩))), (11, .v (.bool true)), (12, .v (.iface (hU sz) (.pointer (some ⟨g, 0, none⟩)))), (29, .v (.slice (some ⟨sb, so, none⟩) n c)), (30, .v (.int .i64 (n : Int))), (31, .v (.int .i64 (q : Int)))] a' → a'.defers = a6.defers → HInv w B g t sz y W' v' p.1 p.2 → W1.heap.size ≤ W'.heap.size → Exit.inBlock 2 (Exit.inBlock 1 (Exit.then (Code.wp Tryd.prog cLast (Exit.then K Q0)) (Exit.then K Q0))) .normal a' W' := by
    intro p hp a' W' v' h1 h2 h3 _
    rw [hp] at fin
    exact fin a' W' v' h1 (h2.trans d6) h3
  refine wp_seq ?_
  refine regM_seq (N := 104) (T := TD) (n := 2) (E2 := [(8, .v v), (9, .v (.bool true)), (10, .v (.pointer (some ⟨t, 0, none⟩))), (11, .v (.bool true)), (12, .v (.iface (hU sz) (.pointer (some ⟨g, 0, none⟩)))), (14, .p 0 0), (29, .v (.slice (some ⟨sb, so, none⟩) n c)), (30, .v (.int .i64 (n : Int))), (31, .v (.int .i64 (q : Int))), (36, .v (.int .u8 (ks q))), (37, .v (.bool (ks q == 0)))]) tabOkD h6 M1 rfl (by kernel_rfl) ⟨by kernel_rfl, by kernel_rfl, by kernel_rfl, by kernel_rfl, by kernel_rfl, by kernel_rfl, by kernel_rfl, by kernel_rfl, by kernel_rfl, by kernel_rfl, by kernel_rfl, trivial⟩ (fun a7 h7 d7 => ?_)
  show Code.wp _ _ _ _ _
  by_cases hk : ks q = 0
  · refine wp_cond_true ((h7.2 37 _ rfl).trans (congrArg Value.bool (beq_iff_eq.2 hk))) ?_
    exact run_k0 w W1 B g t sz W.heap.size n c q (some ⟨sb, so, none⟩) (ks q) sd A1 c1 (dl q) y v L R _ _ hsz hI1 he hBW hC1 hc1 hl (sub_ok (E := [(8, .v v), (9, .v (.bool true)), (10, .v (.pointer (some ⟨t, 0, none⟩))), (11, .v (.bool true)), (12, .v (.iface (hU sz) (.pointer (some ⟨g, 0, none⟩)))), (14, .p 0 0), (29, .v (.slice (some ⟨sb, so, none⟩) n c)), (30, .v (.int .i64 (n : Int))), (31, .v (.int .i64 (q : Int))), (36, .v (.int .u8 (ks q)))]) h7 ⟨by kernel_rfl, by kernel_rfl, by kernel_rfl, by kernel_rfl, by kernel_rfl, by kernel_rfl, by kernel_rfl, by kernel_rfl, by kernel_rfl, by kernel_rfl, trivial⟩) hQ2 (fun a' W' v' e1 e2 e3 e4 => step _ (by unfold stF; rw [if_pos hk]) a' W' v' e1 (e2.trans (d7)) e3 e4)
  refine wp_cond_false ((h7.2 37 _ rfl).trans (congrArg Value.bool (beq_eq_false_iff_ne.2 hk))) ?_
  have hne0 := hk
  clear hk
  refine wp_seq ?_
  refine regM_seq (N := 104) (T := TD) (n := 2) (E2 := [(8, .v v), (9, .v (.bool true)), (10, .v (.pointer (some ⟨t, 0, none⟩))), (11, .v (.bool true)), (12, .v (.iface (hU sz) (.pointer (some ⟨g, 0, none⟩)))), (14, .p 0 0), (29, .v (.slice (some ⟨sb, so, none⟩) n c)), (30, .v (.int .i64 (n : Int))), (31, .v (.int .i64 (q : Int))), (36, .v (.int .u8 (ks q))), (62, .v (.bool (ks q == 1)))]) tabOkD h7 M1 rfl (by kernel_rfl) ⟨by kernel_rfl, by kernel_rfl, by kernel_rfl, by kernel_rfl, by kernel_rfl, by kernel_rfl, by kernel_rfl, by kernel_rfl, by kernel_rfl, by kernel_rfl, by kernel_rfl, trivial⟩ (fun a8 h8 d8 => ?_)
  show Code.wp _ _ _ _ _
  by_cases hk : ks q = 1
  · refine wp_cond_true ((h8.2 62 _ rfl).trans (congrArg Value.bool (beq_iff_eq.2 hk))) ?_
    exact run_k1 w W1 B g t sz W.heap.size n c q (some ⟨sb, so, none⟩) (ks q) sd A1 c1 (dl q) y v L R _ _ hsz hI1 he hBW hC1 hc1 hl hRl (sub_ok (E := [(8, .v v), (9, .v (.bool true)), (10, .v (.pointer (some ⟨t, 0, none⟩))), (11, .v (.bool true)), (12, .v (.iface (hU sz) (.pointer (some ⟨g, 0, none⟩)))), (14, .p 0 0), (29, .v (.slice (some ⟨sb, so, none⟩) n c)), (30, .v (.int .i64 (n : Int))), (31, .v (.int .i64 (q : Int))), (36, .v (.int .u8 (ks q)))]) h8 ⟨by kernel_rfl, by kernel_rfl, by kernel_rfl, by kernel_rfl, by kernel_rfl, by kernel_rfl, by kernel_rfl, by kernel_rfl, by kernel_rfl, by kernel_rfl, trivial⟩) hQ2 (fun a' W' v' e1 e2 e3 e4 => step _ (by unfold stF; rw [if_neg (by omega), if_pos hk]) a' W' v' e1 (e2.trans (d8.trans (d7))) e3 e4)
  refine wp_cond_false ((h8.2 62 _ rfl).trans (congrArg Value.bool (beq_eq_false_iff_ne.2 hk))) ?_
  have hne1 := hk
  clear hk
  refine wp_seq ?_
  refine regM_seq (N := 104) (T := TD) (n := 2) (E2 := [(8, .v v), (9, .v (.bool true)), (10, .v (.pointer (some ⟨t, 0, none⟩))), (11, .v (.bool true)), (12, .v (.iface (hU sz) (.pointer (some ⟨g, 0, none⟩)))), (14, .p 0 0), (29, .v (.slice (some ⟨sb, so, none⟩) n c)), (30, .v (.int .i64 (n : Int))), (31, .v (.int .i64 (q : Int))), (36, .v (.int .u8 (ks q))), (76, .v (.bool (ks q == 2)))]) tabOkD h8 M1 rfl (by kernel_rfl) ⟨by kernel_rfl, by kernel_rfl, by kernel_rfl, by kernel_rfl, by kernel_rfl, by kernel_rfl, by kernel_rfl, by kernel_rfl, by kernel_rfl, by kernel_rfl, by kernel_rfl, trivial⟩ (fun a9 h9 d9 => ?_)
  show Code.wp _ _ _ _ _
  by_cases hk : ks q = 2
  · refine wp_cond_true ((h9.2 76 _ rfl).trans (congrArg Value.bool (beq_iff_eq.2 hk))) ?_
    exact run_k2 w W1 B g t sz W.heap.size n c q (some ⟨sb, so, none⟩) (ks q) sd A1 c1 (dl q) y v L R _ _ hsz hI1 he hBW (sub_ok (E := [(8, .v v), (9, .v (.bool true)), (10, .v (.pointer (some ⟨t, 0, none⟩))), (11, .v (.bool true)), (12, .v (.iface (hU sz) (.pointer (some ⟨g, 0, none⟩)))), (14, .p 0 0), (29, .v (.slice (some ⟨sb, so, none⟩) n c)), (30, .v (.int .i64 (n : Int))), (31, .v (.int .i64 (q : Int))), (36, .v (.int .u8 (ks q)))]) h9 ⟨by kernel_rfl, by kernel_rfl, by kernel_rfl, by kernel_rfl, by kernel_rfl, by kernel_rfl, by kernel_rfl, by kernel_rfl, by kernel_rfl, by kernel_rfl, trivial⟩) hQ2 (fun a' W' v' e1 e2 e3 e4 => step _ (by unfold stF; rw [if_neg (by omega), if_neg (by omega), if_pos hk]) a' W' v' e1 (e2.trans (d9.trans (d8.trans (d7)))) e3 e4)
  refine wp_cond_false ((h9.2 76 _ rfl).trans (congrArg Value.bool (beq_eq_false_iff_ne.2 hk))) ?_
  have hne2 := hk
  clear hk
  refine wp_seq ?_
  refine regM_seq (N := 104) (T := TD) (n := 2) (E2 := [(8, .v v), (9, .v (.bool true)), (10, .v (.pointer (some ⟨t, 0, none⟩))), (11, .v (.bool true)), (12, .v (.iface (hU sz) (.pointer (some ⟨g, 0, none⟩)))), (14, .p 0 0), (29, .v (.slice (some ⟨sb, so, none⟩) n c)), (30, .v (.int .i64 (n : Int))), (31, .v (.int .i64 (q : Int))), (36, .v (.int .u8 (ks q))), (80, .v (.bool (ks q == 3)))]) tabOkD h9 M1 rfl (by kernel_rfl) ⟨by kernel_rfl, by kernel_rfl, by kernel_rfl, by kernel_rfl, by kernel_rfl, by kernel_rfl, by kernel_rfl, by kernel_rfl, by kernel_rfl, by kernel_rfl, by kernel_rfl, trivial⟩ (fun a10 h10 d10 => ?_)
  show Code.wp _ _ _ _ _
  obtain ⟨hk, rfl⟩ : ks q = 3 ∧ sz = 8 := by
    rcases hkk with h | h | h | h
    · contradiction
    · contradiction
    · contradiction
    · exact h
  refine wp_cond_true ((h10.2 80 _ rfl).trans (congrArg Value.bool (beq_iff_eq.2 hk))) ?_
  exact run_k3 w W1 B g t W.heap.size n c q (some ⟨sb, so, none⟩) (ks q) sd A1 c1 (dl q) y v L R _ _ hI1 he hBW hRl (sub_ok (E := [(8, .v v), (9, .v (.bool true)), (10, .v (.pointer (some ⟨t, 0, none⟩))), (11, .v (.bool true)), (12, .v (.iface (hU 8) (.pointer (some ⟨g, 0, none⟩)))), (14, .p 0 0), (29, .v (.slice (some ⟨sb, so, none⟩) n c)), (30, .v (.int .i64 (n : Int))), (31, .v (.int .i64 (q : Int))), (36, .v (.int .u8 (ks q)))]) h10 ⟨by kernel_rfl, by kernel_rfl, by kernel_rfl, by kernel_rfl, by kernel_rfl, by kernel_rfl, by kernel_rfl, by kernel_rfl, by kernel_rfl, by kernel_rfl, trivial⟩) hQ2 (fun a' W' v' e1 e2 e3 e4 => step _ (by unfold stF; rw [if_neg (by omega), if_neg (by omega), if_neg (by omega)]) a' W' v' e1 (e2.trans (d10.trans (d9.trans (d8.trans (d7))))) e3 e4)
set_option maxHeartbeats 8000000 in
set_option maxRecDepth 100000 in
theorem results_run {a : Act} {W : World} {v b1 b2 : Value} {t : Nat} {m : Nat → Value} (h1 : a.eval (.tmp 8) = v) (h2 : a.eval (.tmp 9) = b1) (h3 : a.eval (.tmp 10) = .pointer (some ⟨t, 0, none⟩)) (h4 : a.eval (.tmp 11) = b2) (hb : (⟨t, 24, 2, m⟩ : Bl).In W) :
    (results Tryd.f7 a.tmps).run Tryd.prog W = .ok (.tuple #[v, b1, .agg #[m 0, m 1], b2]) W := by
  have c0 : W.cell? ⟨t, 0, none⟩ = some (m 0) := hb.cell 0 (show 0 < 2 by decide)
  have c1 : W.cell? ⟨t, 1, none⟩ = some (m 1) := hb.cell 1 (show 1 < 2 by decide)
  have e1 : a.tmps[8]?.getD undef = v := by rw [← Array.getD_eq_getD_getElem?]; exact h1
  have e2 : a.tmps[9]?.getD undef = b1 := by rw [← Array.getD_eq_getD_getElem?]; exact h2
  have e3 : a.tmps[10]?.getD undef = .pointer (some ⟨t, 0, none⟩) := by rw [← Array.getD_eq_getD_getElem?]; exact h3
  have e4 : a.tmps[11]?.getD undef = b2 := by rw [← Array.getD_eq_getD_getElem?]; exact h4
  have hr := Tryd.results7
  simp [results, hr, e1, e2, e3, e4, go_sem, Tryd.isAgg24, Tryd.sizeOf24, c0, c1]
set_option maxHeartbeats 8000000 in
set_option maxRecDepth 100000 in
theorem run_end (w W : World) (B g t sz : Nat) (y : Nat → Int) (v : Value) (L : List Int) (R : List (List Int)) (a : Act) (hsz : sz = 8 ∨ sz = 16 ∨ sz = 32) (hI : HInv w B g t sz y W v L R)
    (h0 : Has 104 (bn []) [(8, .v v), (9, .v (.bool true)), (10, .v (.pointer (some ⟨t, 0, none⟩))), (12, .v (.iface (hU sz) (.pointer (some ⟨g, 0, none⟩))))] a) (d0 : a.defers = []) : Code.wp Tryd.prog c7_end (bodyPost Tryd.prog Tryd.f7 fun e w' => ∃ v, e = .returned (.tuple #[v, .bool true, .agg #[.int .i64 (sz : Int), .int .i64 32], .bool true]) ∧ Kd.R KRows 22 w' w.heap.size (fun _ => True) v R ∧ Below w.heap.size w w') a W := by
  have h1 := has_list (β := bn [t]) (a := a) h0.1 (E := [(8, .v v), (9, .v (.bool true)), (10, .p 0 0), (12, .v (.iface (hU sz) (.pointer (some ⟨g, 0, none⟩))))]) ⟨h0.2 8 _ rfl, h0.2 9 _ rfl, h0.2 10 _ rfl, h0.2 12 _ rfl, trivial⟩
  obtain ⟨s, z, q6, hd6, hh6⟩ := hI.dig
  refine wp_seq ?_
  refine wp_region ?_
  refine opsP (N := 104) (T := TD) (M := fun _ _ => none) tabOkD (fun _ _ _ h => by cases h) [1, 2, 3, 4, 5, 6, 7] [0] [(8, .v v), (9, .v (.bool true)), (10, .p 0 0), (12, .v (.iface (hU sz) (.pointer (some ⟨g, 0, none⟩)))), (95, .v (.iface (hU sz) (.pointer (some ⟨g, 0, none⟩))))] h1 (by kernel_rfl) ⟨by kernel_rfl, by kernel_rfl, by kernel_rfl, by kernel_rfl, by kernel_rfl, trivial⟩ (fun a2 h2 d2 => ?_)
  refine meth_ops (N := 104) (i := 1) (d := 96) (f := 70) (nm := "Size") (t := hU sz) (u := .pointer (some ⟨g, 0, none⟩)) (u' := .pointer (some ⟨g, 0, none⟩)) (args := []) (l := [2, 3, 4, 5, 6, 7]) h2 (by kernel_rfl) Tryd.func70 rfl rfl (meth_Size sz hsz g) (fun v1 W1 => v1 = .int .i64 (sz : Int) ∧ Below W.heap.size W W1) ((size_walk g (hT sz) s y z q6 sz W hd6).mono fun e' W' hh => ⟨_, hh.1, rfl, hh.2⟩) (fun v3 W3 a3 hR3 h3 d3 => ?_)
  obtain ⟨rfl, hb3⟩ := hR3
  refine opsP (N := 104) (T := TD) (M := fun _ _ => none) tabOkD (fun _ _ _ h => by cases h) [3, 4, 5, 6, 7] [2] [(8, .v v), (9, .v (.bool true)), (10, .p 0 0), (12, .v (.iface (hU sz) (.pointer (some ⟨g, 0, none⟩)))), (96, .v (.int .i64 (sz : Int))), (97, .v (.iface (hU sz) (.pointer (some ⟨g, 0, none⟩))))] h3 (by kernel_rfl) ⟨by kernel_rfl, by kernel_rfl, by kernel_rfl, by kernel_rfl, by kernel_rfl, by kernel_rfl, trivial⟩ (fun a4 h4 d4 => ?_)
  refine meth_ops (N := 104) (i := 3) (d := 98) (f := 69) (nm := "BlockSize") (t := hU sz) (u := .pointer (some ⟨g, 0, none⟩)) (u' := .pointer (some ⟨g, 0, none⟩)) (args := []) (l := [4, 5, 6, 7]) h4 (by kernel_rfl) Tryd.func69 rfl rfl (meth_BlockSize sz hsz g) (fun v1 W1 => v1 = .int .i64 32 ∧ Below W3.heap.size W3 W1) ((block_walk _ W3).mono fun e' W' hh => ⟨_, hh.1, rfl, hh.2⟩) (fun v5 W5 a5 hR5 h5 d5 => ?_)
  obtain ⟨rfl, hb5⟩ := hR5
  have hI5 := (hI.keep hb3).keep hb5
  have M5 : Mw (bn [t]) [⟨t, 24, 2, (fun _ => .int .i64 0)⟩] W5 := ⟨bg_bn _, hI5.told, by simp, trivial⟩
  refine opsP (N := 104) (T := TD) (M := bm [⟨t, 24, 2, (fun _ => .int .i64 0)⟩]) tabOkD M5.mem [5, 6, 7] [4] [(8, .v v), (9, .v (.bool true)), (10, .p 0 0), (12, .v (.iface (hU sz) (.pointer (some ⟨g, 0, none⟩)))), (96, .v (.int .i64 (sz : Int))), (98, .v (.int .i64 32)), (99, .p 0 0)] h5 (by kernel_rfl) ⟨by kernel_rfl, by kernel_rfl, by kernel_rfl, by kernel_rfl, by kernel_rfl, by kernel_rfl, by kernel_rfl, trivial⟩ (fun a6 h6 d6 => ?_)
  refine stM_ops (N := 104) (T := TD) (n := 5) (k := 0) (i := 0) (u := .int .i64 (sz : Int)) (l := [6, 7]) tabOkD h6 M5 (by kernel_rfl) rfl (fun W7 M7 G7 => ?_)
  replace M7 : Mw (bn [t]) [⟨t, 24, 2, (upm (fun _ => .int .i64 0) 0 (.int .i64 (sz : Int)))⟩] W7 := M7
  refine opsP (N := 104) (T := TD) (M := bm [⟨t, 24, 2, (upm (fun _ => .int .i64 0) 0 (.int .i64 (sz : Int)))⟩]) tabOkD M7.mem [7] [6] [(8, .v v), (9, .v (.bool true)), (10, .p 0 0), (12, .v (.iface (hU sz) (.pointer (some ⟨g, 0, none⟩)))), (98, .v (.int .i64 32)), (100, .p 0 1)] h6 (by kernel_rfl) ⟨by kernel_rfl, by kernel_rfl, by kernel_rfl, by kernel_rfl, by kernel_rfl, by kernel_rfl, trivial⟩ (fun a8 h8 d8 => ?_)
  refine stM_ops (N := 104) (T := TD) (n := 7) (k := 0) (i := 1) (u := .int .i64 32) (l := []) tabOkD h8 M7 (by kernel_rfl) rfl (fun W9 M9 G9 => ?_)
  replace M9 : Mw (bn [t]) [⟨t, 24, 2, (upm (upm (fun _ => .int .i64 0) 0 (.int .i64 (sz : Int))) 1 (.int .i64 32))⟩] W9 := M9
  have h10 := sub_ok (E := [(8, .v v), (9, .v (.bool true)), (10, .p 0 0), (12, .v (.iface (hU sz) (.pointer (some ⟨g, 0, none⟩))))]) h8 ⟨by kernel_rfl, by kernel_rfl, by kernel_rfl, by kernel_rfl, trivial⟩
  have d10 := d8.trans (d6.trans (d5.trans (d4.trans (d3.trans (d2.trans d0)))))
  have G : Fr [t] W5 W9 := G7.trans G9
  have rows9 : Rows W9 B v R := hI5.rows.fr G (fun k hk => by simp at hk; subst hk; exact hI5.tB)
  have bel9 : Below w.heap.size w W9 := hI5.below.trans (G.below _ hI5.below.size (by simp; exact hI5.wt))
  clear h1 h2 h3 h4 h5 h6 h8 d2 d3 d4 d5 d6 d8 M5 M7 G7 G9 G
  show Code.wp _ _ _ _ _
  refine wp_seq ?_
  let SS : World → Prop := fun V => Mw (bn [t]) [⟨t, 24, 2, (upm (upm (fun _ => .int .i64 0) 0 (.int .i64 (sz : Int))) 1 (.int .i64 32))⟩] V
  have hSM : ∀ W, SS W → MemOk (bn [t]) (bm [⟨t, 24, 2, (upm (upm (fun _ => .int .i64 0) 0 (.int .i64 (sz : Int))) 1 (.int .i64 32))⟩]) W := fun _ h => h.mem
  refine start_ (S := SS) (ds := []) (n := 7) _ (by kernel_rfl) rfl rfl (show SS W9.drew from M9.drew) (fun hS0 => ?_)
  refine segP (S := SS) (T := TD) (M := bm [⟨t, 24, 2, (upm (upm (fun _ => .int .i64 0) 0 (.int .i64 (sz : Int))) 1 (.int .i64 32))⟩]) (N := 104) tabOkD hSM (fun _ _ _ _ hd h => And.intro (hd.trans (And.left h)) (And.right h)) hS0 [0, 1, 2, 3, 4] 2 [(8, .v v), (9, .v (.bool true)), (10, .p 0 0), (103, .v (.agg ((List.range 2).map (upm (upm (fun _ => .int .i64 0) 0 (.int .i64 (sz : Int))) 1 (.int .i64 32))).toArray))] h10 (by kernel_rfl) (by kernel_rfl) ⟨by kernel_rfl, by kernel_rfl, by kernel_rfl, by kernel_rfl, trivial⟩ (fun a11 h11 d11 => ?_)
  have hb9 := M9.2.get (k := 0) rfl
  obtain ⟨cs, k1, k2, k3⟩ := id hb9
  have k3' : ∀ i, i < 2 → cs[i]? = some ((upm (upm (fun _ => .int .i64 0) 0 (.int .i64 (sz : Int))) 1 (.int .i64 32)) i) := k3
  have hst : (storeVar 24 ⟨t, 0, none⟩ (.agg ((List.range 2).map (upm (upm (fun _ => .int .i64 0) 0 (.int .i64 (sz : Int))) 1 (.int .i64 32))).toArray)).run Tryd.prog W9.drew = .ok () (W9.drew.setRow t ((List.range 2).map (upm (upm (fun _ => .int .i64 0) 0 (.int .i64 (sz : Int))) 1 (.int .i64 32))).toArray) := run_storeVar_row _ _ _ _ cs _ k1 (by rw [List.size_toArray, List.length_map, List.length_range]; kernel_rfl) (by rw [k2]; simp) (by
    rw [Array.all_eq_true_iff_forall_mem]
    intro v hv
    obtain ⟨j, hj, rfl⟩ : ∃ j, j < 2 ∧ (upm (upm (fun _ => .int .i64 0) 0 (.int .i64 (sz : Int))) 1 (.int .i64 32)) j = v := by simpa using hv
    unfold upm
    split
    · rfl
    · split <;> rfl)
  have F12 : Fr [t] W9 (W9.drew.setRow t ((List.range 2).map (upm (upm (fun _ => .int .i64 0) 0 (.int .i64 (sz : Int))) 1 (.int .i64 32))).toArray) := ((Fr.refl [t] W9).drew).row t (by simp) _
  have hb12 : (⟨t, 24, 2, (upm (upm (fun _ => .int .i64 0) 0 (.int .i64 (sz : Int))) 1 (.int .i64 32))⟩ : Bl).In (W9.drew.setRow t ((List.range 2).map (upm (upm (fun _ => .int .i64 0) 0 (.int .i64 (sz : Int))) 1 (.int .i64 32))).toArray) := ⟨_, setRow_heap W9.drew t cs _ 24 (0, 0) k1, by simp, fun i hi => by
    have hi' : i < 2 := hi
    rw [List.getElem?_toArray, List.getElem?_map, List.getElem?_range hi']
    rfl⟩
  have hS12 : SS (W9.drew.setRow t ((List.range 2).map (upm (upm (fun _ => .int .i64 0) 0 (.int .i64 (sz : Int))) 1 (.int .i64 32))).toArray) := ⟨bg_bn _, hb12, by simp, trivial⟩
  refine stepS (S := SS) (j := 5) (w1 := W9.drew.setRow t ((List.range 2).map (upm (upm (fun _ => .int .i64 0) 0 (.int .i64 (sz : Int))) 1 (.int .i64 32))).toArray) rfl rfl rfl (by kernel_rfl) ?_ hS12 ?_
  · have e1 : a11.eval (.tmp 10) = .pointer (some ⟨t, 0, none⟩) := h11.2 10 _ rfl
    have e2 : a11.eval (.tmp 103) = .agg ((List.range 2).map (upm (upm (fun _ => .int .i64 0) 0 (.int .i64 (sz : Int))) 1 (.int .i64 32))).toArray := h11.2 103 _ rfl
    exact op_storeAgg rfl e1 e2 hst
  refine segP (S := SS) (T := TD) (M := bm [⟨t, 24, 2, (upm (upm (fun _ => .int .i64 0) 0 (.int .i64 (sz : Int))) 1 (.int .i64 32))⟩]) (N := 104) tabOkD hSM (fun _ _ _ _ hd h => And.intro (hd.trans (And.left h)) (And.right h)) hS12 [6] 0 [(8, .v v), (9, .v (.bool true)), (10, .p 0 0), (11, .v (.bool true))] h11 (by kernel_rfl) (by kernel_rfl) ⟨by kernel_rfl, by kernel_rfl, by kernel_rfl, by kernel_rfl, trivial⟩ (fun a13 h13 d13 => ?_)
  refine segE (by kernel_rfl) ?_
  show Code.wp _ _ _ _ _
  refine wp_ret ?_
  have rows13 := rows9.fr F12 (fun k hk => by simp at hk; subst hk; exact hI5.tB)
  refine ⟨d13.trans (d11.trans d10), _, results_run (h13.2 8 _ rfl) (h13.2 9 _ rfl) (h13.2 10 _ rfl) (h13.2 11 _ rfl) hb12, v, rfl, Kd.R_lower rows13 (by have := hI5.wg; have := hI5.gB; omega), bel9.trans (F12.below _ bel9.size (by simp; exact hI5.wt))⟩
set_option maxHeartbeats 8000000 in
set_option maxRecDepth 100000 in
theorem run_val (sz : Nat) (hsz : sz = 8 ∨ sz = 16 ∨ sz = 32) (d : Bool) (K : Option Addr) (kc : Nat) (lk : List Int) (A : Option Addr) (n c : Nat) (ks : Nat → Int) (dl : Nat → List Int) (w : World) (hC : Kd.C (Kd.int .u8) w K lk.length lk) (hkc : lk.length ≤ kc) (h32 : lk.length = 32)
    (hS : StepsAt A n ks dl w) (hk : ∀ i, i < n → okK sz (ks i)) (hl : ∀ i, i < n → (dl i).length < 1048576) (hn : n < 1048576) :
    Calls Tryd.prog 7 #[.int .i64 (sz : Int), .slice K lk.length kc, .bool d, .slice A n c] w fun e w' => ∃ v, e = .returned (.tuple #[v, .bool true, .agg #[.int .i64 (sz : Int), .int .i64 32], .bool true]) ∧ Kd.R KRows 22 w' w.heap.size (fun _ => True) v (runF sz (lx lk) ks dl n).2 ∧ Below w.heap.size w w' := by
  refine calls_of_wp Tryd.func7 rfl ?_
  have h0 : Has 104 (bn []) [(0, .v (.int .i64 (sz : Int))), (1, .v (.slice K lk.length kc)), (2, .v (.bool d)), (3, .v (.slice A n c))] ⟨#[.int .i64 (sz : Int), .slice K lk.length kc, .bool d, .slice A n c] ++ Array.replicate 100 undef, []⟩ := has_four (β := bn []) (.v _) (.v _) (.v _) (.v _) 100
  have d0 : (⟨#[.int .i64 (sz : Int), .slice K lk.length kc, .bool d, .slice A n c] ++ Array.replicate 100 undef, []⟩ : Act).defers = [] := rfl
  refine wp_seq ?_
  refine wp_region ?_
  refine opsP (N := 104) (T := TD) (M := fun _ _ => none) tabOkD (fun _ _ _ h => by cases h) [2, 3] [0, 1] [(0, .v (.int .i64 (sz : Int))), (1, .v (.slice K lk.length kc)), (2, .v (.bool d)), (3, .v (.slice A n c)), (8, .v (.slice none 0 0)), (9, .v (.bool false))] h0 (by kernel_rfl) ⟨by kernel_rfl, by kernel_rfl, by kernel_rfl, by kernel_rfl, by kernel_rfl, by kernel_rfl, trivial⟩ (fun a1 h1 d1 => ?_)
  refine alloc_ops (N := 104) (i := 2) (d := 10) (l := [3]) rfl rfl rfl (by decide) h1 rfl allocOkI (fun a2 h2 d2 => ?_)
  refine opsP (N := 104) (T := TD) (M := fun _ _ => none) tabOkD (fun _ _ _ h => by cases h) [] [3] [(0, .v (.int .i64 (sz : Int))), (1, .v (.slice K lk.length kc)), (2, .v (.bool d)), (3, .v (.slice A n c)), (8, .v (.slice none 0 0)), (9, .v (.bool false)), (10, .v (.pointer (some ⟨w.heap.size, 0, none⟩))), (11, .v (.bool false))] h2 (by kernel_rfl) ⟨by kernel_rfl, by kernel_rfl, by kernel_rfl, by kernel_rfl, by kernel_rfl, by kernel_rfl, by kernel_rfl, by kernel_rfl, trivial⟩ (fun a3 h3 d3 => ?_)
  have hb1 : Below w.heap.size w (w.alloc (.cells #[.int .i64 0, .int .i64 0] 24)) := (Below.refl _ _).alloc (Nat.le_refl _) _
  have ht1 : (⟨w.heap.size, 24, 2, fun _ => .int .i64 0⟩ : Bl).In (w.alloc (.cells #[.int .i64 0, .int .i64 0] 24)) := bl_rep0 w 2 (.int .i64 0) 24
  replace d3 := d3.trans (d2.trans (d1.trans d0))
  clear h0 h1 h2 d0 d1 d2
  show Code.wp _ _ _ _ _
  have lt1 : w.heap.size < (w.alloc (.cells #[.int .i64 0, .int .i64 0] 24)).heap.size := ht1.lt
  generalize w.alloc (.cells #[.int .i64 0, .int .i64 0] 24) = W1 at hb1 ht1 lt1 ⊢
  refine wp_seq ?_
  refine wp_region ?_
  refine opsP (N := 104) (T := TD) (M := fun _ _ => none) tabOkD (fun _ _ _ h => by cases h) [3, 4, 5, 6, 7, 8] [0, 1, 2] [(0, .v (.int .i64 (sz : Int))), (1, .v (.slice K lk.length kc)), (2, .v (.bool d)), (3, .v (.slice A n c)), (8, .v (.slice none 0 0)), (9, .v (.bool false)), (10, .v (.pointer (some ⟨w.heap.size, 0, none⟩))), (11, .v (.bool false)), (20, .v (.int .i64 (sz : Int))), (21, .v (.slice K lk.length kc)), (22, .v (.bool d))] h3 (by kernel_rfl) ⟨by kernel_rfl, by kernel_rfl, by kernel_rfl, by kernel_rfl, by kernel_rfl, by kernel_rfl, by kernel_rfl, by kernel_rfl, by kernel_rfl, by kernel_rfl, by kernel_rfl, trivial⟩ (fun a4 h4 d4 => ?_)
  refine call_ops (N := 104) (i := 3) (d := 23) (f := 15) (args := [.v (.int .i64 (sz : Int)), .v (.slice K lk.length kc), .v (.bool d)]) (l := [4, 5, 6, 7, 8]) rfl rfl rfl (by decide) h4 Tryd.func15 rfl rfl rfl (by kernel_rfl) (fun v1 W2 => ∃ g, v1 = .tuple #[.iface (hU sz) (.pointer (some ⟨g, 0, none⟩)), .bool true] ∧ (Dig g (hT sz) (ini (keyN (lx lk))) (lx lk) nz 0 sz).In W2 ∧ W1.heap.size ≤ g ∧ Below W1.heap.size W1 W2) ((highway_val sz hsz d K kc lk W1 (Kd.C_below hC hb1) hkc h32).mono fun e' W' hh => ?_) (fun v5 W2 a5 hR5 h5 d5 => ?_)
  · obtain ⟨g, e1, e2⟩ := hh
    exact ⟨_, e1, g, rfl, e2⟩
  obtain ⟨g, rfl, hd2, hg2, hb2⟩ := hR5
  refine opsP (N := 104) (T := TD) (M := fun _ _ => none) tabOkD (fun _ _ _ h => by cases h) [] [4, 5, 6, 7, 8] [(3, .v (.slice A n c)), (8, .v (.slice none 0 0)), (9, .v (.bool false)), (10, .v (.pointer (some ⟨w.heap.size, 0, none⟩))), (11, .v (.bool true)), (12, .v (.iface (hU sz) (.pointer (some ⟨g, 0, none⟩))))] h5 (by kernel_rfl) ⟨by kernel_rfl, by kernel_rfl, by kernel_rfl, by kernel_rfl, by kernel_rfl, by kernel_rfl, trivial⟩ (fun a6 h6 d6 => ?_)
  have hb2' : Below w.heap.size w W2 := hb1.trans (hb2.mono hb1.size)
  have ht2 : (⟨w.heap.size, 24, 2, fun _ => .int .i64 0⟩ : Bl).In W2 := ht1.below hb2 lt1
  have lg2 : g < W2.heap.size := hd2.lt
  have lt2 : w.heap.size < W2.heap.size := ht2.lt
  have hI : HInv w W2.heap.size g w.heap.size sz (lx lk) W2 (.slice none 0 0) [] [] := ⟨⟨_, _, _, hd2, holdL_nil _ _⟩, ht2, Kd.R_nil _ _ _ _ _, hb2', lg2, lt2, by omega, Nat.le_refl _, by omega, Nat.le_refl _⟩
  replace d6 := d6.trans (d5.trans (d4.trans d3))
  clear h3 h4 h5 d3 d4 d5 hd2 ht1 ht2 hb1 hb2
  show Code.wp _ _ _ _ _
  have M2 : Mw (bn []) [] W2 := ⟨bg_bn _, trivial⟩
  refine wp_seq ?_
  refine wp_seq ?_
  refine wp_region ?_
  refine opsP (N := 104) (T := TD) (M := fun _ _ => none) tabOkD (fun _ _ _ h => by cases h) [1] [0] [(3, .v (.slice A n c)), (8, .v (.slice none 0 0)), (9, .v (.bool false)), (10, .v (.pointer (some ⟨w.heap.size, 0, none⟩))), (11, .v (.bool true)), (12, .v (.iface (hU sz) (.pointer (some ⟨g, 0, none⟩)))), (26, .v (.bool true))] h6 (by kernel_rfl) ⟨by kernel_rfl, by kernel_rfl, by kernel_rfl, by kernel_rfl, by kernel_rfl, by kernel_rfl, by kernel_rfl, trivial⟩ (fun a7 h7 d7 => ?_)
  refine givenW_ops (N := 104) (i := 1) (d := 27) (s := .v (.bool false)) rfl (want_ rfl) rfl (by decide) h7 (op_not rfl (h7.2 26 _ rfl)) (fun a8 h8 d8 => ?_)
  show Code.wp _ _ _ _ _
  refine wp_cond_false (h8.2 27 _ rfl) (wp_skip ?_)
  show Code.wp _ _ _ _ _
  have h9 := sub_ok (E := [(3, .v (.slice A n c)), (8, .v (.slice none 0 0)), (9, .v (.bool false)), (10, .v (.pointer (some ⟨w.heap.size, 0, none⟩))), (11, .v (.bool true)), (12, .v (.iface (hU sz) (.pointer (some ⟨g, 0, none⟩))))]) h8 ⟨by kernel_rfl, by kernel_rfl, by kernel_rfl, by kernel_rfl, by kernel_rfl, by kernel_rfl, trivial⟩
  replace d8 := d8.trans (d7.trans d6)
  refine wp_seq ?_
  refine regM_seq (N := 104) (T := TD) (n := 1) (E2 := [(3, .v (.slice A n c)), (8, .v (.slice none 0 0)), (9, .v (.bool true)), (10, .v (.pointer (some ⟨w.heap.size, 0, none⟩))), (11, .v (.bool true)), (12, .v (.iface (hU sz) (.pointer (some ⟨g, 0, none⟩))))]) tabOkD h9 M2 rfl (by kernel_rfl) ⟨by kernel_rfl, by kernel_rfl, by kernel_rfl, by kernel_rfl, by kernel_rfl, by kernel_rfl, trivial⟩ (fun a10 h10 d10 => ?_)
  show Code.wp _ _ _ _ _
  refine wp_seq ?_
  refine wp_seq ?_
  refine wp_region ?_
  refine opsP (N := 104) (T := TD) (M := fun _ _ => none) tabOkD (fun _ _ _ h => by cases h) [1, 2] [0] [(3, .v (.slice A n c)), (8, .v (.slice none 0 0)), (9, .v (.bool true)), (10, .v (.pointer (some ⟨w.heap.size, 0, none⟩))), (11, .v (.bool true)), (12, .v (.iface (hU sz) (.pointer (some ⟨g, 0, none⟩)))), (29, .v (.slice A n c))] h10 (by kernel_rfl) ⟨by kernel_rfl, by kernel_rfl, by kernel_rfl, by kernel_rfl, by kernel_rfl, by kernel_rfl, by kernel_rfl, trivial⟩ (fun a11 h11 d11 => ?_)
  refine givenW_ops (N := 104) (i := 1) (d := 30) (s := .v (.int .i64 (n : Int))) rfl (want_ rfl) rfl (by decide) h11 (op_len rfl Tryd.underlying29 (h11.2 29 _ rfl)) (fun a12 h12 d12 => ?_)
  refine opsP (N := 104) (T := TD) (M := fun _ _ => none) tabOkD (fun _ _ _ h => by cases h) [] [2] [(8, .v (.slice none 0 0)), (9, .v (.bool true)), (10, .v (.pointer (some ⟨w.heap.size, 0, none⟩))), (11, .v (.bool true)), (12, .v (.iface (hU sz) (.pointer (some ⟨g, 0, none⟩)))), (29, .v (.slice A n c)), (30, .v (.int .i64 (n : Int))), (31, .v (.int .i64 ((0 : Nat) : Int)))] h12 (by kernel_rfl) ⟨by kernel_rfl, by kernel_rfl, by kernel_rfl, by kernel_rfl, by kernel_rfl, by kernel_rfl, by kernel_rfl, by kernel_rfl, trivial⟩ (fun a13 h13 d13 => ?_)
  replace d13 := d13.trans (d12.trans (d11.trans (d10.trans d8)))
  clear h6 h7 h8 h9 h10 h11 h12 d6 d7 d8 d10 d11 d12
  show Code.wp _ _ _ _ _
  generalize hB : W2.heap.size = B at hI
  refine wp_block ?_
  refine wp_loop (fun a wr => ∃ (q : Nat) (v : Value), q ≤ n ∧ Has 104 (bn []) [(8, .v v), (9, .v (.bool true)), (10, .v (.pointer (some ⟨w.heap.size, 0, none⟩))), (11, .v (.bool true)), (12, .v (.iface (hU sz) (.pointer (some ⟨g, 0, none⟩)))), (29, .v (.slice A n c)), (30, .v (.int .i64 (n : Int))), (31, .v (.int .i64 (q : Int)))] a ∧ a.defers = [] ∧ HInv w B g w.heap.size sz (lx lk) wr v (runF sz (lx lk) ks dl q).1 (runF sz (lx lk) ks dl q).2) (fun a _ => n - (intOf (a.eval (.tmp 31))).toNat) ⟨0, _, Nat.zero_le _, h13, d13, hI⟩ ?_
  rintro a wr ⟨q, v, hq, hH, hd, hI⟩
  clear h13 d13 M2
  by_cases hlt : q < n
  · refine run_round w wr B g w.heap.size sz n c q A ks dl (lx lk) v a _ _ hsz hlt hn (hk q hlt) (hl q hlt) (hS.onB hI.below) hI hH (fun _ _ _ _ hd h => And.intro (hd.trans (And.left h)) (And.right h)) (fun a' W' v' h1 h2 h3 => ?_)
    refine ⟨⟨q + 1, v', hlt, h1, h2.trans hd, h3⟩, ?_⟩
    have e1 : a'.eval (.tmp 31) = .int .i64 ((q + 1 : Nat) : Int) := h1.2 31 _ rfl
    have e2 : a.eval (.tmp 31) = .int .i64 (q : Int) := hH.2 31 _ rfl
    rw [e1, e2]
    simp only [intOf]
    omega
  · obtain rfl : q = n := by omega
    have M0 : Mw (bn []) [] wr := ⟨bg_bn _, trivial⟩
    refine wp_seq ?_
    refine regM_seq (N := 104) (T := TD) (n := 1) (E2 := [(8, .v v), (9, .v (.bool true)), (10, .v (.pointer (some ⟨w.heap.size, 0, none⟩))), (12, .v (.iface (hU sz) (.pointer (some ⟨g, 0, none⟩)))), (32, .v (.bool (decide ((q : Int) < (q : Int)))))]) tabOkD hH M0 rfl (by kernel_rfl) ⟨by kernel_rfl, by kernel_rfl, by kernel_rfl, by kernel_rfl, by kernel_rfl, trivial⟩ (fun a1 h1 d1 => ?_)
    show Code.wp _ _ _ _ _
    refine wp_seq ?_
    refine wp_cond_false ((h1.2 32 _ rfl).trans (congrArg Value.bool (decide_eq_false (by omega)))) (wp_exit ?_)
    refine then_exit (then_exit (exit_in ?_))
    show Code.wp _ _ _ _ _
    exact run_end w wr B g w.heap.size sz (lx lk) v _ _ a1 hsz hI (sub_ok (E := [(8, .v v), (9, .v (.bool true)), (10, .v (.pointer (some ⟨w.heap.size, 0, none⟩))), (12, .v (.iface (hU sz) (.pointer (some ⟨g, 0, none⟩))))]) h1 ⟨by kernel_rfl, by kernel_rfl, by kernel_rfl, by kernel_rfl, trivial⟩) (d1.trans hd)
end Go.Proofs.YtnehminojlocoaaDoor.PAll
namespace Go.Proofs.YtnehminojlocoaaDoor.PAll
open Go.RowKit Go.Proofs.YtnehminojlocoaaDoorW.PrintWords Go.Proofs.YtnehminojlocoaaDoorW.PrintLast Go.Proofs.YtnehminojlocoaaDoorW.PrintMore
set_option linter.unusedVariables false
set_option linter.unusedSimpArgs false
section
variable {P : Program} {ops : Array Oper} {Q : Exit → Act → World → Prop} {N : Nat} {β : Nat → Nat}
/-- An operation whose guard is not met. -/
theorem skip_ops {i d j dj : Nat} {b b' : Bool} {o : Oper} {l : List Nat} {a : Act} {w : World} {E : List (Nat × SV)} (ho : ops[i]? = some o) (hg : o.guard = some (j, b)) (hj : (ops[j]?).bind (·.dst) = some dj) (hb : look E dj = some (.v (.bool b'))) (hne : b' ≠ b) (hd : o.dst = some d) (hN : d < N) (hA : Has N β E a)
    (h : ∀ a', Has N β ((d, .v undef) :: E) a' → a'.defers = a.defers → wpOps P ops Q l a' w) : wpOps P ops Q (i :: l) a w := by
  have h1 : a.eval (.tmp dj) = .bool b' := hA.2 dj _ hb
  have h2 : a.tmps[dj]? = some (.bool b') := by
    simp only [Act.eval] at h1
    rw [Array.getD_eq_getD_getElem?] at h1
    cases h3 : a.tmps[dj]? with
    | none =>
      rw [h3] at h1
      cases h1
    | some v =>
      rw [h3] at h1
      exact congrArg some h1
  have hw : Region.wanted o (yielded ops a.tmps) = false := by
    unfold Region.wanted yielded
    simp [hg, hj, h2, hne]
  unfold wpOps
  simp only [ho]
  rw [if_neg (by rw [hw]; decide), hd]
  exact h _ (hA.put d hN (.v undef)) rfl
/-- A call whose guard is met. -/
theorem callW_ops {i d f : Nat} {o : Oper} {fn : Func} {xs0 : Array Operand} {ts : Array TypeId} {args : List SV} {l : List Nat} {a : Act} {w : World} {E : List (Nat × SV)} (ho : ops[i]? = some o) (hw : Region.wanted o (yielded ops a.tmps) = true) (hd : o.dst = some d) (hN : d < N) (hA : Has N β E a) (hf : P.funcs[f]? = some fn) (hname : (fn.name == "runtime.NumGoroutine") = false) (hb : fn.body.isSome = true)
    (hop : o.op = .call { callee := .value (.func f), args := xs0, argTypes := ts }) (hargs : argL E xs0.toList = some args) (R : Value → World → Prop) (hC : Calls P f (args.map (SV.den β)).toArray w fun e w' => ∃ v, e = .returned v ∧ R v w')
    (h : ∀ v w' a', R v w' → Has N β ((d, .v v) :: E) a' → a'.defers = a.defers → wpOps P ops Q l a' w') : wpOps P ops Q (i :: l) a w := by
  have key := goes_ (P := P) (ops := ops) (Q := Q) (K := wpOps P ops Q l) (N := some d) (a := a) (w := w) hf hname hb (args.map (SV.den β)).toArray hw hd hop (by rw [← argL_ok hA hargs, ← Array.toList_map, Array.toArray_toList]) (hC.mono fun e w' hh => by
    obtain ⟨v, rfl, hr⟩ := hh
    exact ⟨v, rfl, h v w' _ hr (hA.put d hN (.v v)) rfl⟩)
  unfold wpOps
  simp only [ho]
  rw [if_pos hw] at key ⊢
  exact Or.inl key
section
variable {ρ : Operand → Value} {o : Oper} {W : World}
theorem op_rem2 {t t2 : TypeId} {x : Operand} {n : Nat} (ho : o.op = .binOp .rem t x (.const (.int .i64 2)) t2) (hx : ρ x = .int .i64 (n : Int)) (hc : ρ (.const (.int .i64 2)) = .int .i64 2) (h : ∀ w, (binOp .rem t (.int .i64 (n : Int)) (.int .i64 2)).run P w = .ok (.int .i64 (Int.tmod (n : Int) 2)) w) : (execOp ρ o).run P W = .ok (.value (.int .i64 (Int.tmod (n : Int) 2))) W := by
  exact op_bin ho hx hc h
end
end
theorem rem2 (t : TypeId) (n : Nat) (w : World) : (binOp .rem t (.int .i64 (n : Int)) (.int .i64 2)).run Tryd.prog w = .ok (.int .i64 (Int.tmod (n : Int) 2)) w := by
  simp [go_sem, binOp, Op.intArith]
/-- A step in cells, its data wherever they lie. -/
abbrev KSl : Kd (Option Addr × Nat × Nat) := Kd.scalar (fun p => Value.slice p.1 p.2.1 p.2.2) (fun _ => rfl)
abbrev KStep : Kd (Int × (Option Addr × Nat × Nat) × Int) := Kd.pair (Kd.int .u8) (Kd.pair KSl (Kd.int .u64))
def StepR (W : World) (B : Nat) (v : Value) (S : List (Int × (Option Addr × Nat × Nat) × Int)) : Prop := Kd.R KStep 33 W B (fun _ => True) v S
def TextR (W : World) (B : Nat) (v : Value) (L : List Int) : Prop := Kd.R (Kd.int .u8) 5 W B (fun _ => True) v L
/-- A row of other elements has grown. -/
theorem grown_typed {α β : Type} {d : Kd α} {d' : Kd β} {e e' : Nat} {W w1 : World} {B B' : Nat} {v v' : Value} {xs : List α} {ys : List β} (h : d.R e W B (fun _ => True) v xs) (h' : d'.R e' W B' (fun _ => True) v' ys) (hg : W.grownBy w1 v'.ownBlock) (ht : ∀ q, q ∈ e :: d.E → q ≠ e') : d.R e w1 B (fun _ => True) v xs := by
  refine Kd.R_mono (Kd.R_grown (Kd.R_bound h) hg (fun k hk => ?_)) (fun _ _ => trivial)
  intro ek
  obtain ⟨_, _, _, q, hq, cells, hc⟩ := hk
  obtain ⟨cells', hc'⟩ := Kd.R_typed h' k ek.symm
  rw [hc'] at hc
  injection hc with hc
  injection hc with _ hc
  exact ht q hq hc.symm
/-- A row that was there, read again in a later world. -/
theorem sz_law (a : Int) (h : 0 ≤ a) : ∃ z : Nat, laws_hashSize.f a = some (z : Int) ∧ (z = 8 ∨ z = 16 ∨ z = 32) := by
  have e : Int.tmod a 3 = a % 3 := Int.tmod_eq_emod_of_nonneg h
  unfold laws_hashSize.f
  rw [e, if_pos (by omega)]
  rcases (by omega : a % 3 = 0 ∨ a % 3 = 1 ∨ a % 3 = 2) with h | h | h
  all_goals rw [h]
  · exact ⟨8, by decide, Or.inl rfl⟩
  · exact ⟨16, by decide, Or.inr (Or.inl rfl)⟩
  · exact ⟨32, by decide, Or.inr (Or.inr rfl)⟩
theorem same_stp (l : List Int) (hl : l.length < 9223372036854775807) : ∀ (n i : Nat), i + n = l.length → spec_SameBytes.l0 (n + 1) l l (l.length : Int) (i : Int) = some true
  | 0, i, h => by
    unfold spec_SameBytes.l0
    rw [if_neg (by omega)]
  | n + 1, i, h => by
    unfold spec_SameBytes.l0
    have e : wrap64 ((i : Int) + 1) = ((i + 1 : Nat) : Int) := by
      unfold wrap64
      omega
    rw [if_pos (by omega), if_pos (by omega), if_pos (by omega), if_pos (by omega), if_pos rfl, e]
    exact same_stp l hl n (i + 1) (by omega)
theorem same_self (l : List Int) (hl : l.length < 9223372036854775807) : spec_SameBytes.f (l.length + 1) l l = some true := by
  unfold spec_SameBytes.f
  rw [if_pos rfl]
  exact same_stp l hl l.length 0 (by omega)
/-- zzFits3, zzFits1 answer something. -/
theorem fits3_step (pl : List (List Int)) (hl : pl.length ≤ 9223372036854775807) : ∀ (n i : Nat), i + n = pl.length → ∃ r, laws_zzFits3.l0 (n + 1) pl (pl.length : Int) (i : Int) = some r
  | 0, i, h => by
    unfold laws_zzFits3.l0
    rw [if_neg (by omega)]
    exact ⟨_, rfl⟩
  | n + 1, i, h => by
    unfold laws_zzFits3.l0
    have e : wrap64 ((i : Int) + 1) = ((i + 1 : Nat) : Int) := by
      unfold wrap64
      omega
    rw [if_pos (by omega), if_pos (by omega), if_pos (by omega), e]
    split
    · exact ⟨_, rfl⟩
    · exact fits3_step pl hl n (i + 1) (by omega)
theorem fits3_some (pl : List (List Int)) (hl : pl.length ≤ 9223372036854775807) : ∃ k r, laws_zzFits3.f k pl = some r := by
  refine ⟨pl.length + 1, ?_⟩
  unfold laws_zzFits3.f
  split
  · exact ⟨_, rfl⟩
  · exact fits3_step pl hl pl.length 0 (by omega)
/-- impl.HighwaySum with a good key. -/
theorem hs_val (sz : Nat) (hsz : sz = 8 ∨ sz = 16 ∨ sz = 32) (A K : Option Addr) (c kc : Nat) (l0 l1 : List Int) (w : World) (hr0 : Kd.C (Kd.int .u8) w A l0.length l0) (hc0 : l0.length ≤ c) (hr1 : Kd.C (Kd.int .u8) w K l1.length l1) (hc1 : l1.length ≤ kc) (hm : l0.length < 140737488355328) (hk : l1.length = 32) :
    Calls Tryd.prog 14 #[.int .i64 (sz : Int), .slice K l1.length kc, .slice A l0.length c] w fun e w' => ∃ v, e = .returned (.tuple #[v, .bool true]) ∧ Wrote w (sumS (sz : Int) (hvS (lx l1) (lx l0) l0.length)) v w' := by
  rcases hsz with rfl | rfl | rfl
  · exact hs8_yes A K c kc l0 l1 w hr0 hc0 hr1 hc1 hm hk
  · exact hs16_yes A K c kc l0 l1 w hr0 hc0 hr1 hc1 hm hk
  · exact hs32_yes A K c kc l0 l1 w hr0 hc0 hr1 hc1 hm hk
/-- The element q of a row of rows. -/
theorem piece_at {w : World} {A : Option Addr} {pl : List (List Int)} (hP : Kd.C KRows w A pl.length pl) (q : Nat) (p : List Int) (hq : pl[q]? = some p) : ∃ sb so A1 c1, A = some ⟨sb, so, none⟩ ∧ w.cell? ⟨sb, so + q * 1, none⟩ = some (.slice A1 p.length c1) ∧ p.length ≤ c1 ∧ Kd.C (Kd.int .u8) w A1 p.length p := by
  have hlt : q < pl.length := (List.getElem?_eq_some_iff.1 hq).1
  obtain ⟨ad, rfl, hc⟩ := hP.2.2 (by omega)
  obtain ⟨cs, h1, ⟨A1, c1, rfl, h2, h3⟩, h4⟩ := hc q p hq
  have h5 : w.cell? (ad.add (q * 1 + 0)) = some (.slice A1 p.length c1) := h4 0 _ rfl
  obtain ⟨cs0, _, ⟨A0, c0, rfl, _, _⟩, h6⟩ := hc 0 (pl[0]'(by omega)) (List.getElem?_eq_getElem (by omega))
  have h7 : w.cell? (ad.add (0 * 1 + 0)) = _ := h6 0 _ rfl
  have hs : ad.spot = none := cell_spot (a := ad) h7
  obtain ⟨b, o, sp⟩ := ad
  obtain rfl : sp = none := hs
  rw [addr_add] at h5
  exact ⟨b, o, A1, c1, rfl, h5, h2, h3⟩
theorem build_stp (W : World) (k sd : Int) (A : Option Addr) (n c : Nat) : (Instr.buildSlice 29 1 #[(0, .agg #[.int .u8 k, .slice A n c, .int .u64 sd])]).run Tryd.prog W = .ok (.slice (some ⟨W.heap.size, 0, none⟩) 1 1) (W.alloc (.cells #[.int .u8 k, .slice A n c, .int .u64 sd] 33)) := by
  cases hq : Tryd.prog.info? 33 with
  | none => exact absurd (show (Tryd.prog.info? 33).isSome = true by kernel_rfl) (by simp [hq])
  | some ie =>
    have h1 : (Tryd.prog.info? 33).map (fun i => (i.zero, i.size)) = some (some (.agg #[.int .u8 0, .slice none 0 0, .int .u64 0]), 3) := by kernel_rfl
    rw [hq] at h1
    simp only [Option.map_some, Option.some.injEq, Prod.mk.injEq] at h1
    obtain ⟨hz, hs⟩ := h1
    refine run_buildSlice W _ _ 1 _ _ ie _ Tryd.underlying29 hq hz (by rw [hs]; decide) (by rw [hs]; decide) ?_
    rw [hs]
    kernel_rfl
/-- A step that was just made, as the one element of a row. -/
theorem one_stp {W : World} {B : Nat} (k sd : Int) (A : Option Addr) (n c : Nat) : ReadsRow (KStep.M (W.alloc (.cells #[.int .u8 k, .slice A n c, .int .u64 sd] 33)) B (fun _ => False)) 3 (W.alloc (.cells #[.int .u8 k, .slice A n c, .int .u64 sd] 33)) (some ⟨W.heap.size, 0, none⟩) 1 [(k, (A, n, c), sd)] := by
  refine ⟨rfl, by decide, fun _ => ⟨_, rfl, fun j p hp => ?_⟩⟩
  cases j with
  | succ j => simp at hp
  | zero =>
    obtain rfl : (k, (A, n, c), sd) = p := by simpa using hp
    refine ⟨[.int .u8 k, .slice A n c, .int .u64 sd], rfl, ⟨[.int .u8 k], [.slice A n c, .int .u64 sd], rfl, rfl, ⟨[.slice A n c], [.int .u64 sd], rfl, rfl, rfl⟩⟩, fun i u hu => ?_⟩
    have hi : i < 3 := (List.getElem?_eq_some_iff.1 hu).1
    show (W.alloc _).cell? (Addr.add ⟨W.heap.size, 0, none⟩ (0 * 3 + i)) = _
    rw [addr_add, blk_cell (MapKept.heap_alloc W _).1]
    match i, hi with
    | 0, _ => exact hu
    | 1, _ => exact hu
    | 2, _ => exact hu
/-- The steps of a row, in memory. -/
theorem steps_at {W : World} {B : Nat} {v : Value} {S : List (Int × (Option Addr × Nat × Nat) × Int)} (h : StepR W B v S) : ∃ A c, v = .slice A S.length c ∧ ∀ i x, S[i]? = some x → ∃ sb so, A = some ⟨sb, so, none⟩ ∧ ∀ j, j < 3 → W.cell? ⟨sb, so + i * 3 + j, none⟩ = some (stp x.1 x.2.1.1 x.2.1.2.1 x.2.1.2.2 x.2.2 j) := by
  obtain ⟨A, c, rfl, hc, hC⟩ := Kd.R_reads h
  refine ⟨A, c, rfl, fun i x hi => ?_⟩
  have hlt : i < S.length := (List.getElem?_eq_some_iff.1 hi).1
  obtain ⟨ad, rfl, hr⟩ := hC.2.2 (by omega)
  have each : ∀ i x, S[i]? = some x → ∀ j, j < 3 → W.cell? (ad.add (i * 3 + j)) = some (stp x.1 x.2.1.1 x.2.1.2.1 x.2.1.2.2 x.2.2 j) := by
    intro i x hi j hj
    obtain ⟨cs, _, ⟨c1, c2, rfl, rfl, ⟨c3, c4, rfl, rfl, rfl⟩⟩, h4⟩ := hr i x hi
    match j, hj with
    | 0, _ => exact h4 0 _ rfl
    | 1, _ => exact h4 1 _ rfl
    | 2, _ => exact h4 2 _ rfl
  have h0 := each 0 (S[0]'(by omega)) (List.getElem?_eq_getElem (by omega)) 0 (by decide)
  have hs : ad.spot = none := cell_spot (a := ad) h0
  obtain ⟨b, o, sp⟩ := ad
  obtain rfl : sp = none := hs
  refine ⟨b, o, rfl, fun j hj => ?_⟩
  have h1 := each i x hi j hj
  rw [addr_add, ← Nat.add_assoc] at h1
  exact h1
end Go.Proofs.YtnehminojlocoaaDoor.PAll
namespace Go.Proofs.YtnehminojlocoaaDoor.PAll
open Go.RowKit Go.Proofs.YtnehminojlocoaaDoorW.PrintWords Go.Proofs.YtnehminojlocoaaDoorW.PrintLast Go.Proofs.YtnehminojlocoaaDoorW.PrintMore
open Go.ChangeShapes Go.WideShapes Go.Deep
set_option linter.unusedVariables false
set_option linter.unusedSimpArgs false
theorem wf_octs {l : List Int} (h : ∀ x ∈ l, (Lit.int .u8 x).wf = true) : octs l := fun x hx => by
  have := h x hx
  simp only [Lit.wf, Bool.and_eq_true, decide_eq_true_eq] at this
  obtain ⟨q1, q2⟩ := this
  exact ⟨q1, Int.lt_of_le_of_lt q2 (by decide)⟩
/-- Octets that came in, as the walks read them. -/
theorem cells_row {w : World} {x : Addr} {n cap : Nat} {zs : List Int} (hn : n ≤ cap) (hm : cap ≤ maxLen) (hz : zs.length = cap) (hc : ∀ i, i < cap → w.cell? (x.add i) = some (.int .u8 (zs.getD i 0))) : Kd.C (Kd.int .u8) w (some x) n (zs.take n) := by
  refine ⟨by rw [List.length_take, hz]; omega, by have : maxLen = 9223372036854775807 := rfl; omega, fun _ => ⟨_, rfl, fun j p hp => ⟨[.int .u8 p], rfl, rfl, fun i u hu => ?_⟩⟩⟩
  obtain ⟨hj, rfl⟩ := List.getElem?_eq_some_iff.1 hp
  have hj' : j < cap := by
    rw [List.length_take, hz] at hj
    omega
  cases i with
  | succ i => simp at hu
  | zero =>
    obtain rfl := Option.some.inj hu
    show w.cell? (x.add (j * 1 + 0)) = _
    rw [Nat.mul_one, Nat.add_zero, hc j hj', List.getElem_take, List.getD_eq_getElem?_getD, List.getElem?_eq_getElem (by omega)]
    rfl
theorem row_in {A : Option Addr} {len cap : Nat} {z : List Int} {w : World} (h : (A = none ∧ len = 0 ∧ cap = 0 ∧ z = []) ∨ ∃ x, A = some x ∧ len ≤ cap ∧ cap ≤ maxLen ∧ z.length = cap ∧ (∀ i, i < z.length → w.cell? (x.add i) = some (.int .u8 (z.getD i 0))) ∧ ∀ n ∈ z, (Lit.int .u8 n).wf = true) :
    ∃ l : List Int, l.length = len ∧ len ≤ cap ∧ Kd.C (Kd.int .u8) w A l.length l ∧ octs l := by
  rcases h with ⟨rfl, rfl, rfl, rfl⟩ | ⟨x, rfl, h1, h2, h3, h4, h5⟩
  · exact ⟨[], rfl, Nat.le_refl _, ⟨rfl, by decide, fun h => absurd h (by decide)⟩, fun x hx => by cases hx⟩
  · have hC := cells_row (w := w) (x := x) h1 h2 h3 (fun i hi => h4 i (by omega))
    have hl : (z.take len).length = len := by rw [List.length_take]; omega
    refine ⟨z.take len, hl, h1, ?_, fun x hx => wf_octs h5 x (List.mem_of_mem_take hx)⟩
    rw [hl]
    exact hC
/-- Rows of octets that came in. -/
def RowsIn (W : World) (a : Option Addr) (len cap : Nat) (z : List (List Int)) : Prop := z.length = len ∧ len ≤ cap ∧ Kd.C KRows W a z.length z ∧ ∀ l ∈ z, octs l
section
variable {H : Type} {enc : TypeId × Value → H} {P : Program} {W : World} {base : Nat} {held : Bool}
theorem rows_of {t e q : TypeId} {a : Option Addr} {len cap : Nat} {d : DataW H} {ps : List MemPlace} (ht : P.underlying t = some (.slice e)) (he : P.underlying e = some (.slice q)) (hq : P.underlying q = some (.int .u8)) (ce : P.cellsOf e = 1) (cq : P.cellsOf q = 1)
    (h : DataW.Trod enc P W base (fun _ => true) held t (.slice a len cap) d ps) : ∃ z : List (List Int), RowsIn W a len cap z := by
  obtain ⟨fuel, hf⟩ := h
  rcases open_int_rows ht he hq ce cq hf with ⟨hcs, _⟩ | ⟨x, l, c, A, L, C, Z, hcs, _, hl, hm, _, hx⟩
  · simp [Value.cells] at hcs
    obtain ⟨rfl, rfl, rfl⟩ := hcs
    exact ⟨[], rfl, Nat.le_refl _, ⟨rfl, by decide, fun h => absurd h (by decide)⟩, fun l hl => by cases hl⟩
  · simp [Value.cells] at hcs
    obtain ⟨rfl, rfl, rfl⟩ := hcs
    have hlen : ((List.range len).map fun r => (Z r).take (L r)).length = len := by simp
    refine ⟨(List.range len).map fun r => (Z r).take (L r), hlen, hl, ?_, fun l hl => ?_⟩
    · refine ⟨rfl, by rw [hlen]; have : maxLen = 9223372036854775807 := rfl; omega, fun _ => ⟨_, rfl, fun j p hp => ?_⟩⟩
      rw [List.getElem?_map] at hp
      obtain ⟨j', hj', rfl⟩ := Option.map_eq_some_iff.1 hp
      have hj : j < len := by
        have := (List.getElem?_eq_some_iff.1 hj').1
        simpa using this
      rw [List.getElem?_range hj] at hj'
      obtain rfl := Option.some.inj hj'
      obtain ⟨h1, h2, h3, h4, h5, h6, h7⟩ := hx j (by omega)
      have hzl : ((Z j).take (L j)).length = L j := by rw [List.length_take]; omega
      refine ⟨[.slice (A j) ((Z j).take (L j)).length (C j)], rfl, ⟨A j, C j, rfl, by omega, ?_⟩, fun i u hu => ?_⟩
      · rw [hzl]
        cases hA : A j with
        | none =>
          have h0 := h6 hA
          have hL : L j = 0 := by omega
          rw [hL]
          exact ⟨rfl, by decide, fun h => absurd h (by decide)⟩
        | some a' => exact cells_row h2 h3 h4 (h7 a' hA).2
      · cases i with
        | succ i => simp at hu
        | zero =>
          obtain rfl := Option.some.inj hu
          show W.cell? (x.add (j * 1 + 0)) = _
          rw [Nat.mul_one, Nat.add_zero, h1, hzl]
    · obtain ⟨r, hr, rfl⟩ := List.mem_map.1 hl
      have hr' : r < len := by simpa using hr
      obtain ⟨_, _, _, _, h5, _⟩ := hx r (by omega)
      exact fun y hy => wf_octs h5 y (List.mem_of_mem_take hy)
end
end Go.Proofs.YtnehminojlocoaaDoor.PAll
namespace Go.Proofs.YtnehminojlocoaaDoor.PAll
open Go.RowKit Go.Proofs.YtnehminojlocoaaDoorW.PrintWords Go.Proofs.YtnehminojlocoaaDoorW.PrintLast Go.Proofs.YtnehminojlocoaaDoorW.PrintMore
set_option linter.unusedVariables false
set_option linter.unusedSimpArgs false
noncomputable def c5_loop : Code := match Tryd.f5.body with
  | some (.seq _ (.seq _ (.seq _ (.seq _ (.seq _ (.seq (.seq _ (.block _ (.loop c))) _)))))) => c
  | _ => .skip
noncomputable def c5_end : Code := match Tryd.f5.body with
  | some (.seq _ (.seq _ (.seq _ (.seq _ (.seq _ (.seq _ c)))))) => c
  | _ => .skip
noncomputable def c5_3 : Code := match Tryd.f5.body with
  | some (.seq _ (.seq _ c)) => c
  | _ => .skip
noncomputable def c5_5 : Code := match Tryd.f5.body with
  | some (.seq _ (.seq _ (.seq _ c))) => c
  | _ => .skip
set_option maxHeartbeats 8000000 in
set_option maxRecDepth 100000 in
theorem roads_end (a0 : Int) (ha : 0 ≤ a0) (K : Option Addr) (kc : Nat) (lk : List Int) (A : Option Addr) (c : Nat) (pl : List (List Int)) (w : World) (hK : Kd.C (Kd.int .u8) w K lk.length lk) (hkc : lk.length ≤ kc) (hP : Kd.C KRows w A pl.length pl) (hpc : pl.length ≤ c) (h32 : lk.length = 32) (hn : pl.length ≤ 60) (W : World) (v7 v8 : Value) (L : List Int) (S : List (Int × (Option Addr × Nat × Nat) × Int)) (hb : Below w.heap.size w W) (hT : TextR W w.heap.size v7 L) (hLl : L.length < 1048576) (hS : StepR W w.heap.size v8 S) (hSn : S.length = pl.length)
    (hSq : ∀ i, i < pl.length → ∃ A1 c1, S[i]? = some ((0 : Int), (A1, (pl.getD i []).length, c1), (0 : Int)) ∧ (pl.getD i []).length ≤ c1 ∧ Kd.C (Kd.int .u8) w A1 (pl.getD i []).length (pl.getD i [])) (hPl : ∀ i, (pl.getD i []).length < 1048576) (hfold : ∀ sz : Nat, (runF sz (lx lk) (fun i => if i < pl.length then (0 : Int) else 1) (fun i => pl.getD i []) (pl.length + 1)).2 = [(sumS (sz : Int) (hvS (lx lk) (lx L) L.length))]) (a0_ : Act)
    (h0 : Has 100 (bn []) [(0, .v (.int .u8 a0)), (1, .v (.slice K lk.length kc)), (2, .v (.slice A pl.length c)), (7, .v v7), (8, .v v8)] a0_) (d0 : a0_.defers = []) : Code.wp Tryd.prog c5_end (bodyPost Tryd.prog Tryd.f5 fun e w' => e = .returned (.bool true) ∧ Below w.heap.size w w') a0_ W := by
  obtain ⟨sz, hsz1, hsz⟩ := sz_law a0 ha
  obtain ⟨A7, c7, rfl, hc7, hC7⟩ := Kd.R_reads hT
  refine wp_seq ?_
  refine wp_region ?_
  refine opsP (N := 100) (T := TD) (M := (fun _ _ => none)) tabOkD (fun _ _ _ h => by cases h) [1, 2, 3, 4, 5, 6, 7, 8, 9] [0] [(0, .v (.int .u8 a0)), (1, .v (.slice K lk.length kc)), (2, .v (.slice A pl.length c)), (7, .v (.slice A7 L.length c7)), (8, .v v8), (57, .v (.int .u8 a0))] h0 (by kernel_rfl) ⟨by kernel_rfl, by kernel_rfl, by kernel_rfl, by kernel_rfl, by kernel_rfl, by kernel_rfl, trivial⟩ (fun a1 h1 d1 => ?_)
  replace d1 := d1.trans d0
  clear h0 d0
  refine callW_ops (N := 100) (i := 1) (d := 58) (f := 8) (args := [.v (.int .u8 a0)]) (l := [2, 3, 4, 5, 6, 7, 8, 9]) rfl (want_ rfl) rfl (by decide) h1 Tryd.func8 rfl rfl rfl (by kernel_rfl) (fun v1 W1 => v1 = .int .i64 (sz : Int) ∧ Below W.heap.size W W1) ((laws_hashSize.calls a0 _ W hsz1).mono fun e' W' hh => ⟨_, hh.1, rfl, hh.2.below⟩) (fun v2 W2 a2 hR2 h2 d2 => ?_)
  replace d2 := d2.trans d1
  clear h1 d1
  obtain ⟨rfl, hb2⟩ := hR2
  refine opsP (N := 100) (T := TD) (M := (fun _ _ => none)) tabOkD (fun _ _ _ h => by cases h) [4, 5, 6, 7, 8, 9] [2, 3] [(0, .v (.int .u8 a0)), (1, .v (.slice K lk.length kc)), (2, .v (.slice A pl.length c)), (7, .v (.slice A7 L.length c7)), (8, .v v8), (57, .v (.int .u8 a0)), (58, .v (.int .i64 (sz : Int))), (59, .v (.slice K lk.length kc)), (60, .v (.slice A7 L.length c7))] h2 (by kernel_rfl) ⟨by kernel_rfl, by kernel_rfl, by kernel_rfl, by kernel_rfl, by kernel_rfl, by kernel_rfl, by kernel_rfl, by kernel_rfl, by kernel_rfl, trivial⟩ (fun a3 h3 d3 => ?_)
  replace d3 := d3.trans d2
  clear h2 d2
  have hw2 : Below w.heap.size w W2 := hb.trans (hb2.mono hb.size)
  refine callW_ops (N := 100) (i := 4) (d := 61) (f := 14) (args := [.v (.int .i64 (sz : Int)), .v (.slice K lk.length kc), .v (.slice A7 L.length c7)]) (l := [5, 6, 7, 8, 9]) rfl (want_ rfl) rfl (by decide) h3 Tryd.func14 rfl rfl rfl (by kernel_rfl) (fun v1 W1 => ∃ v, v1 = .tuple #[v, .bool true] ∧ Wrote W2 (sumS (sz : Int) (hvS (lx lk) (lx L) L.length)) v W1) ((hs_val sz hsz A7 K c7 kc L lk W2 (Kd.C_below hC7 hb2) hc7 (Kd.C_below hK hw2) hkc (by omega) h32).mono fun e' W' hh => ?_) (fun v4 W4 a4 hR4 h4 d4 => ?_)
  · obtain ⟨v, e1, e2⟩ := hh
    exact ⟨_, e1, v, rfl, e2⟩
  replace d4 := d4.trans d3
  clear h3 d3
  obtain ⟨vs, rfl, hs4, hb4⟩ := hR4
  have hw4 : Below w.heap.size w W4 := hw2.trans (hb4.mono hw2.size)
  have hS4 : StepR W4 w.heap.size v8 S := Kd.R_below (Kd.R_below hS hb2) hb4
  refine opsP (N := 100) (T := TD) (M := (fun _ _ => none)) tabOkD (fun _ _ _ h => by cases h) [] [5, 6, 7, 8, 9] [(0, .v (.int .u8 a0)), (1, .v (.slice K lk.length kc)), (2, .v (.slice A pl.length c)), (8, .v v8), (11, .v vs), (12, .v (.bool true))] h4 (by kernel_rfl) ⟨by kernel_rfl, by kernel_rfl, by kernel_rfl, by kernel_rfl, by kernel_rfl, by kernel_rfl, trivial⟩ (fun a5 h5 d5 => ?_)
  replace d5 := d5.trans d4
  clear h4 d4
  show Code.wp _ _ _ _ _
  refine wp_seq ?_
  refine wp_region ?_
  refine opsP (N := 100) (T := TD) (M := (fun _ _ => none)) tabOkD (fun _ _ _ h => by cases h) [1, 2, 3, 4, 5, 6, 7, 8, 9, 10, 11, 12, 13, 14, 15, 16, 17, 18, 19, 20, 21] [0] [(0, .v (.int .u8 a0)), (1, .v (.slice K lk.length kc)), (2, .v (.slice A pl.length c)), (8, .v v8), (11, .v vs), (12, .v (.bool true)), (65, .v (.int .u8 a0))] h5 (by kernel_rfl) ⟨by kernel_rfl, by kernel_rfl, by kernel_rfl, by kernel_rfl, by kernel_rfl, by kernel_rfl, by kernel_rfl, trivial⟩ (fun a6 h6 d6 => ?_)
  replace d6 := d6.trans d5
  clear h5 d5
  refine callW_ops (N := 100) (i := 1) (d := 66) (f := 8) (args := [.v (.int .u8 a0)]) (l := [2, 3, 4, 5, 6, 7, 8, 9, 10, 11, 12, 13, 14, 15, 16, 17, 18, 19, 20, 21]) rfl (want_ rfl) rfl (by decide) h6 Tryd.func8 rfl rfl rfl (by kernel_rfl) (fun v1 W1 => v1 = .int .i64 (sz : Int) ∧ Below W4.heap.size W4 W1) ((laws_hashSize.calls a0 _ W4 hsz1).mono fun e' W' hh => ⟨_, hh.1, rfl, hh.2.below⟩) (fun v7 W7 a7 hR7 h7 d7 => ?_)
  replace d7 := d7.trans d6
  clear h6 d6
  obtain ⟨rfl, hb7⟩ := hR7
  refine opsP (N := 100) (T := TD) (M := (fun _ _ => none)) tabOkD (fun _ _ _ h => by cases h) [4, 5, 6, 7, 8, 9, 10, 11, 12, 13, 14, 15, 16, 17, 18, 19, 20, 21] [2, 3] [(0, .v (.int .u8 a0)), (1, .v (.slice K lk.length kc)), (2, .v (.slice A pl.length c)), (8, .v v8), (11, .v vs), (12, .v (.bool true)), (65, .v (.int .u8 a0)), (66, .v (.int .i64 (sz : Int))), (67, .v (.slice K lk.length kc)), (68, .v (.slice A pl.length c))] h7 (by kernel_rfl) ⟨by kernel_rfl, by kernel_rfl, by kernel_rfl, by kernel_rfl, by kernel_rfl, by kernel_rfl, by kernel_rfl, by kernel_rfl, by kernel_rfl, by kernel_rfl, trivial⟩ (fun a8 h8 d8 => ?_)
  replace d8 := d8.trans d7
  clear h7 d7
  refine givenW_ops (N := 100) (i := 4) (d := 69) (s := .v (.int .i64 (pl.length : Int))) (l := [5, 6, 7, 8, 9, 10, 11, 12, 13, 14, 15, 16, 17, 18, 19, 20, 21]) rfl (want_ rfl) rfl (by decide) h8 (op_len rfl Tryd.underlying23 (h8.2 68 _ rfl)) (fun a9 h9 d9 => ?_)
  replace d9 := d9.trans d8
  clear h8 d8
  refine givenW_ops (N := 100) (i := 5) (d := 70) (s := .v (.int .i64 (Int.tmod (pl.length : Int) 2))) (l := [6, 7, 8, 9, 10, 11, 12, 13, 14, 15, 16, 17, 18, 19, 20, 21]) rfl (want_ rfl) rfl (by decide) h9 (op_rem2 rfl (h9.2 69 _ rfl) rfl (rem2 _ _)) (fun a10 h10 d10 => ?_)
  replace d10 := d10.trans d9
  clear h9 d9
  refine opsP (N := 100) (T := TD) (M := (fun _ _ => none)) tabOkD (fun _ _ _ h => by cases h) [8, 9, 10, 11, 12, 13, 14, 15, 16, 17, 18, 19, 20, 21] [6, 7] [(0, .v (.int .u8 a0)), (1, .v (.slice K lk.length kc)), (2, .v (.slice A pl.length c)), (8, .v v8), (11, .v vs), (12, .v (.bool true)), (66, .v (.int .i64 (sz : Int))), (67, .v (.slice K lk.length kc)), (71, .v (.bool (Int.tmod (pl.length : Int) 2 == 0))), (72, .v v8)] h10 (by kernel_rfl) ⟨by kernel_rfl, by kernel_rfl, by kernel_rfl, by kernel_rfl, by kernel_rfl, by kernel_rfl, by kernel_rfl, by kernel_rfl, by kernel_rfl, by kernel_rfl, trivial⟩ (fun a11 h11 d11 => ?_)
  replace d11 := d11.trans d10
  clear h10 d10
  refine build_ops (N := 100) (i := 8) (d := 73) (cs := #[.int .u8 1, .slice none 0 0, .int .u64 0]) (l := [9, 10, 11, 12, 13, 14, 15, 16, 17, 18, 19, 20, 21]) h11 (by kernel_rfl) (fun a12 h12 d12 => ?_)
  replace d12 := d12.trans d11
  clear h11 d11
  refine new_ops (N := 100) (i := 9) (d := 74) (l := [10, 11, 12, 13, 14, 15, 16, 17, 18, 19, 20, 21]) rfl rfl rfl (by decide) h12 (op_buildSlice1 rfl (h12.2 73 _ rfl) (build_stp W7 1 0 none 0 0)) (fun a13 h13 d13 => ?_)
  replace d13 := d13.trans d12
  clear h12 d12
  have hal : Below W7.heap.size W7 (W7.alloc (.cells #[.int .u8 1, .slice none 0 0, .int .u64 0] 33)) := (Below.refl _ _).alloc (Nat.le_refl _) _
  have hw7 : Below w.heap.size w (W7.alloc (.cells #[.int .u8 1, .slice none 0 0, .int .u64 0] 33)) := (hw4.trans (hb7.mono hw4.size)).trans (hal.mono (Nat.le_trans hw4.size hb7.size))
  have hS7 : StepR (W7.alloc (.cells #[.int .u8 1, .slice none 0 0, .int .u64 0] 33)) w.heap.size v8 S := Kd.R_below (Kd.R_below hS4 hb7) hal
  refine app_ops (N := 100) (i := 10) (dst := 75) (l := [11, 12, 13, 14, 15, 16, 17, 18, 19, 20, 21]) KStep (w0 := w) w.heap.size rfl rfl rfl (by decide) h13 (.tmp 72) (.tmp 74) 29 33 (.agg #[.int .u8 0, .slice none 0 0, .int .u64 0]) 40 rfl Tryd.underlying29 (by kernel_rfl) rfl (by decide) (by decide) v8 S [((1 : Int), ((none : Option Addr), 0, 0), (0 : Int))] (some ⟨W7.heap.size, 0, none⟩) 1 1 (fun _ => True) (fun _ => False) (h13.2 72 _ rfl) (h13.2 74 _ rfl) hS7 (one_stp 1 0 none 0 0) (fun _ _ h => h) (fun _ h => h.elim) (fun _ _ => trivial) hw7 hw7.size (by omega) (fun v9 W9 a14 hS9 hw9 hg9 h14 d14 => ?_)
  replace d14 := d14.trans d13
  clear h13 d13
  have hs9 : Kd.R (Kd.int .u8) 5 W9 w.heap.size (fun _ => True) vs (sumS (sz : Int) (hvS (lx lk) (lx L) L.length)) := Kd.R_lower (grown_typed (Kd.R_below (Kd.R_below hs4 hb7) hal) hS7 hg9 (fun q hq => by
      obtain rfl : q = 5 := by simpa [Kd.int, Kd.scalar] using hq
      decide)) hw2.size
  obtain ⟨A9, c9, rfl, hst9⟩ := steps_at hS9
  have hSl : (S ++ [((1 : Int), ((none : Option Addr), 0, 0), (0 : Int))]).length = pl.length + 1 := by rw [List.length_append, hSn]; rfl
  rw [hSl] at h14
  have hAt : StepsAt A9 (pl.length + 1) (fun i => if i < pl.length then (0 : Int) else 1) (fun i => pl.getD i []) W9 := fun i hi => by
    by_cases hlt : i < pl.length
    · obtain ⟨A1, c1, e1, e2, e3⟩ := hSq i hlt
      obtain ⟨sb, so, q1, q2⟩ := hst9 i _ (by rw [List.getElem?_append_left (by omega)]; exact e1)
      refine ⟨sb, so, q1, A1, c1, 0, fun j hj => ?_, e2, Kd.C_below e3 hw9⟩
      show _ = some (stp (if i < pl.length then (0 : Int) else 1) _ _ _ _ _)
      rw [if_pos hlt]
      exact q2 j hj
    · have e0 : pl.getD i [] = [] := by rw [List.getD_eq_getElem?_getD, List.getElem?_eq_none (by omega)]; rfl
      obtain ⟨sb, so, q1, q2⟩ := hst9 i ((1 : Int), ((none : Option Addr), 0, 0), (0 : Int)) (by rw [List.getElem?_append_right (by omega), show i - S.length = 0 by omega]; rfl)
      refine ⟨sb, so, q1, none, 0, 0, fun j hj => ?_, ?_, ?_⟩
      · show _ = some (stp (if i < pl.length then (0 : Int) else 1) _ (pl.getD i []).length _ _ _)
        rw [if_neg hlt, e0]
        exact q2 j hj
      · show (pl.getD i []).length ≤ 0
        rw [e0]
        exact Nat.le_refl _
      · show Kd.C (Kd.int .u8) W9 none (pl.getD i []).length (pl.getD i [])
        rw [e0]
        exact ⟨rfl, by decide, fun h => absurd h (by decide)⟩
  refine callW_ops (N := 100) (i := 11) (d := 76) (f := 7) (args := [.v (.int .i64 (sz : Int)), .v (.slice K lk.length kc), .v (.bool (Int.tmod (pl.length : Int) 2 == 0)), .v (.slice A9 (pl.length + 1) c9)]) (l := [12, 13, 14, 15, 16, 17, 18, 19, 20, 21]) rfl (want_ rfl) rfl (by decide) h14 Tryd.func7 rfl rfl rfl (by kernel_rfl) (fun v1 W1 => ∃ v, v1 = .tuple #[v, .bool true, .agg #[.int .i64 (sz : Int), .int .i64 32], .bool true] ∧ Kd.R KRows 22 W1 W9.heap.size (fun _ => True) v [(sumS (sz : Int) (hvS (lx lk) (lx L) L.length))] ∧ Below W9.heap.size W9 W1) ((run_val sz hsz (Int.tmod (pl.length : Int) 2 == 0) K kc lk A9 (pl.length + 1) c9 (fun i => if i < pl.length then (0 : Int) else 1) (fun i => pl.getD i []) W9 (Kd.C_below hK hw9) hkc h32 hAt (fun i hi => ?_) (fun i hi => ?_) (by omega)).mono fun e' W' hh => ?_) (fun v15 W15 a15 hR15 h15 d15 => ?_)
  · show okK sz (if i < pl.length then (0 : Int) else 1)
    split
    · exact Or.inl rfl
    · exact Or.inr (Or.inl rfl)
  · exact hPl i
  · obtain ⟨v, e1, e2, e3⟩ := hh
    refine ⟨_, e1, v, rfl, ?_, e3⟩
    rw [hfold] at e2
    exact e2
  replace d15 := d15.trans d14
  clear h14 d14
  obtain ⟨vg, rfl, hg15, hb15⟩ := hR15
  refine opsP (N := 100) (T := TD) (M := (fun _ _ => none)) tabOkD (fun _ _ _ h => by cases h) [17, 18, 19, 20, 21] [12, 13, 14, 15, 16] [(0, .v (.int .u8 a0)), (1, .v (.slice K lk.length kc)), (2, .v (.slice A pl.length c)), (8, .v v8), (11, .v vs), (12, .v (.bool true)), (77, .v vg), (78, .v (.bool true)), (79, .v (.agg #[.int .i64 (sz : Int), .int .i64 32])), (80, .v (.bool true))] h15 (by kernel_rfl) ⟨by kernel_rfl, by kernel_rfl, by kernel_rfl, by kernel_rfl, by kernel_rfl, by kernel_rfl, by kernel_rfl, by kernel_rfl, by kernel_rfl, by kernel_rfl, trivial⟩ (fun a16 h16 d16 => ?_)
  replace d16 := d16.trans d15
  clear h15 d15
  refine alloc_ops (N := 100) (i := 17) (d := 15) (l := [18, 19, 20, 21]) rfl rfl rfl (by decide) h16 rfl allocOkI (fun a17 h17 d17 => ?_)
  replace d17 := d17.trans d16
  clear h16 d16
  refine opsP (N := 100) (T := TD) (M := (fun _ _ => none)) tabOkD (fun _ _ _ h => by cases h) [20, 21] [18, 19] [(0, .v (.int .u8 a0)), (1, .v (.slice K lk.length kc)), (2, .v (.slice A pl.length c)), (8, .v v8), (11, .v vs), (12, .v (.bool true)), (13, .v vg), (14, .v (.bool true)), (15, .v (.pointer (some ⟨W15.heap.size, 0, none⟩))), (77, .v vg), (78, .v (.bool true)), (79, .v (.agg #[.int .i64 (sz : Int), .int .i64 32])), (80, .v (.bool true))] h17 (by kernel_rfl) ⟨by kernel_rfl, by kernel_rfl, by kernel_rfl, by kernel_rfl, by kernel_rfl, by kernel_rfl, by kernel_rfl, by kernel_rfl, by kernel_rfl, by kernel_rfl, by kernel_rfl, by kernel_rfl, by kernel_rfl, trivial⟩ (fun a18 h18 d18 => ?_)
  replace d18 := d18.trans d17
  clear h17 d17
  have hst := run_storeVar_row (P := Tryd.prog) (W15.alloc (.cells #[.int .i64 0, .int .i64 0] 24)) W15.heap.size 24 24 #[.int .i64 0, .int .i64 0] #[.int .i64 (sz : Int), .int .i64 32] (MapKept.heap_alloc W15 _).1 (by kernel_rfl) rfl (by rw [Array.all_eq_true_iff_forall_mem]; intro v hv; simp at hv; rcases hv with rfl | rfl <;> rfl)
  refine store_ops (N := 100) (i := 20) (l := [21]) (t := 24) rfl rfl rfl h18 (b := W15.heap.size) (cs := #[.int .i64 (sz : Int), .int .i64 32]) (y := .tmp 79) (x := .tmp 15) rfl (h18.2 15 _ rfl) (h18.2 79 _ rfl) hst ?_
  have hb6 : Below W15.heap.size W15 ((W15.alloc (.cells #[.int .i64 0, .int .i64 0] 24)).setRow W15.heap.size #[.int .i64 (sz : Int), .int .i64 32]) := below_setRow ((Below.refl _ _).alloc (Nat.le_refl _) _) (Nat.le_refl _) _
  generalize (W15.alloc (.cells #[.int .i64 0, .int .i64 0] 24)).setRow W15.heap.size #[.int .i64 (sz : Int), .int .i64 32] = W6 at hb6 ⊢
  refine opsP (N := 100) (T := TD) (M := (fun _ _ => none)) tabOkD (fun _ _ _ h => by cases h) [] [21] [(11, .v vs), (12, .v (.bool true)), (13, .v vg), (14, .v (.bool true)), (16, .v (.bool true))] h18 (by kernel_rfl) ⟨by kernel_rfl, by kernel_rfl, by kernel_rfl, by kernel_rfl, by kernel_rfl, trivial⟩ (fun a19 h19 d19 => ?_)
  replace d19 := d19.trans d18
  clear h18 d18
  show Code.wp _ _ _ _ _
  have hw6 : Below w.heap.size w W6 := (hw9.trans (hb15.mono hw9.size)).trans (hb6.mono (Nat.le_trans hw9.size hb15.size))
  have hs6 := Kd.R_below (Kd.R_below hs9 hb15) hb6
  have hg6 := Kd.R_below hg15 hb6
  obtain ⟨Ag, cg, rfl, hcg, hCg⟩ := Kd.R_reads hg6
  obtain ⟨gb, go, A1, c1, rfl, hcell, hc1, hC1⟩ := piece_at hCg 0 (sumS (sz : Int) (hvS (lx lk) (lx L) L.length)) rfl
  obtain ⟨As, cs, rfl, hcs, hCs⟩ := Kd.R_reads hs6
  refine wp_seq ?_
  refine wp_region ?_
  refine opsP (N := 100) (T := TD) (M := (fun _ _ => none)) tabOkD (fun _ _ _ h => by cases h) [2, 3, 4, 5, 6, 7, 8, 9, 10, 11, 12, 13, 14, 15, 16, 17, 18, 19] [0, 1] [(11, .v (.slice As (sumS (sz : Int) (hvS (lx lk) (lx L) L.length)).length cs)), (12, .v (.bool true)), (13, .v (.slice (some ⟨gb, go, none⟩) 1 cg)), (14, .v (.bool true)), (16, .v (.bool true)), (82, .v (.bool true))] h19 (by kernel_rfl) ⟨by kernel_rfl, by kernel_rfl, by kernel_rfl, by kernel_rfl, by kernel_rfl, by kernel_rfl, trivial⟩ (fun a20 h20 d20 => ?_)
  replace d20 := d20.trans d19
  clear h19 d19
  refine guard_ops (N := 100) (T := TD) (M := (fun _ _ => none)) tabOkD (i := 2) (d := 83) (j := 1) (dj := 82) (b := true) (s := .v (.bool true)) (l := [3, 4, 5, 6, 7, 8, 9, 10, 11, 12, 13, 14, 15, 16, 17, 18, 19]) (fun _ _ _ h => by cases h) rfl rfl rfl rfl rfl (by decide) h20 (by kernel_rfl) (fun a21 h21 d21 => ?_)
  replace d21 := d21.trans d20
  clear h20 d20
  refine givenW_ops (N := 100) (i := 3) (d := 84) (s := .v (.bool true)) (l := [4, 5, 6, 7, 8, 9, 10, 11, 12, 13, 14, 15, 16, 17, 18, 19]) rfl (want_ rfl) rfl (by decide) h21 (op_pickT rfl (h21.2 82 _ rfl) (h21.2 83 _ rfl)) (fun a22 h22 d22 => ?_)
  replace d22 := d22.trans d21
  clear h21 d21
  refine opsP (N := 100) (T := TD) (M := (fun _ _ => none)) tabOkD (fun _ _ _ h => by cases h) [5, 6, 7, 8, 9, 10, 11, 12, 13, 14, 15, 16, 17, 18, 19] [4] [(11, .v (.slice As (sumS (sz : Int) (hvS (lx lk) (lx L) L.length)).length cs)), (12, .v (.bool true)), (13, .v (.slice (some ⟨gb, go, none⟩) 1 cg)), (14, .v (.bool true)), (16, .v (.bool true)), (82, .v (.bool true)), (83, .v (.bool true)), (84, .v (.bool true)), (85, .v (.bool true))] h22 (by kernel_rfl) ⟨by kernel_rfl, by kernel_rfl, by kernel_rfl, by kernel_rfl, by kernel_rfl, by kernel_rfl, by kernel_rfl, by kernel_rfl, by kernel_rfl, trivial⟩ (fun a23 h23 d23 => ?_)
  replace d23 := d23.trans d22
  clear h22 d22
  refine guard_ops (N := 100) (T := TD) (M := (fun _ _ => none)) tabOkD (i := 5) (d := 86) (j := 4) (dj := 85) (b := true) (s := .v (.bool true)) (l := [6, 7, 8, 9, 10, 11, 12, 13, 14, 15, 16, 17, 18, 19]) (fun _ _ _ h => by cases h) rfl rfl rfl rfl rfl (by decide) h23 (by kernel_rfl) (fun a24 h24 d24 => ?_)
  replace d24 := d24.trans d23
  clear h23 d23
  refine givenW_ops (N := 100) (i := 6) (d := 87) (s := .v (.bool true)) (l := [7, 8, 9, 10, 11, 12, 13, 14, 15, 16, 17, 18, 19]) rfl (want_ rfl) rfl (by decide) h24 (op_pickT rfl (h24.2 85 _ rfl) (h24.2 86 _ rfl)) (fun a25 h25 d25 => ?_)
  replace d25 := d25.trans d24
  clear h24 d24
  refine opsP (N := 100) (T := TD) (M := (fun _ _ => none)) tabOkD (fun _ _ _ h => by cases h) [8, 9, 10, 11, 12, 13, 14, 15, 16, 17, 18, 19] [7] [(11, .v (.slice As (sumS (sz : Int) (hvS (lx lk) (lx L) L.length)).length cs)), (12, .v (.bool true)), (13, .v (.slice (some ⟨gb, go, none⟩) 1 cg)), (14, .v (.bool true)), (16, .v (.bool true)), (82, .v (.bool true)), (83, .v (.bool true)), (84, .v (.bool true)), (85, .v (.bool true)), (86, .v (.bool true)), (87, .v (.bool true)), (88, .v (.bool true))] h25 (by kernel_rfl) ⟨by kernel_rfl, by kernel_rfl, by kernel_rfl, by kernel_rfl, by kernel_rfl, by kernel_rfl, by kernel_rfl, by kernel_rfl, by kernel_rfl, by kernel_rfl, by kernel_rfl, by kernel_rfl, trivial⟩ (fun a26 h26 d26 => ?_)
  replace d26 := d26.trans d25
  clear h25 d25
  refine guard_ops (N := 100) (T := TD) (M := (fun _ _ => none)) tabOkD (i := 8) (d := 89) (j := 7) (dj := 88) (b := true) (s := .v (.slice (some ⟨gb, go, none⟩) 1 cg)) (l := [9, 10, 11, 12, 13, 14, 15, 16, 17, 18, 19]) (fun _ _ _ h => by cases h) rfl rfl rfl rfl rfl (by decide) h26 (by kernel_rfl) (fun a27 h27 d27 => ?_)
  replace d27 := d27.trans d26
  clear h26 d26
  refine givenW_ops (N := 100) (i := 9) (d := 90) (s := .v (.int .i64 ((1 : Nat) : Int))) (l := [10, 11, 12, 13, 14, 15, 16, 17, 18, 19]) rfl (want_g h27 (j := 7) (d := 88) (b := true) rfl rfl rfl) rfl (by decide) h27 (op_len rfl Tryd.underlying23 (h27.2 89 _ rfl)) (fun a28 h28 d28 => ?_)
  replace d28 := d28.trans d27
  clear h27 d27
  refine guard_ops (N := 100) (T := TD) (M := (fun _ _ => none)) tabOkD (i := 10) (d := 91) (j := 7) (dj := 88) (b := true) (s := .v (.bool (((1 : Nat) : Int) == 1))) (l := [11, 12, 13, 14, 15, 16, 17, 18, 19]) (fun _ _ _ h => by cases h) rfl rfl rfl rfl rfl (by decide) h28 (by kernel_rfl) (fun a29 h29 d29 => ?_)
  replace d29 := d29.trans d28
  clear h28 d28
  refine givenW_ops (N := 100) (i := 11) (d := 92) (s := .v (.bool true)) (l := [12, 13, 14, 15, 16, 17, 18, 19]) rfl (want_ rfl) rfl (by decide) h29 (op_pickT rfl (h29.2 88 _ rfl) (h29.2 91 _ rfl)) (fun a30 h30 d30 => ?_)
  replace d30 := d30.trans d29
  clear h29 d29
  refine opsP (N := 100) (T := TD) (M := (fun _ _ => none)) tabOkD (fun _ _ _ h => by cases h) [13, 14, 15, 16, 17, 18, 19] [12] [(11, .v (.slice As (sumS (sz : Int) (hvS (lx lk) (lx L) L.length)).length cs)), (12, .v (.bool true)), (13, .v (.slice (some ⟨gb, go, none⟩) 1 cg)), (14, .v (.bool true)), (16, .v (.bool true)), (82, .v (.bool true)), (83, .v (.bool true)), (84, .v (.bool true)), (85, .v (.bool true)), (86, .v (.bool true)), (87, .v (.bool true)), (88, .v (.bool true)), (89, .v (.slice (some ⟨gb, go, none⟩) 1 cg)), (90, .v (.int .i64 ((1 : Nat) : Int))), (91, .v (.bool true)), (92, .v (.bool true)), (93, .v (.bool true))] h30 (by kernel_rfl) ⟨by kernel_rfl, by kernel_rfl, by kernel_rfl, by kernel_rfl, by kernel_rfl, by kernel_rfl, by kernel_rfl, by kernel_rfl, by kernel_rfl, by kernel_rfl, by kernel_rfl, by kernel_rfl, by kernel_rfl, by kernel_rfl, by kernel_rfl, by kernel_rfl, by kernel_rfl, trivial⟩ (fun a31 h31 d31 => ?_)
  replace d31 := d31.trans d30
  clear h30 d30
  refine guard_ops (N := 100) (T := TD) (M := (fun _ _ => none)) tabOkD (i := 13) (d := 94) (j := 12) (dj := 93) (b := true) (s := .v (.slice (some ⟨gb, go, none⟩) 1 cg)) (l := [14, 15, 16, 17, 18, 19]) (fun _ _ _ h => by cases h) rfl rfl rfl rfl rfl (by decide) h31 (by kernel_rfl) (fun a32 h32 d32 => ?_)
  replace d32 := d32.trans d31
  clear h31 d31
  refine givenW_ops (N := 100) (i := 14) (d := 95) (s := .v (.pointer (some ⟨gb, go + 0 * 1, none⟩))) (l := [15, 16, 17, 18, 19]) rfl (want_g h32 (j := 12) (d := 93) (b := true) rfl rfl rfl) rfl (by decide) h32 (op_indexT (j := 0) rfl (h32.2 94 _ rfl) rfl Tryd.underlying23 Tryd.sizeOf22 (by decide)) (fun a33 h33 d33 => ?_)
  replace d33 := d33.trans d32
  clear h32 d32
  refine givenW_ops (N := 100) (i := 15) (d := 96) (s := .v (.slice A1 (sumS (sz : Int) (hvS (lx lk) (lx L) L.length)).length c1)) (l := [16, 17, 18, 19]) rfl (want_g h33 (j := 12) (d := 93) (b := true) rfl rfl rfl) rfl (by decide) h33 (op_load rfl (h33.2 95 _ rfl) Tryd.isAgg22 hcell) (fun a34 h34 d34 => ?_)
  replace d34 := d34.trans d33
  clear h33 d33
  refine guard_ops (N := 100) (T := TD) (M := (fun _ _ => none)) tabOkD (i := 16) (d := 97) (j := 12) (dj := 93) (b := true) (s := .v (.slice As (sumS (sz : Int) (hvS (lx lk) (lx L) L.length)).length cs)) (l := [17, 18, 19]) (fun _ _ _ h => by cases h) rfl rfl rfl rfl rfl (by decide) h34 (by kernel_rfl) (fun a35 h35 d35 => ?_)
  replace d35 := d35.trans d34
  clear h34 d34
  refine callW_ops (N := 100) (i := 17) (d := 98) (f := 12) (args := [.v (.slice A1 (sumS (sz : Int) (hvS (lx lk) (lx L) L.length)).length c1), .v (.slice As (sumS (sz : Int) (hvS (lx lk) (lx L) L.length)).length cs)]) (l := [18, 19]) rfl (want_g h35 (j := 12) (d := 93) (b := true) rfl rfl rfl) rfl (by decide) h35 Tryd.func12 rfl rfl rfl (by kernel_rfl) (fun v1 W1 => v1 = .bool true ∧ Below W6.heap.size W6 W1) ((spec_SameBytes.calls _ A1 c1 (sumS (sz : Int) (hvS (lx lk) (lx L) L.length)) As cs (sumS (sz : Int) (hvS (lx lk) (lx L) L.length)) true W6 hC1 hc1 hCs hcs (same_self (sumS (sz : Int) (hvS (lx lk) (lx L) L.length)) (by rw [sumS_len sz hsz]; omega))).mono fun e' W' hh => ⟨_, hh.1, rfl, hh.2.below⟩) (fun v36 W36 a36 hR36 h36 d36 => ?_)
  replace d36 := d36.trans d35
  clear h35 d35
  obtain ⟨rfl, hb36⟩ := hR36
  refine givenW_ops (N := 100) (i := 18) (d := 99) (s := .v (.bool true)) (l := [19]) rfl (want_ rfl) rfl (by decide) h36 (op_pickT rfl (h36.2 93 _ rfl) (h36.2 98 _ rfl)) (fun a37 h37 d37 => ?_)
  replace d37 := d37.trans d36
  clear h36 d36
  refine opsP (N := 100) (T := TD) (M := (fun _ _ => none)) tabOkD (fun _ _ _ h => by cases h) [] [19] [(6, .v (.bool true)), (11, .v (.slice As (sumS (sz : Int) (hvS (lx lk) (lx L) L.length)).length cs)), (12, .v (.bool true)), (13, .v (.slice (some ⟨gb, go, none⟩) 1 cg)), (14, .v (.bool true)), (16, .v (.bool true)), (82, .v (.bool true)), (83, .v (.bool true)), (84, .v (.bool true)), (85, .v (.bool true)), (86, .v (.bool true)), (87, .v (.bool true)), (88, .v (.bool true)), (89, .v (.slice (some ⟨gb, go, none⟩) 1 cg)), (90, .v (.int .i64 ((1 : Nat) : Int))), (91, .v (.bool true)), (92, .v (.bool true)), (93, .v (.bool true)), (94, .v (.slice (some ⟨gb, go, none⟩) 1 cg)), (95, .v (.pointer (some ⟨gb, go + 0 * 1, none⟩))), (96, .v (.slice A1 (sumS (sz : Int) (hvS (lx lk) (lx L) L.length)).length c1)), (97, .v (.slice As (sumS (sz : Int) (hvS (lx lk) (lx L) L.length)).length cs)), (98, .v (.bool true)), (99, .v (.bool true))] h37 (by kernel_rfl) ⟨by kernel_rfl, by kernel_rfl, by kernel_rfl, by kernel_rfl, by kernel_rfl, by kernel_rfl, by kernel_rfl, by kernel_rfl, by kernel_rfl, by kernel_rfl, by kernel_rfl, by kernel_rfl, by kernel_rfl, by kernel_rfl, by kernel_rfl, by kernel_rfl, by kernel_rfl, by kernel_rfl, by kernel_rfl, by kernel_rfl, by kernel_rfl, by kernel_rfl, by kernel_rfl, by kernel_rfl, trivial⟩ (fun a38 h38 d38 => ?_)
  replace d38 := d38.trans d37
  clear h37 d37
  show Code.wp _ _ _ _ _
  refine wp_ret ?_
  exact ⟨d38, _, results_tmp rfl _ _ _, congrArg Ending.returned (h38.2 6 _ rfl), hw6.trans (hb36.mono hw6.size)⟩
set_option maxHeartbeats 8000000 in
set_option maxRecDepth 100000 in
theorem roads_round (a0 : Int) (ha : 0 ≤ a0) (K : Option Addr) (kc : Nat) (lk : List Int) (A : Option Addr) (c : Nat) (pl : List (List Int)) (w : World) (hK : Kd.C (Kd.int .u8) w K lk.length lk) (hkc : lk.length ≤ kc) (hP : Kd.C KRows w A pl.length pl) (hpc : pl.length ≤ c) (hn : pl.length ≤ 60) (q : Nat) (hq : q < pl.length) (W : World) (v7 v8 : Value) (L : List Int) (S : List (Int × (Option Addr × Nat × Nat) × Int)) (hSn : S.length = q) (hb : Below w.heap.size w W) (hT : TextR W w.heap.size v7 L) (hS : StepR W w.heap.size v8 S) (a0_ : Act) (Kc : Act → World → Prop) (Q0 : Exit → Act → World → Prop)
    (h0 : Has 100 (bn []) [(0, .v (.int .u8 a0)), (1, .v (.slice K lk.length kc)), (2, .v (.slice A pl.length c)), (7, .v v7), (8, .v v8), (33, .v (.slice A pl.length c)), (34, .v (.int .i64 (pl.length : Int))), (35, .v (.int .i64 (q : Int)))] a0_) (hret : ∀ a' W', a'.defers = a0_.defers → a'.eval (.tmp 6) = .bool true → Below w.heap.size w W' → Q0 .ret a' W')
    (hK : ∀ a' W' p v7' v8' A1 c1, pl[q]? = some p → Has 100 (bn []) [(0, .v (.int .u8 a0)), (1, .v (.slice K lk.length kc)), (2, .v (.slice A pl.length c)), (7, .v v7'), (8, .v v8'), (33, .v (.slice A pl.length c)), (34, .v (.int .i64 (pl.length : Int))), (35, .v (.int .i64 ((q + 1 : Nat) : Int)))] a' → a'.defers = a0_.defers → Below w.heap.size w W' → TextR W' w.heap.size v7' (L ++ p) → StepR W' w.heap.size v8' (S ++ [((0 : Int), (A1, p.length, c1), (0 : Int))]) → p.length ≤ c1 → Kd.C (Kd.int .u8) w A1 p.length p → p.length ≤ 8192 → Kc a' W') : Code.wp Tryd.prog c5_loop (Exit.then Kc Q0) a0_ W := by
  have d0 : a0_.defers = a0_.defers := rfl
  obtain ⟨p, hp⟩ : ∃ p, pl[q]? = some p := ⟨_, List.getElem?_eq_getElem hq⟩
  obtain ⟨sb, so, A1, c1, rfl, hcell, hc1, hC1⟩ := piece_at hP q p hp
  obtain ⟨A7, c7, rfl, hc7, hC7⟩ := Kd.R_reads hT
  refine wp_seq ?_
  refine wp_region ?_
  refine opsP (N := 100) (T := TD) (M := (fun _ _ => none)) tabOkD (fun _ _ _ h => by cases h) [] [0] [(0, .v (.int .u8 a0)), (1, .v (.slice K lk.length kc)), (2, .v (.slice (some ⟨sb, so, none⟩) pl.length c)), (7, .v (.slice A7 L.length c7)), (8, .v v8), (33, .v (.slice (some ⟨sb, so, none⟩) pl.length c)), (34, .v (.int .i64 (pl.length : Int))), (35, .v (.int .i64 (q : Int))), (36, .v (.bool (decide ((q : Int) < (pl.length : Int)))))] h0 (by kernel_rfl) ⟨by kernel_rfl, by kernel_rfl, by kernel_rfl, by kernel_rfl, by kernel_rfl, by kernel_rfl, by kernel_rfl, by kernel_rfl, by kernel_rfl, trivial⟩ (fun a1 h1 d1 => ?_)
  replace d1 := d1.trans d0
  clear h0 d0
  show Code.wp _ _ _ _ _
  refine wp_seq ?_
  refine wp_cond_true ((h1.2 36 _ rfl).trans (congrArg Value.bool (decide_eq_true (by omega)))) ?_
  refine wp_skip ?_
  show Code.wp _ _ _ _ _
  refine wp_seq ?_
  refine wp_block ?_
  refine wp_seq ?_
  refine wp_region ?_
  refine givenW_ops (N := 100) (i := 0) (d := 37) (s := .v (.pointer (some ⟨sb, so + q * 1, none⟩))) (l := [1, 2]) rfl (want_ rfl) rfl (by decide) h1 (op_indexT rfl (h1.2 33 _ rfl) (h1.2 35 _ rfl) Tryd.underlying23 Tryd.sizeOf22 hq) (fun a2 h2 d2 => ?_)
  replace d2 := d2.trans d1
  clear h1 d1
  refine givenW_ops (N := 100) (i := 1) (d := 38) (s := .v (.slice A1 p.length c1)) (l := [2]) rfl (want_ rfl) rfl (by decide) h2 (op_load rfl (h2.2 37 _ rfl) Tryd.isAgg22 ((hb.cell (World.block_lt_of_cell? w _ hcell)).trans hcell)) (fun a3 h3 d3 => ?_)
  replace d3 := d3.trans d2
  clear h2 d2
  refine opsP (N := 100) (T := TD) (M := (fun _ _ => none)) tabOkD (fun _ _ _ h => by cases h) [] [2] [(0, .v (.int .u8 a0)), (1, .v (.slice K lk.length kc)), (2, .v (.slice (some ⟨sb, so, none⟩) pl.length c)), (7, .v (.slice A7 L.length c7)), (8, .v v8), (10, .v (.slice A1 p.length c1)), (33, .v (.slice (some ⟨sb, so, none⟩) pl.length c)), (34, .v (.int .i64 (pl.length : Int))), (35, .v (.int .i64 (q : Int)))] h3 (by kernel_rfl) ⟨by kernel_rfl, by kernel_rfl, by kernel_rfl, by kernel_rfl, by kernel_rfl, by kernel_rfl, by kernel_rfl, by kernel_rfl, by kernel_rfl, trivial⟩ (fun a4 h4 d4 => ?_)
  replace d4 := d4.trans d3
  clear h3 d3
  show Code.wp _ _ _ _ _
  refine wp_seq ?_
  refine wp_seq ?_
  refine wp_region ?_
  refine opsP (N := 100) (T := TD) (M := (fun _ _ => none)) tabOkD (fun _ _ _ h => by cases h) [4, 5, 6, 7] [0, 1, 2, 3] [(0, .v (.int .u8 a0)), (1, .v (.slice K lk.length kc)), (2, .v (.slice (some ⟨sb, so, none⟩) pl.length c)), (7, .v (.slice A7 L.length c7)), (8, .v v8), (10, .v (.slice A1 p.length c1)), (33, .v (.slice (some ⟨sb, so, none⟩) pl.length c)), (34, .v (.int .i64 (pl.length : Int))), (35, .v (.int .i64 (q : Int))), (42, .v (.bool (decide ((p.length : Int) > 8192))))] h4 (by kernel_rfl) ⟨by kernel_rfl, by kernel_rfl, by kernel_rfl, by kernel_rfl, by kernel_rfl, by kernel_rfl, by kernel_rfl, by kernel_rfl, by kernel_rfl, by kernel_rfl, trivial⟩ (fun a5 h5 d5 => ?_)
  replace d5 := d5.trans d4
  clear h4 d4
  by_cases hpl : p.length ≤ 8192
  rotate_left
  · rw [show decide ((p.length : Int) > 8192) = true from decide_eq_true (by omega)] at h5
    refine skip_ops (N := 100) (i := 4) (d := 43) (j := 3) (dj := 42) (b := false) (b' := true) (l := [5, 6, 7]) rfl rfl rfl rfl (by decide) rfl (by decide) h5 (fun a6 h6 d6 => ?_)
    replace d6 := d6.trans d5
    clear h5 d5
    refine skip_ops (N := 100) (i := 5) (d := 44) (j := 3) (dj := 42) (b := false) (b' := true) (l := [6, 7]) rfl rfl rfl rfl (by decide) rfl (by decide) h6 (fun a7 h7 d7 => ?_)
    replace d7 := d7.trans d6
    clear h6 d6
    refine skip_ops (N := 100) (i := 6) (d := 45) (j := 3) (dj := 42) (b := false) (b' := true) (l := [7]) rfl rfl rfl rfl (by decide) rfl (by decide) h7 (fun a8 h8 d8 => ?_)
    replace d8 := d8.trans d7
    clear h7 d7
    refine givenW_ops (N := 100) (i := 7) (d := 46) (s := .v (Value.bool true)) (l := []) rfl (want_ rfl) rfl (by decide) h8 (op_pickT rfl (h8.2 42 _ rfl) rfl) (fun a9 h9 d9 => ?_)
    replace d9 := d9.trans d8
    clear h8 d8
    show Code.wp _ _ _ _ _
    refine wp_cond_true (h9.2 46 _ rfl) ?_
    refine wp_seq ?_
    refine wp_region ?_
    refine opsP (N := 100) (T := TD) (M := (fun _ _ => none)) tabOkD (fun _ _ _ h => by cases h) [] [0] [(6, .v (.bool true))] h9 (by kernel_rfl) ⟨by kernel_rfl, trivial⟩ (fun a10 h10 d10 => ?_)
    show Code.wp _ _ _ _ _
    refine wp_ret ?_
    exact hret a10 W (d10.trans d9) (h10.2 6 _ rfl) hb
  rw [show decide ((p.length : Int) > 8192) = false from decide_eq_false (by omega)] at h5
  refine guard_ops (N := 100) (T := TD) (M := (fun _ _ => none)) tabOkD (i := 4) (d := 43) (j := 3) (dj := 42) (b := false) (s := .v (.slice A7 L.length c7)) (l := [5, 6, 7]) (fun _ _ _ h => by cases h) rfl rfl rfl rfl rfl (by decide) h5 (by kernel_rfl) (fun a6 h6 d6 => ?_)
  replace d6 := d6.trans d5
  clear h5 d5
  refine callW_ops (N := 100) (i := 5) (d := 44) (f := 10) (args := [.v (.slice A7 L.length c7)]) (l := [6, 7]) rfl (want_g h6 (j := 3) (d := 42) (b := false) rfl rfl rfl) rfl (by decide) h6 Tryd.func10 rfl rfl rfl (by kernel_rfl) (fun v1 W1 => v1 = .bool (decide ((L.length : Int) ≤ 8192)) ∧ Below W.heap.size W W1) ((laws_hashBrief.calls A7 c7 L _ W hC7 hc7 rfl).mono fun e' W' hh => ⟨_, hh.1, rfl, hh.2.below⟩) (fun v7 W7 a7 hR7 h7 d7 => ?_)
  replace d7 := d7.trans d6
  clear h6 d6
  obtain ⟨rfl, hb7⟩ := hR7
  have hw7 : Below w.heap.size w W7 := hb.trans (hb7.mono hb.size)
  have hT1 : TextR W7 w.heap.size (.slice A7 L.length c7) L := Kd.R_below hT hb7
  have hS1 : StepR W7 w.heap.size v8 S := Kd.R_below hS hb7
  refine givenW_ops (N := 100) (i := 6) (d := 45) (s := .v (.bool (!decide ((L.length : Int) ≤ 8192)))) (l := [7]) rfl (want_g h7 (j := 3) (d := 42) (b := false) rfl rfl rfl) rfl (by decide) h7 (op_not rfl (h7.2 44 _ rfl)) (fun a8 h8 d8 => ?_)
  replace d8 := d8.trans d7
  clear h7 d7
  refine givenW_ops (N := 100) (i := 7) (d := 46) (s := .v (.bool (!decide ((L.length : Int) ≤ 8192)))) (l := []) rfl (want_ rfl) rfl (by decide) h8 (op_pickF rfl (h8.2 42 _ rfl) (h8.2 45 _ rfl)) (fun a9 h9 d9 => ?_)
  replace d9 := d9.trans d8
  clear h8 d8
  show Code.wp _ _ _ _ _
  by_cases hLb : L.length ≤ 8192
  rotate_left
  · refine wp_cond_true ((h9.2 46 _ rfl).trans (congrArg Value.bool (by rw [decide_eq_false (by omega)]; rfl))) ?_
    refine wp_seq ?_
    refine wp_region ?_
    refine opsP (N := 100) (T := TD) (M := (fun _ _ => none)) tabOkD (fun _ _ _ h => by cases h) [] [0] [(6, .v (.bool true))] h9 (by kernel_rfl) ⟨by kernel_rfl, trivial⟩ (fun a10 h10 d10 => ?_)
    show Code.wp _ _ _ _ _
    refine wp_ret ?_
    exact hret a10 W7 (d10.trans d9) (h10.2 6 _ rfl) hw7
  refine wp_cond_false ((h9.2 46 _ rfl).trans (congrArg Value.bool (by rw [decide_eq_true (by omega)]; rfl))) ?_
  refine wp_skip ?_
  show Code.wp _ _ _ _ _
  refine wp_seq ?_
  refine wp_region ?_
  refine opsP (N := 100) (T := TD) (M := (fun _ _ => none)) tabOkD (fun _ _ _ h => by cases h) [2, 3] [0, 1] [(0, .v (.int .u8 a0)), (1, .v (.slice K lk.length kc)), (2, .v (.slice (some ⟨sb, so, none⟩) pl.length c)), (7, .v (.slice A7 L.length c7)), (8, .v v8), (10, .v (.slice A1 p.length c1)), (33, .v (.slice (some ⟨sb, so, none⟩) pl.length c)), (34, .v (.int .i64 (pl.length : Int))), (35, .v (.int .i64 (q : Int))), (47, .v (.slice A7 L.length c7)), (48, .v (.slice A1 p.length c1))] h9 (by kernel_rfl) ⟨by kernel_rfl, by kernel_rfl, by kernel_rfl, by kernel_rfl, by kernel_rfl, by kernel_rfl, by kernel_rfl, by kernel_rfl, by kernel_rfl, by kernel_rfl, by kernel_rfl, trivial⟩ (fun a10 h10 d10 => ?_)
  replace d10 := d10.trans d9
  clear h9 d9
  refine app_ops (N := 100) (i := 2) (dst := 49) (l := [3]) (Kd.int .u8) (w0 := w) w.heap.size rfl rfl rfl (by decide) h10 (.tmp 47) (.tmp 48) 22 5 (.int .u8 0) 1 rfl Tryd.underlying22 (by kernel_rfl) rfl (by decide) (by decide) (.slice A7 L.length c7) L p A1 p.length c1 (fun _ => True) (fun _ => False) (h10.2 47 _ rfl) (h10.2 48 _ rfl) hT1 (Kd.C_below hC1 hw7) (fun _ _ h => h) (fun _ h => h.elim) (fun _ _ => trivial) hw7 hw7.size (by omega) (fun v9 W9 a11 hT9 hw9 hg9 h11 d11 => ?_)
  replace d11 := d11.trans d10
  clear h10 d10
  have hS9 : StepR W9 w.heap.size v8 S := grown_typed hS1 hT1 hg9 (fun q hq => by
      obtain rfl : q = 33 := by simpa [Kd.int, Kd.scalar, Kd.pair, KSl, KStep] using hq
      decide)
  refine opsP (N := 100) (T := TD) (M := (fun _ _ => none)) tabOkD (fun _ _ _ h => by cases h) [] [3] [(0, .v (.int .u8 a0)), (1, .v (.slice K lk.length kc)), (2, .v (.slice (some ⟨sb, so, none⟩) pl.length c)), (7, .v v9), (8, .v v8), (10, .v (.slice A1 p.length c1)), (33, .v (.slice (some ⟨sb, so, none⟩) pl.length c)), (34, .v (.int .i64 (pl.length : Int))), (35, .v (.int .i64 (q : Int)))] h11 (by kernel_rfl) ⟨by kernel_rfl, by kernel_rfl, by kernel_rfl, by kernel_rfl, by kernel_rfl, by kernel_rfl, by kernel_rfl, by kernel_rfl, by kernel_rfl, trivial⟩ (fun a12 h12 d12 => ?_)
  replace d12 := d12.trans d11
  clear h11 d11
  show Code.wp _ _ _ _ _
  refine wp_region ?_
  refine opsP (N := 100) (T := TD) (M := (fun _ _ => none)) tabOkD (fun _ _ _ h => by cases h) [2, 3, 4, 5] [0, 1] [(0, .v (.int .u8 a0)), (1, .v (.slice K lk.length kc)), (2, .v (.slice (some ⟨sb, so, none⟩) pl.length c)), (7, .v v9), (8, .v v8), (10, .v (.slice A1 p.length c1)), (33, .v (.slice (some ⟨sb, so, none⟩) pl.length c)), (34, .v (.int .i64 (pl.length : Int))), (35, .v (.int .i64 (q : Int))), (50, .v v8), (51, .v (.slice A1 p.length c1))] h12 (by kernel_rfl) ⟨by kernel_rfl, by kernel_rfl, by kernel_rfl, by kernel_rfl, by kernel_rfl, by kernel_rfl, by kernel_rfl, by kernel_rfl, by kernel_rfl, by kernel_rfl, by kernel_rfl, trivial⟩ (fun a13 h13 d13 => ?_)
  replace d13 := d13.trans d12
  clear h12 d12
  refine build_ops (N := 100) (i := 2) (d := 52) (cs := #[.int .u8 0, .slice A1 p.length c1, .int .u64 0]) (l := [3, 4, 5]) h13 (by kernel_rfl) (fun a14 h14 d14 => ?_)
  replace d14 := d14.trans d13
  clear h13 d13
  refine new_ops (N := 100) (i := 3) (d := 53) (l := [4, 5]) rfl rfl rfl (by decide) h14 (op_buildSlice1 rfl (h14.2 52 _ rfl) (build_stp W9 0 0 A1 p.length c1)) (fun a15 h15 d15 => ?_)
  replace d15 := d15.trans d14
  clear h14 d14
  have hal : Below W9.heap.size W9 (W9.alloc (.cells #[.int .u8 0, .slice A1 p.length c1, .int .u64 0] 33)) := (Below.refl _ _).alloc (Nat.le_refl _) _
  have hw10 : Below w.heap.size w (W9.alloc (.cells #[.int .u8 0, .slice A1 p.length c1, .int .u64 0] 33)) := hw9.trans (hal.mono hw9.size)
  refine app_ops (N := 100) (i := 4) (dst := 54) (l := [5]) KStep (w0 := w) w.heap.size rfl rfl rfl (by decide) h15 (.tmp 50) (.tmp 53) 29 33 (.agg #[.int .u8 0, .slice none 0 0, .int .u64 0]) 40 rfl Tryd.underlying29 (by kernel_rfl) rfl (by decide) (by decide) v8 S [((0 : Int), (A1, p.length, c1), (0 : Int))] (some ⟨W9.heap.size, 0, none⟩) 1 1 (fun _ => True) (fun _ => False) (h15.2 50 _ rfl) (h15.2 53 _ rfl) (Kd.R_below hS9 hal) (one_stp 0 0 A1 p.length c1) (fun _ _ h => h) (fun _ h => h.elim) (fun _ _ => trivial) hw10 hw10.size (by omega) (fun v11 W11 a16 hS11 hw11 hg11 h16 d16 => ?_)
  replace d16 := d16.trans d15
  clear h15 d15
  have hT11 : TextR W11 w.heap.size v9 (L ++ p) := grown_typed (Kd.R_below hT9 hal) (Kd.R_below hS9 hal) hg11 (fun q hq => by
      obtain rfl : q = 5 := by simpa [Kd.int, Kd.scalar] using hq
      decide)
  refine opsP (N := 100) (T := TD) (M := (fun _ _ => none)) tabOkD (fun _ _ _ h => by cases h) [] [5] [(0, .v (.int .u8 a0)), (1, .v (.slice K lk.length kc)), (2, .v (.slice (some ⟨sb, so, none⟩) pl.length c)), (7, .v v9), (8, .v v11), (33, .v (.slice (some ⟨sb, so, none⟩) pl.length c)), (34, .v (.int .i64 (pl.length : Int))), (35, .v (.int .i64 (q : Int)))] h16 (by kernel_rfl) ⟨by kernel_rfl, by kernel_rfl, by kernel_rfl, by kernel_rfl, by kernel_rfl, by kernel_rfl, by kernel_rfl, by kernel_rfl, trivial⟩ (fun a17 h17 d17 => ?_)
  replace d17 := d17.trans d16
  clear h16 d16
  show Code.wp _ _ _ _ _
  refine wp_region ?_
  refine opsP (N := 100) (T := TD) (M := (fun _ _ => none)) tabOkD (fun _ _ _ h => by cases h) [] [0, 1] [(0, .v (.int .u8 a0)), (1, .v (.slice K lk.length kc)), (2, .v (.slice (some ⟨sb, so, none⟩) pl.length c)), (7, .v v9), (8, .v v11), (33, .v (.slice (some ⟨sb, so, none⟩) pl.length c)), (34, .v (.int .i64 (pl.length : Int))), (35, .v (.int .i64 (IntKind.i64.wrap ((q : Int) + 1))))] h17 (by kernel_rfl) ⟨by kernel_rfl, by kernel_rfl, by kernel_rfl, by kernel_rfl, by kernel_rfl, by kernel_rfl, by kernel_rfl, by kernel_rfl, trivial⟩ (fun a18 h18 d18 => ?_)
  replace d18 := d18.trans d17
  clear h17 d17
  rw [show IntKind.i64.wrap ((q : Int) + 1) = ((q + 1 : Nat) : Int) by rw [i64_w]; unfold wrap64; omega] at h18
  exact hK a18 W11 p v9 v11 A1 c1 hp h18 d18 hw11 hT11 hS11 hc1 hC1 hpl
theorem run_pieces (sz : Nat) (y : Nat → Int) (pl : List (List Int)) : ∀ q, q ≤ pl.length → runF sz y (fun i => if i < pl.length then (0 : Int) else 1) (fun i => pl.getD i []) q = ((pl.take q).flatten, [])
  | 0, _ => rfl
  | q + 1, h => by
    have hq : q < pl.length := by omega
    have ih := run_pieces sz y pl q (by omega)
    show stF sz y (if q < pl.length then (0 : Int) else 1) (pl.getD q []) (runF sz y (fun i => if i < pl.length then (0 : Int) else 1) (fun i => pl.getD i []) q) = _
    rw [ih, if_pos hq]
    unfold stF
    rw [if_pos rfl, List.take_add_one, List.getD_eq_getElem?_getD, List.getElem?_eq_getElem hq, List.flatten_append]
    simp
theorem run_roads (sz : Nat) (y : Nat → Int) (pl : List (List Int)) : (runF sz y (fun i => if i < pl.length then (0 : Int) else 1) (fun i => pl.getD i []) (pl.length + 1)).2 = [sumS (sz : Int) (hvS y (lx pl.flatten) pl.flatten.length)] := by
  have h := run_pieces sz y pl pl.length (Nat.le_refl _)
  rw [List.take_length] at h
  show (stF sz y (if pl.length < pl.length then (0 : Int) else 1) (pl.getD pl.length []) (runF sz y (fun i => if i < pl.length then (0 : Int) else 1) (fun i => pl.getD i []) pl.length)).2 = _
  rw [h, if_neg (Nat.lt_irrefl _), List.getD_eq_getElem?_getD, List.getElem?_eq_none (Nat.le_refl _)]
  rfl
theorem flat_len (pl : List (List Int)) : ∀ q, (∀ i, i < q → (pl.getD i []).length ≤ 8192) → (pl.take q).flatten.length ≤ 8192 * q
  | 0, _ => by simp
  | q + 1, h => by
    have ih := flat_len pl q (fun i hi => h i (by omega))
    have hq := h q (by omega)
    rw [List.take_add_one, List.flatten_append, List.length_append]
    rw [List.getD_eq_getElem?_getD] at hq
    cases e : pl[q]? with
    | none =>
      have e2 : ((none : Option (List Int)).toList.flatten : List Int).length = 0 := rfl
      rw [e2]
      omega
    | some p =>
      rw [e] at hq
      have hq' : p.length ≤ 8192 := hq
      have e2 : ((some p).toList.flatten : List Int).length = p.length := by simp
      rw [e2]
      omega
noncomputable def c5_0 : Code := match Tryd.f5.body with
  | some c => c
  | _ => .skip
set_option maxHeartbeats 8000000 in
set_option maxRecDepth 100000 in
theorem roads_body (a0 : Int) (ha : 0 ≤ a0) (K : Option Addr) (kc : Nat) (lk : List Int) (A : Option Addr) (c : Nat) (pl : List (List Int)) (w : World) (hK : Kd.C (Kd.int .u8) w K lk.length lk) (hkc : lk.length ≤ kc) (hP : Kd.C KRows w A pl.length pl) (hpc : pl.length ≤ c) (a0_ : Act) (h0 : Has 100 (bn []) [(0, .v (.int .u8 a0)), (1, .v (.slice K lk.length kc)), (2, .v (.slice A pl.length c))] a0_) (d0 : a0_.defers = []) : Code.wp Tryd.prog c5_0 (bodyPost Tryd.prog Tryd.f5 fun e w' => e = .returned (.bool true) ∧ Below w.heap.size w w') a0_ w := by
  have hb0 : Below w.heap.size w w := Below.refl _ _
  refine wp_seq ?_
  refine wp_region ?_
  refine opsP (N := 100) (T := TD) (M := (fun _ _ => none)) tabOkD (fun _ _ _ h => by cases h) [] [0] [(0, .v (.int .u8 a0)), (1, .v (.slice K lk.length kc)), (2, .v (.slice A pl.length c)), (6, .v (.bool false))] h0 (by kernel_rfl) ⟨by kernel_rfl, by kernel_rfl, by kernel_rfl, by kernel_rfl, trivial⟩ (fun a1 h1 d1 => ?_)
  replace d1 := d1.trans d0
  clear h0 d0
  show Code.wp _ _ _ _ _
  refine wp_seq ?_
  refine wp_seq ?_
  refine wp_region ?_
  refine opsP (N := 100) (T := TD) (M := (fun _ _ => none)) tabOkD (fun _ _ _ h => by cases h) [4, 5, 6, 7] [0, 1, 2, 3] [(0, .v (.int .u8 a0)), (1, .v (.slice K lk.length kc)), (2, .v (.slice A pl.length c)), (6, .v (.bool false)), (20, .v (.bool (decide ((lk.length : Int) > 2147483647))))] h1 (by kernel_rfl) ⟨by kernel_rfl, by kernel_rfl, by kernel_rfl, by kernel_rfl, by kernel_rfl, trivial⟩ (fun a2 h2 d2 => ?_)
  replace d2 := d2.trans d1
  clear h1 d1
  by_cases hk1 : (lk.length : Int) > 2147483647
  · rw [show decide ((lk.length : Int) > 2147483647) = true from decide_eq_true hk1] at h2
    refine skip_ops (N := 100) (i := 4) (d := 21) (j := 3) (dj := 20) (b := false) (b' := true) (l := [5, 6, 7]) rfl rfl rfl rfl (by decide) rfl (by decide) h2 (fun a3 h3 d3 => ?_)
    replace d3 := d3.trans d2
    clear h2 d2
    refine skip_ops (N := 100) (i := 5) (d := 22) (j := 3) (dj := 20) (b := false) (b' := true) (l := [6, 7]) rfl rfl rfl rfl (by decide) rfl (by decide) h3 (fun a4 h4 d4 => ?_)
    replace d4 := d4.trans d3
    clear h3 d3
    refine skip_ops (N := 100) (i := 6) (d := 23) (j := 3) (dj := 20) (b := false) (b' := true) (l := [7]) rfl rfl rfl rfl (by decide) rfl (by decide) h4 (fun a5 h5 d5 => ?_)
    replace d5 := d5.trans d4
    clear h4 d4
    refine givenW_ops (N := 100) (i := 7) (d := 24) (s := .v (Value.bool true)) (l := []) rfl (want_ rfl) rfl (by decide) h5 (op_pickT rfl (h5.2 20 _ rfl) rfl) (fun a6 h6 d6 => ?_)
    replace d6 := d6.trans d5
    clear h5 d5
    show Code.wp _ _ _ _ _
    refine wp_cond_true (h6.2 24 _ rfl) ?_
    refine wp_seq ?_
    refine wp_region ?_
    refine opsP (N := 100) (T := TD) (M := (fun _ _ => none)) tabOkD (fun _ _ _ h => by cases h) [] [0] [(6, .v (.bool true))] h6 (by kernel_rfl) ⟨by kernel_rfl, trivial⟩ (fun a7 h7 d7 => ?_)
    show Code.wp _ _ _ _ _
    refine wp_ret ?_
    exact ⟨d7.trans d6, _, results_tmp rfl _ _ _, congrArg Ending.returned (h7.2 6 _ rfl), hb0⟩
  rw [show decide ((lk.length : Int) > 2147483647) = false from decide_eq_false hk1] at h2
  have hpm : pl.length ≤ 9223372036854775807 := hP.2.1
  obtain ⟨kf, rf, hf⟩ := fits3_some pl hpm
  refine guard_ops (N := 100) (T := TD) (M := (fun _ _ => none)) tabOkD (i := 4) (d := 21) (j := 3) (dj := 20) (b := false) (s := .v (.slice A pl.length c)) (l := [5, 6, 7]) (fun _ _ _ h => by cases h) rfl rfl rfl rfl rfl (by decide) h2 (by kernel_rfl) (fun a3 h3 d3 => ?_)
  replace d3 := d3.trans d2
  clear h2 d2
  refine callW_ops (N := 100) (i := 5) (d := 22) (f := 13) (args := [.v (.slice A pl.length c)]) (l := [6, 7]) rfl (want_g h3 (j := 3) (d := 20) (b := false) rfl rfl rfl) rfl (by decide) h3 Tryd.func13 rfl rfl rfl (by kernel_rfl) (fun v1 W1 => v1 = .bool rf ∧ Below w.heap.size w W1) ((laws_zzFits3.calls kf A c pl rf w hP hpc hf).mono fun e' W' hh => ⟨_, hh.1, rfl, by first | exact hh.2 | exact hh.2.below⟩) (fun v4 W4 a4 hR4 h4 d4 => ?_)
  replace d4 := d4.trans d3
  clear h3 d3
  obtain ⟨rfl, hb4⟩ := hR4
  refine givenW_ops (N := 100) (i := 6) (d := 23) (s := .v (.bool (!rf))) (l := [7]) rfl (want_g h4 (j := 3) (d := 20) (b := false) rfl rfl rfl) rfl (by decide) h4 (op_not rfl (h4.2 22 _ rfl)) (fun a5 h5 d5 => ?_)
  replace d5 := d5.trans d4
  clear h4 d4
  refine givenW_ops (N := 100) (i := 7) (d := 24) (s := .v (.bool (!rf))) (l := []) rfl (want_ rfl) rfl (by decide) h5 (op_pickF rfl (h5.2 20 _ rfl) (h5.2 23 _ rfl)) (fun a6 h6 d6 => ?_)
  replace d6 := d6.trans d5
  clear h5 d5
  show Code.wp _ _ _ _ _
  cases rf
  · refine wp_cond_true (h6.2 24 _ rfl) ?_
    refine wp_seq ?_
    refine wp_region ?_
    refine opsP (N := 100) (T := TD) (M := (fun _ _ => none)) tabOkD (fun _ _ _ h => by cases h) [] [0] [(6, .v (.bool true))] h6 (by kernel_rfl) ⟨by kernel_rfl, trivial⟩ (fun a7 h7 d7 => ?_)
    show Code.wp _ _ _ _ _
    refine wp_ret ?_
    exact ⟨d7.trans d6, _, results_tmp rfl _ _ _, congrArg Ending.returned (h7.2 6 _ rfl), hb4⟩
  refine wp_cond_false (h6.2 24 _ rfl) ?_
  refine wp_skip ?_
  show Code.wp _ _ _ _ _
  refine wp_seq ?_
  refine wp_seq ?_
  refine wp_region ?_
  refine opsP (N := 100) (T := TD) (M := (fun _ _ => none)) tabOkD (fun _ _ _ h => by cases h) [4, 5, 6, 7] [0, 1, 2, 3] [(0, .v (.int .u8 a0)), (1, .v (.slice K lk.length kc)), (2, .v (.slice A pl.length c)), (6, .v (.bool false)), (28, .v (.bool ((lk.length : Int) != 32)))] h6 (by kernel_rfl) ⟨by kernel_rfl, by kernel_rfl, by kernel_rfl, by kernel_rfl, by kernel_rfl, trivial⟩ (fun a7 h7 d7 => ?_)
  replace d7 := d7.trans d6
  clear h6 d6
  by_cases h32 : lk.length = 32
  rotate_left
  · rw [show ((lk.length : Int) != 32) = true by rw [bne_iff_ne]; omega] at h7
    refine skip_ops (N := 100) (i := 4) (d := 29) (j := 3) (dj := 28) (b := false) (b' := true) (l := [5, 6, 7]) rfl rfl rfl rfl (by decide) rfl (by decide) h7 (fun a8 h8 d8 => ?_)
    replace d8 := d8.trans d7
    clear h7 d7
    refine skip_ops (N := 100) (i := 5) (d := 30) (j := 3) (dj := 28) (b := false) (b' := true) (l := [6, 7]) rfl rfl rfl rfl (by decide) rfl (by decide) h8 (fun a9 h9 d9 => ?_)
    replace d9 := d9.trans d8
    clear h8 d8
    refine skip_ops (N := 100) (i := 6) (d := 31) (j := 3) (dj := 28) (b := false) (b' := true) (l := [7]) rfl rfl rfl rfl (by decide) rfl (by decide) h9 (fun a10 h10 d10 => ?_)
    replace d10 := d10.trans d9
    clear h9 d9
    refine givenW_ops (N := 100) (i := 7) (d := 32) (s := .v (Value.bool true)) (l := []) rfl (want_ rfl) rfl (by decide) h10 (op_pickT rfl (h10.2 28 _ rfl) rfl) (fun a11 h11 d11 => ?_)
    replace d11 := d11.trans d10
    clear h10 d10
    show Code.wp _ _ _ _ _
    refine wp_cond_true (h11.2 32 _ rfl) ?_
    refine wp_seq ?_
    refine wp_region ?_
    refine opsP (N := 100) (T := TD) (M := (fun _ _ => none)) tabOkD (fun _ _ _ h => by cases h) [] [0] [(6, .v (.bool true))] h11 (by kernel_rfl) ⟨by kernel_rfl, trivial⟩ (fun a12 h12 d12 => ?_)
    show Code.wp _ _ _ _ _
    refine wp_ret ?_
    exact ⟨d12.trans d11, _, results_tmp rfl _ _ _, congrArg Ending.returned (h12.2 6 _ rfl), hb4⟩
  rw [show ((lk.length : Int) != 32) = false by rw [h32]; rfl] at h7
  refine guard_ops (N := 100) (T := TD) (M := (fun _ _ => none)) tabOkD (i := 4) (d := 29) (j := 3) (dj := 28) (b := false) (s := .v (.slice A pl.length c)) (l := [5, 6, 7]) (fun _ _ _ h => by cases h) rfl rfl rfl rfl rfl (by decide) h7 (by kernel_rfl) (fun a8 h8 d8 => ?_)
  replace d8 := d8.trans d7
  clear h7 d7
  refine givenW_ops (N := 100) (i := 5) (d := 30) (s := .v (.int .i64 (pl.length : Int))) (l := [6, 7]) rfl (want_g h8 (j := 3) (d := 28) (b := false) rfl rfl rfl) rfl (by decide) h8 (op_len rfl Tryd.underlying23 (h8.2 29 _ rfl)) (fun a9 h9 d9 => ?_)
  replace d9 := d9.trans d8
  clear h8 d8
  refine guard_ops (N := 100) (T := TD) (M := (fun _ _ => none)) tabOkD (i := 6) (d := 31) (j := 3) (dj := 28) (b := false) (s := .v (.bool (decide ((pl.length : Int) > 60)))) (l := [7]) (fun _ _ _ h => by cases h) rfl rfl rfl rfl rfl (by decide) h9 (by kernel_rfl) (fun a10 h10 d10 => ?_)
  replace d10 := d10.trans d9
  clear h9 d9
  refine givenW_ops (N := 100) (i := 7) (d := 32) (s := .v (.bool (decide ((pl.length : Int) > 60)))) (l := []) rfl (want_ rfl) rfl (by decide) h10 (op_pickF rfl (h10.2 28 _ rfl) (h10.2 31 _ rfl)) (fun a11 h11 d11 => ?_)
  replace d11 := d11.trans d10
  clear h10 d10
  show Code.wp _ _ _ _ _
  by_cases hn : pl.length ≤ 60
  rotate_left
  · refine wp_cond_true ((h11.2 32 _ rfl).trans (congrArg Value.bool (decide_eq_true (by omega)))) ?_
    refine wp_seq ?_
    refine wp_region ?_
    refine opsP (N := 100) (T := TD) (M := (fun _ _ => none)) tabOkD (fun _ _ _ h => by cases h) [] [0] [(6, .v (.bool true))] h11 (by kernel_rfl) ⟨by kernel_rfl, trivial⟩ (fun a12 h12 d12 => ?_)
    show Code.wp _ _ _ _ _
    refine wp_ret ?_
    exact ⟨d12.trans d11, _, results_tmp rfl _ _ _, congrArg Ending.returned (h12.2 6 _ rfl), hb4⟩
  refine wp_cond_false ((h11.2 32 _ rfl).trans (congrArg Value.bool (decide_eq_false (by omega)))) ?_
  refine wp_skip ?_
  show Code.wp _ _ _ _ _
  refine wp_seq ?_
  refine wp_region ?_
  refine opsP (N := 100) (T := TD) (M := (fun _ _ => none)) tabOkD (fun _ _ _ h => by cases h) [] [0] [(0, .v (.int .u8 a0)), (1, .v (.slice K lk.length kc)), (2, .v (.slice A pl.length c)), (7, .v (.slice none 0 0))] h11 (by kernel_rfl) ⟨by kernel_rfl, by kernel_rfl, by kernel_rfl, by kernel_rfl, trivial⟩ (fun a12 h12 d12 => ?_)
  replace d12 := d12.trans d11
  clear h11 d11
  show Code.wp _ _ _ _ _
  refine wp_seq ?_
  refine wp_region ?_
  refine opsP (N := 100) (T := TD) (M := (fun _ _ => none)) tabOkD (fun _ _ _ h => by cases h) [] [0] [(0, .v (.int .u8 a0)), (1, .v (.slice K lk.length kc)), (2, .v (.slice A pl.length c)), (7, .v (.slice none 0 0)), (8, .v (.slice none 0 0))] h12 (by kernel_rfl) ⟨by kernel_rfl, by kernel_rfl, by kernel_rfl, by kernel_rfl, by kernel_rfl, trivial⟩ (fun a13 h13 d13 => ?_)
  replace d13 := d13.trans d12
  clear h12 d12
  show Code.wp _ _ _ _ _
  refine wp_seq ?_
  refine wp_seq ?_
  refine wp_region ?_
  refine opsP (N := 100) (T := TD) (M := (fun _ _ => none)) tabOkD (fun _ _ _ h => by cases h) [1, 2] [0] [(0, .v (.int .u8 a0)), (1, .v (.slice K lk.length kc)), (2, .v (.slice A pl.length c)), (7, .v (.slice none 0 0)), (8, .v (.slice none 0 0)), (33, .v (.slice A pl.length c))] h13 (by kernel_rfl) ⟨by kernel_rfl, by kernel_rfl, by kernel_rfl, by kernel_rfl, by kernel_rfl, by kernel_rfl, trivial⟩ (fun a14 h14 d14 => ?_)
  replace d14 := d14.trans d13
  clear h13 d13
  refine givenW_ops (N := 100) (i := 1) (d := 34) (s := .v (.int .i64 (pl.length : Int))) (l := [2]) rfl (want_ rfl) rfl (by decide) h14 (op_len rfl Tryd.underlying23 (h14.2 33 _ rfl)) (fun a15 h15 d15 => ?_)
  replace d15 := d15.trans d14
  clear h14 d14
  refine opsP (N := 100) (T := TD) (M := (fun _ _ => none)) tabOkD (fun _ _ _ h => by cases h) [] [2] [(0, .v (.int .u8 a0)), (1, .v (.slice K lk.length kc)), (2, .v (.slice A pl.length c)), (7, .v (.slice none 0 0)), (8, .v (.slice none 0 0)), (33, .v (.slice A pl.length c)), (34, .v (.int .i64 (pl.length : Int))), (35, .v (.int .i64 ((0 : Nat) : Int)))] h15 (by kernel_rfl) ⟨by kernel_rfl, by kernel_rfl, by kernel_rfl, by kernel_rfl, by kernel_rfl, by kernel_rfl, by kernel_rfl, by kernel_rfl, trivial⟩ (fun a16 h16 d16 => ?_)
  replace d16 := d16.trans d15
  clear h15 d15
  show Code.wp _ _ _ _ _
  refine wp_block ?_
  refine wp_loop (fun a wr => ∃ (q : Nat) (v7 v8 : Value) (S : List (Int × (Option Addr × Nat × Nat) × Int)), q ≤ pl.length ∧ Has 100 (bn []) [(0, .v (.int .u8 a0)), (1, .v (.slice K lk.length kc)), (2, .v (.slice A pl.length c)), (7, .v v7), (8, .v v8), (33, .v (.slice A pl.length c)), (34, .v (.int .i64 (pl.length : Int))), (35, .v (.int .i64 (q : Int)))] a ∧ a.defers = [] ∧ Below w.heap.size w wr ∧ TextR wr w.heap.size v7 (pl.take q).flatten ∧ StepR wr w.heap.size v8 S ∧ S.length = q ∧ (∀ i, i < q → ∃ A1 c1, S[i]? = some ((0 : Int), (A1, (pl.getD i []).length, c1), (0 : Int)) ∧ (pl.getD i []).length ≤ c1 ∧ Kd.C (Kd.int .u8) w A1 (pl.getD i []).length (pl.getD i [])) ∧ ∀ i, i < q → (pl.getD i []).length ≤ 8192) (fun a _ => pl.length - (intOf (a.eval (.tmp 35))).toNat) ⟨0, _, _, [], Nat.zero_le _, h16, d16, hb4, Kd.R_nil _ _ _ _ _, Kd.R_nil _ _ _ _ _, rfl, fun i hi => absurd hi (by omega), fun i hi => absurd hi (by omega)⟩ ?_
  rintro a wr ⟨q, v7, v8, S, hq, hH, hd, hb, hT, hS, hSn, hSq, hPq⟩
  clear h16 d16
  by_cases hlt : q < pl.length
  · refine roads_round a0 ha K kc lk A c pl w hK hkc hP hpc hn q hlt wr v7 v8 _ S hSn hb hT hS a _ _ hH (fun a' W' e1 e2 e3 => ?_) (fun a' W' p v7' v8' A1 c1 hp e1 e2 e3 e4 e5 e6 e7 e8 => ?_)
    · exact ⟨e1.trans hd, _, results_tmp rfl _ _ _, congrArg Ending.returned e2, e3⟩
    · have hgd : pl.getD q [] = p := by rw [List.getD_eq_getElem?_getD, hp]; rfl
      refine ⟨⟨q + 1, v7', v8', _, hlt, e1, e2.trans hd, e3, ?_, e5, by rw [List.length_append, hSn]; rfl, fun i hi => ?_, fun i hi => ?_⟩, ?_⟩
      · rw [List.take_add_one, hp, List.flatten_append]
        simpa using e4
      · by_cases hiq : i < q
        · obtain ⟨A2, c2, q1, q2⟩ := hSq i hiq
          exact ⟨A2, c2, by rw [List.getElem?_append_left (by omega)]; exact q1, q2⟩
        · obtain rfl : i = q := by omega
          rw [hgd]
          exact ⟨A1, c1, by rw [List.getElem?_append_right (by omega), show i - S.length = 0 by omega]; rfl, e6, e7⟩
      · by_cases hiq : i < q
        · exact hPq i hiq
        · obtain rfl : i = q := by omega
          rw [hgd]
          exact e8
      · have q1 : a'.eval (.tmp 35) = .int .i64 ((q + 1 : Nat) : Int) := e1.2 35 _ rfl
        have q2 : a.eval (.tmp 35) = .int .i64 (q : Int) := hH.2 35 _ rfl
        rw [q1, q2]
        simp only [intOf]
        omega
  · obtain rfl : q = pl.length := by omega
    rw [List.take_length] at hT
    have M0 : Mw (bn []) [] wr := ⟨bg_bn _, trivial⟩
    refine wp_seq ?_
    refine regM_seq (N := 100) (T := TD) (n := 1) (E2 := [(0, .v (.int .u8 a0)), (1, .v (.slice K lk.length kc)), (2, .v (.slice A pl.length c)), (7, .v v7), (8, .v v8), (36, .v (.bool (decide ((pl.length : Int) < (pl.length : Int)))))]) tabOkD hH M0 rfl (by kernel_rfl) ⟨by kernel_rfl, by kernel_rfl, by kernel_rfl, by kernel_rfl, by kernel_rfl, by kernel_rfl, trivial⟩ (fun a1 h1 d1 => ?_)
    show Code.wp _ _ _ _ _
    refine wp_seq ?_
    refine wp_cond_false ((h1.2 36 _ rfl).trans (congrArg Value.bool (decide_eq_false (by omega)))) (wp_exit ?_)
    refine then_exit (then_exit (exit_in ?_))
    show Code.wp _ _ _ _ _
    have hfl := flat_len pl pl.length hPq
    rw [List.take_length] at hfl
    refine roads_end a0 ha K kc lk A c pl w hK hkc hP hpc h32 hn wr v7 v8 pl.flatten S hb hT (by omega) hS hSn hSq (fun i => ?_) (fun sz => run_roads sz (lx lk) pl) a1 (sub_ok (E := [(0, .v (.int .u8 a0)), (1, .v (.slice K lk.length kc)), (2, .v (.slice A pl.length c)), (7, .v v7), (8, .v v8)]) h1 ⟨by kernel_rfl, by kernel_rfl, by kernel_rfl, by kernel_rfl, by kernel_rfl, trivial⟩) (d1.trans hd)
    by_cases hi : i < pl.length
    · have := hPq i hi
      omega
    · rw [List.getD_eq_getElem?_getD, List.getElem?_eq_none (by omega)]
      decide
theorem roads_walk (a0 : Int) (ha : 0 ≤ a0) (K : Option Addr) (kc : Nat) (lk : List Int) (A : Option Addr) (c : Nat) (pl : List (List Int)) (w : World) (hK : Kd.C (Kd.int .u8) w K lk.length lk) (hkc : lk.length ≤ kc) (hP : Kd.C KRows w A pl.length pl) (hpc : pl.length ≤ c) :
    Calls Tryd.prog 5 #[.int .u8 a0, .slice K lk.length kc, .slice A pl.length c] w fun e w' => e = .returned (.bool true) ∧ Below w.heap.size w w' :=
  calls_of_wp (c := c5_0) Tryd.func5 rfl (roads_body a0 ha K kc lk A c pl w hK hkc hP hpc _ (has_three (β := bn []) (.v _) (.v _) (.v _) 97) rfl)
end Go.Proofs.YtnehminojlocoaaDoor.PAll
namespace Go.Proofs.YtnehminojlocoaaDoor.PAll
open Go.RowKit Go.Proofs.YtnehminojlocoaaDoorW.PrintWords Go.Proofs.YtnehminojlocoaaDoorW.PrintLast Go.Proofs.YtnehminojlocoaaDoorW.PrintMore
set_option linter.unusedVariables false
theorem FnHighwayRoads_walk (a0 : Int) (a1 : Option Addr) (len1 cap1 : Nat) (z1 : List Int) (a2 : Option Addr) (len2 cap2 : Nat) (z2 : List (List Int)) (w : World) (b0 : 0 ≤ a0 ∧ a0 ≤ 255) (w1 : (a1 = none ∧ len1 = 0 ∧ cap1 = 0 ∧ z1 = []) ∨ ∃ x, a1 = some x ∧ len1 ≤ cap1 ∧ cap1 ≤ maxLen ∧ z1.length = cap1 ∧ (∀ i, i < z1.length → w.cell? (x.add i) = some (.int .u8 (z1.getD i 0))) ∧ ∀ n ∈ z1, (Lit.int .u8 n).wf = true) (y1 : len1 * 1 ≤ 140737488351232) (w2 : RowsIn w a2 len2 cap2 z2) :
    Calls Tryd.prog 5 #[.int .u8 a0, .slice a1 len1 cap1, .slice a2 len2 cap2] w fun e w' => e = .returned (.bool true) ∧ Below w.heap.size w w' := by
  obtain ⟨l, rfl, hc, hC, _⟩ := row_in w1
  obtain ⟨rfl, h2, hP, _⟩ := w2
  exact roads_walk a0 b0.1 a1 cap1 l a2 cap2 z2 w hC hc hP h2
end Go.Proofs.YtnehminojlocoaaDoor.PAll
