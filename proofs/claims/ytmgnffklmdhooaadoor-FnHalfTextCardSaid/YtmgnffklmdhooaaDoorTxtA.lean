/- TxtA: HtBase, HtEng, HtMem, HtTab, HtC, HtStep, HtPre. -/
import Derived.Test.YtmgnffklmdhooaaDoorPAllx1
import Derived.Test.YtmgnffklmdhooaaDoorPAllx4
import Derived.Deep.RegionWith
import Derived.Laws.CopyRow
import Derived.Laws.CopyOwn
import Derived.LoopN
import Derived.Laws.Tables
import Derived.Great.BuildSlice
import Derived.Laws.MakeOwn
namespace Go.Proofs.YtmgnffklmdhooaaDoor.PAll
open Go.RowKit Go.Proofs.YtmgnffklmdhooaaDoorW.PrintWords Go.Proofs.YtmgnffklmdhooaaDoorW.PrintLast Go.Proofs.YtmgnffklmdhooaaDoorW.PrintMore
set_option linter.unusedVariables false
set_option linter.unusedSimpArgs false
/-- What was there is as it was, but for the blocks S. -/
def Fr (S : List Nat) (w W : World) : Prop := W.os = w.os ∧ W.tape = w.tape ∧ W.output = w.output ∧ w.heap.size ≤ W.heap.size ∧ ∀ k, k < w.heap.size → k ∉ S → W.heap[k]? = w.heap[k]?
theorem Fr.refl (S : List Nat) (w : World) : Fr S w w := ⟨rfl, rfl, rfl, Nat.le_refl _, fun _ _ _ => rfl⟩
theorem Fr.trans {S : List Nat} {a b c : World} (h : Fr S a b) (k : Fr S b c) : Fr S a c :=
  ⟨k.1.trans h.1, k.2.1.trans h.2.1, k.2.2.1.trans h.2.2.1, Nat.le_trans h.2.2.2.1 k.2.2.2.1, fun i hi hs => (k.2.2.2.2 i (Nat.lt_of_lt_of_le hi h.2.2.2.1) hs).trans (h.2.2.2.2 i hi hs)⟩
theorem Fr.mono {S S' : List Nat} {a b : World} (h : Fr S a b) (hS : ∀ k, k ∈ S → k ∈ S') : Fr S' a b := ⟨h.1, h.2.1, h.2.2.1, h.2.2.2.1, fun i hi hs => h.2.2.2.2 i hi (fun hk => hs (hS i hk))⟩
theorem Fr.size {S : List Nat} {a b : World} (h : Fr S a b) : a.heap.size ≤ b.heap.size := h.2.2.2.1
theorem Fr.drew {S : List Nat} {a b : World} (h : Fr S a b) : Fr S a b.drew := h
theorem Fr.ofBelow {a b : World} (S : List Nat) (h : Below a.heap.size a b) : Fr S a b := ⟨h.os, h.tape, h.output, h.size, fun k hk _ => h.block k hk⟩
theorem Fr.alloc {S : List Nat} {a b : World} (h : Fr S a b) (o : Obj) : Fr S a (b.alloc o) := h.trans (Fr.ofBelow S ((Below.refl _ _).alloc (Nat.le_refl _) o))
theorem Fr.set {S : List Nat} {a b : World} (h : Fr S a b) (p : Addr) (hp : p.block ∈ S) (v : Value) : Fr S a (b.setCell p v) :=
  ⟨h.1, h.2.1, h.2.2.1, by have := h.2.2.2.1; simpa using this, fun k hk hs => (Below.heap_setCell b p v k (fun e => hs (e ▸ hp))).trans (h.2.2.2.2 k hk hs)⟩
theorem Fr.row {S : List Nat} {a b : World} (h : Fr S a b) (k : Nat) (hp : k ∈ S) (cs : Array Value) : Fr S a (b.setRow k cs) :=
  ⟨h.1, h.2.1, h.2.2.1, by have := h.2.2.2.1; simpa using this, fun i hi hs => (setRow_other b k i cs (fun e => hs (e ▸ hp))).trans (h.2.2.2.2 i hi hs)⟩
theorem Fr.below {S : List Nat} {a b : World} (h : Fr S a b) (B : Nat) (hB : B ≤ a.heap.size) (hS : ∀ k, k ∈ S → B ≤ k) : Below B a b :=
  ⟨h.1, h.2.1, h.2.2.1, h.2.2.2.1, fun k hk => h.2.2.2.2 k (Nat.lt_of_lt_of_le hk hB) (fun hs => Nat.not_lt.2 (hS k hs) hk)⟩
theorem Fr.block {S : List Nat} {a b : World} (h : Fr S a b) {k : Nat} {o : Obj} (hk : a.heap[k]? = some o) (hs : k ∉ S) : b.heap[k]? = some o := (h.2.2.2.2 k (blk_lt hk) hs).trans hk
theorem Fr.cell {S : List Nat} {a b : World} (h : Fr S a b) {p : Addr} {v : Value} (hk : a.cell? p = some v) (hs : p.block ∉ S) : b.cell? p = some v :=
  (World.cell?_of_block (h.2.2.2.2 p.block (World.block_lt_of_cell? a _ hk) hs)).trans hk
/-- A number put into its place. -/
def upd (s : Nat → Int) (i : Nat) (x : Int) : Nat → Int := fun j => if j = i then x else s j
/-- A block whose first sixteen cells are the numbers s; r: what lies behind them. -/
def St (g : Nat) (T : TypeId) (r : Nat → Option Value) (s : Nat → Int) (W : World) : Prop := ∃ cs, W.heap[g]? = some (.cells cs T (0, 0)) ∧ (∀ i, i < 16 → cs[i]? = some (.int .u64 (s i))) ∧ ∀ i, 16 ≤ i → cs[i]? = r i
section
variable {g : Nat} {T : TypeId} {r : Nat → Option Value} {s : Nat → Int} {W : World}
theorem St.drew (h : St g T r s W) : St g T r s W.drew := h
theorem St.lt (h : St g T r s W) : g < W.heap.size := by
  obtain ⟨cs, h1, _⟩ := h
  exact blk_lt h1
theorem St.cell (h : St g T r s W) (i : Nat) (hi : i < 16) : W.cell? ⟨g, i, none⟩ = some (.int .u64 (s i)) := by
  obtain ⟨cs, h1, h2, _⟩ := h
  rw [blk_cell h1]
  exact h2 i hi
theorem St.rest (h : St g T r s W) (i : Nat) (hi : 16 ≤ i) : W.cell? ⟨g, i, none⟩ = r i := by
  obtain ⟨cs, h1, _, h2⟩ := h
  rw [blk_cell h1]
  exact h2 i hi
theorem St.free (h : St g T r s W) (i : Nat) : W.frozen? ⟨g, i, none⟩ = false := by
  obtain ⟨cs, h1, _⟩ := h
  exact blk_frozen h1 i
theorem St.set (h : St g T r s W) (i : Nat) (hi : i < 16) (x : Int) : St g T r (upd s i x) (W.setCell ⟨g, i, none⟩ (.int .u64 x)) := by
  obtain ⟨cs, h1, h2, h3⟩ := h
  have hl : i < cs.size := (Array.getElem?_eq_some_iff.1 (h2 i hi)).1
  refine ⟨_, blk_set h1 i (.int .u64 x), fun j hj => ?_, fun j hj => ?_⟩
  · unfold upd
    by_cases e : j = i
    · subst e
      rw [if_pos rfl, Array.getElem?_setIfInBounds_self_of_lt hl]
    · rw [if_neg e, Array.getElem?_setIfInBounds_ne (Ne.symm e)]
      exact h2 j hj
  · rw [Array.getElem?_setIfInBounds_ne (by omega)]
    exact h3 j hj
theorem St.on {S : List Nat} {W' : World} (h : St g T r s W) (h' : Fr S W W') (hg : g ∉ S) : St g T r s W' := by
  obtain ⟨cs, h1, h2⟩ := h
  exact ⟨cs, h'.block h1 hg, h2⟩
theorem St.onB {W' : World} (h : St g T r s W) (h' : Below W.heap.size W W') : St g T r s W' := h.on (Fr.ofBelow [] h') (by simp)
theorem St.alloc (h : St g T r s W) (o : Obj) : St g T r s (W.alloc o) := by
  obtain ⟨cs, h1, h2⟩ := h
  exact ⟨cs, blk_alloc h1 _, h2⟩
end
/-- Octets in a row of cells. -/
def Bts (b o n : Nat) (x : Nat → Int) (W : World) : Prop := ∀ i, i < n → W.cell? ⟨b, o + i, none⟩ = some (.int .u8 (x i))
theorem Bts.on {S : List Nat} {b o n : Nat} {x : Nat → Int} {W W' : World} (h : Bts b o n x W) (h' : Fr S W W') (hb : b ∉ S) : Bts b o n x W' := fun i hi => h'.cell (h i hi) hb
theorem Bts.onB {b o n : Nat} {x : Nat → Int} {W W' : World} (h : Bts b o n x W) (h' : Below W.heap.size W W') : Bts b o n x W' := h.on (Fr.ofBelow [] h') (by simp)
theorem Bts.from {b o n : Nat} {x : Nat → Int} {W : World} (h : Bts b o n x W) (k m : Nat) (hk : k + m ≤ n) : Bts b (o + k) m (fun i => x (k + i)) W := fun i hi => by
  have := h (k + i) (by omega)
  rwa [← Nat.add_assoc] at this
end Go.Proofs.YtmgnffklmdhooaaDoor.PAll
namespace Go.Proofs.YtmgnffklmdhooaaDoor.PAll
open Go.RowKit Go.Proofs.YtmgnffklmdhooaaDoorW.PrintWords Go.Proofs.YtmgnffklmdhooaaDoorW.PrintLast Go.Proofs.YtmgnffklmdhooaaDoorW.PrintMore
set_option linter.unusedVariables false
set_option linter.unusedSimpArgs false
/-- A value as the walk knows it: plain, or a pointer to cell i of the known block k. -/
inductive SV where
  | v (x : Value)
  | p (k i : Nat)
  | s (k i n c : Nat)
def SV.den (β : Nat → Nat) : SV → Value
  | .v x => x
  | .p k i => .pointer (some ⟨β k, i, none⟩)
  | .s k i n c => .slice (some ⟨β k, i, none⟩) n c
def look : List (Nat × SV) → Nat → Option SV
  | [], _ => none
  | (k, x) :: E, t => match Nat.beq k t with
    | true => some x
    | false => look E t
/-- The frame has N slots, of which E tells some. -/
def Has (N : Nat) (β : Nat → Nat) (E : List (Nat × SV)) (a : Act) : Prop := a.tmps.size = N ∧ ∀ t x, look E t = some x → a.eval (.tmp t) = x.den β
theorem Has.put {N : Nat} {β : Nat → Nat} {E : List (Nat × SV)} {a : Act} (h : Has N β E a) (d : Nat) (hd : d < N) (x : SV) : Has N β ((d, x) :: E) (a.put (some d) (x.den β)) := by
  refine ⟨by simp [Act.put, h.1], fun t y hy => ?_⟩
  unfold look at hy
  split at hy
  · next e =>
    obtain rfl := Nat.eq_of_beq_eq_true e
    obtain rfl := Option.some.inj hy
    simp [Act.eval, Act.put, h.1, hd]
  · next e =>
    have hne : d ≠ t := Nat.ne_of_beq_eq_false e
    have := h.2 t y hy
    simp only [Act.eval, Act.put] at this ⊢
    rw [← this]
    simp [Array.getD_eq_getD_getElem?, Array.getElem?_setIfInBounds_ne hne]
def evO (E : List (Nat × SV)) : Operand → Option SV
  | .tmp t => look E t
  | .const v => some (.v v)
  | .func f => some (.v (.func (.func f) #[] #[]))
  | .global g => some (.v (.pointer (some ⟨g, 0, none⟩)))
theorem evO_ok {N : Nat} {β : Nat → Nat} {E : List (Nat × SV)} {a : Act} (h : Has N β E a) {x : Operand} {s : SV} (hs : evO E x = some s) : a.eval x = s.den β := by
  cases x with
  | tmp t => exact h.2 t s hs
  | const v => obtain rfl := Option.some.inj hs; rfl
  | func f => obtain rfl := Option.some.inj hs; rfl
  | global g => obtain rfl := Option.some.inj hs; rfl
/-- Types as the walk knows them. -/
inductive Ty where
  | int (k : IntKind)
  | bool
  | arr (n : Nat)
  | st (offs : List Nat)
  | unit
  | sl
def TyOk (P : Program) (t : TypeId) : Ty → Prop
  | .int k => P.underlying t = some (.int k) ∧ (∀ w, (isAgg t).run P w = .ok false w) ∧ ∀ w, (Go.sizeOf t).run P w = .ok 1 w
  | .bool => P.underlying t = some .bool ∧ (∀ w, (isAgg t).run P w = .ok false w) ∧ ∀ w, (Go.sizeOf t).run P w = .ok 1 w
  | .arr n => ∃ e, P.underlying t = some (.array n e) ∧ (∀ w, (Go.sizeOf e).run P w = .ok 1 w) ∧ (∀ w, (isAgg t).run P w = .ok true w) ∧ (∀ w, (Go.sizeOf t).run P w = .ok n w) ∧ (∀ w, (isAgg e).run P w = .ok false w)
  | .st offs => ∃ fs : Array Field, P.underlying t = some (.struct fs) ∧ ∀ (f o : Nat), offs[f]? = some o → ∃ fd : Field, fs[f]? = some fd ∧ fd.offset = o ∧ ∃ n : Nat, ∀ w, (Go.sizeOf fd.type).run P w = .ok (n + 1) w
  | .unit => (∀ w, (isAgg t).run P w = .ok true w) ∧ ∀ w, (Go.sizeOf t).run P w = .ok 0 w
  | .sl => ∃ e, P.underlying t = some (.slice e) ∧ ∀ w, (Go.sizeOf e).run P w = .ok 1 w
section
variable {P : Program} {ρ : Operand → Value} {o : Oper} {W : World}
theorem op_move {x : Operand} {v : Value} (ho : o.op = .move x) (hx : ρ x = v) : (execOp ρ o).run P W = .ok (.value v) W := by
  unfold execOp
  rw [ho, ← hx]
  rfl
theorem op_assign {x : Operand} {v : Value} (ho : o.op = .assign x) (hx : ρ x = v) : (execOp ρ o).run P W = .ok (.value v) W := by
  unfold execOp
  rw [ho, ← hx]
  rfl
theorem op_nilCheck {x : Operand} {A : Addr} (ho : o.op = .nilCheck x) (hx : ρ x = .pointer (some A)) : (execOp ρ o).run P W = .ok (.value (.pointer (some A))) W := by
  unfold execOp
  rw [ho]
  simp only [hx]
  rfl
theorem op_load {t : TypeId} {x : Operand} {A : Addr} {v : Value} (ho : o.op = .load t x) (hx : ρ x = .pointer (some A)) (hagg : ∀ w, (isAgg t).run P w = .ok false w) (hc : W.cell? A = some v) : (execOp ρ o).run P W = .ok (.value v) W := by
  unfold execOp
  rw [ho]
  simp [go_sem, hx, hagg, hc]
theorem und {t : TypeId} {d : TypeDesc} (h : P.underlying t = some d) (w : World) : (underlying t).run P w = .ok d w := by
  simp [go_sem, underlying, h]
theorem op_index {t e : TypeId} {n j : Nat} {x ix : Operand} {b i : Nat} (ho : o.op = .indexAddr t x ix) (hx : ρ x = .pointer (some ⟨b, i, none⟩)) (hi : ρ ix = .int .i64 (j : Int)) (ht : P.underlying t = some (.array n e)) (hs : ∀ w, (Go.sizeOf e).run P w = .ok 1 w) (hj : j < n) :
    (execOp ρ o).run P W = .ok (.value (.pointer (some ⟨b, i + j, none⟩))) W := by
  unfold execOp
  rw [ho]
  simp [go_sem, Instr.indexAt, hx, hi, und ht, hs, hj, Addr.add]
theorem op_field {t : TypeId} {fs : Array Field} {fd : Field} {x : Operand} {f b i n : Nat} (ho : o.op = .fieldAddr t x f) (hx : ρ x = .pointer (some ⟨b, i, none⟩)) (ht : P.underlying t = some (.struct fs)) (hf : fs[f]? = some fd) (hs : ∀ w, (Go.sizeOf fd.type).run P w = .ok (n + 1) w) :
    (execOp ρ o).run P W = .ok (.value (.pointer (some ⟨b, i + fd.offset, none⟩))) W := by
  unfold execOp
  rw [ho]
  simp [go_sem, Instr.fieldAt, fieldPlace, hx, und ht, hf, hs, Addr.add]
theorem op_bin {op : BinOp} {t t2 : TypeId} {x y : Operand} {k k' : IntKind} {p q : Int} {v : Value} (ho : o.op = .binOp op t x y t2) (hx : ρ x = .int k p) (hy : ρ y = .int k' q) (hb : ∀ w, (binOp op t (.int k p) (.int k' q)).run P w = .ok v w) :
    (execOp ρ o).run P W = .ok (.value v) W := by
  unfold execOp
  rw [ho]
  simp [go_sem, eqGuard, hx, hy, hb]
theorem op_conv {s d : TypeId} {k k' : IntKind} {x : Operand} {n : Int} (ho : o.op = .convert s d x) (hx : ρ x = .int k n) (hs : P.underlying s = some (.int k)) (hd : P.underlying d = some (.int k')) : (execOp ρ o).run P W = .ok (.value (.int k' (k'.wrap n))) W := by
  unfold execOp
  rw [ho]
  simp [go_sem, convert, hx, und hs, und hd, Conv.intToInt]
theorem op_indexE {t e : TypeId} {x ix : Operand} {b i n c j : Nat} (ho : o.op = .indexAddr t x ix) (hx : ρ x = .slice (some ⟨b, i, none⟩) n c) (hi : ρ ix = .int .i64 (j : Int)) (ht : P.underlying t = some (.slice e)) (hs : ∀ w, (Go.sizeOf e).run P w = .ok 1 w) (hj : j < n) :
    (execOp ρ o).run P W = .ok (.value (.pointer (some ⟨b, i + j, none⟩))) W := by
  unfold execOp
  rw [ho]
  simp [go_sem, Instr.indexAt, hx, hi, und ht, hs, hj, Addr.add]
theorem op_negI {t : TypeId} {x : Operand} {k : IntKind} {n : Int} (ho : o.op = .unOp .neg t x) (hx : ρ x = .int k n) : (execOp ρ o).run P W = .ok (.value (.int k (k.wrap (0 - n)))) W := by
  unfold execOp
  rw [ho]
  simp [go_sem, Op.unary, hx, Op.intArith]
theorem op_notB {t : TypeId} {x : Operand} {b : Bool} (ho : o.op = .unOp .not t x) (hx : ρ x = .bool b) : (execOp ρ o).run P W = .ok (.value (.bool !b)) W := by
  unfold execOp
  rw [ho]
  simp [go_sem, Op.unary, hx]
theorem op_extract {x : Operand} {vs : Array Value} {i : Nat} {v : Value} (ho : o.op = .extract x i) (hx : ρ x = .tuple vs) (hv : vs[i]? = some v) : (execOp ρ o).run P W = .ok (.value v) W := by
  unfold execOp
  rw [ho]
  simp [go_sem, Instr.extract, hx, hv]
theorem op_unit {t : TypeId} {x : Operand} {A : Addr} (ho : o.op = .load t x) (hx : ρ x = .pointer (some A)) (h1 : ∀ w, (isAgg t).run P w = .ok true w) (h2 : ∀ w, (Go.sizeOf t).run P w = .ok 0 w) : (execOp ρ o).run P W = .ok (.value (.agg #[])) W := by
  unfold execOp
  rw [ho]
  simp [go_sem, hx, h1, h2]
theorem op_len {x : Operand} {t e : TypeId} {p : Option Addr} {n c : Nat} (ho : o.op = .call { callee := .builtin .len, args := #[x], argTypes := #[t] }) (ht : P.underlying t = some (.slice e)) (hx : ρ x = .slice p n c) : (execOp ρ o).run P W = .ok (.value (.int .i64 (n : Int))) W := by
  unfold execOp
  rw [ho]
  simp [go_sem, resolve, invoke, builtin, Builtin.len_, hx, und ht, goInt]
theorem op_slice {t : TypeId} {x : Operand} {lo hi : Option Operand} {v : Value} (ho : o.op = .slice t x lo hi none) (h : (Instr.sliceAt t (ρ x) (lo.map ρ) (hi.map ρ) none).run P W = .ok v W) : (execOp ρ o).run P W = .ok (.value v) W := by
  unfold execOp
  rw [ho]
  simp [go_sem]
  show Result.andThen ((Instr.sliceAt t (ρ x) (lo.map ρ) (hi.map ρ) none).run P W) _ = _
  rw [h]
  rfl
theorem op_arr {t : TypeId} {x : Operand} {b i n : Nat} {f : Nat → Value} (ho : o.op = .load t x) (hx : ρ x = .pointer (some ⟨b, i, none⟩)) (h1 : ∀ w, (isAgg t).run P w = .ok true w) (h2 : ∀ w, (Go.sizeOf t).run P w = .ok n w) (hc : ∀ j, j < n → W.cell? ⟨b, i + j, none⟩ = some (f j)) :
    (execOp ρ o).run P W = .ok (.value (.agg ((List.range n).map f).toArray)) W := by
  have hl := run_loadCells (P := P) (w := W) ⟨b, i, none⟩ n f (fun j hj => by
    have e : (Addr.add ⟨b, i, none⟩ j) = ⟨b, i + j, none⟩ := by
      by_cases h0 : j = 0
      · simp [h0, Addr.add]
      · simp [h0, Addr.add]
    rw [e]
    exact hc j hj)
  unfold loadCells at hl
  unfold execOp
  rw [ho]
  simp [go_sem, hx, h1, h2, hl]
theorem op_sliceArr {t e : TypeId} {x : Operand} {b i n l h : Nat} {lo hi : Option Operand} (ho : o.op = .slice t x lo hi none) (hx : ρ x = .pointer (some ⟨b, i, none⟩)) (ht : P.underlying t = some (.array n e)) (hs : ∀ w, (Go.sizeOf e).run P w = .ok 1 w)
    (hlo : (lo = none ∧ l = 0) ∨ ∃ y, lo = some y ∧ ρ y = .int .i64 (l : Int)) (hhi : (hi = none ∧ h = n) ∨ ∃ y, hi = some y ∧ ρ y = .int .i64 (h : Int)) (hlh : l ≤ h) (hhn : h ≤ n) (hln : l < n) :
    (execOp ρ o).run P W = .ok (.value (.slice (some ⟨b, i + l, none⟩) (h - l) (n - l))) W := by
  have hne : ¬ n = l := by omega
  unfold execOp
  rw [ho]
  rcases hlo with ⟨rfl, rfl⟩ | ⟨y, rfl, hy⟩
  · rcases hhi with ⟨rfl, rfl⟩ | ⟨z, rfl, hz⟩
    · simp [go_sem, Instr.sliceAt, Instr.sliceBounds, hx, und ht, hs, Addr.add, hne]
    · simp [go_sem, Instr.sliceAt, Instr.sliceBounds, Instr.sliceBound, hx, hz, und ht, hs, Addr.add, hne, hhn]
  · rcases hhi with ⟨rfl, rfl⟩ | ⟨z, rfl, hz⟩
    · by_cases h0 : l = 0
      · subst h0
        simp [go_sem, Instr.sliceAt, Instr.sliceBounds, Instr.sliceBound, hx, hy, und ht, hs, Addr.add, hne]
      · simp [go_sem, Instr.sliceAt, Instr.sliceBounds, Instr.sliceBound, hx, hy, und ht, hs, Addr.add, hne, hlh, h0]
    · by_cases h0 : l = 0
      · subst h0
        simp [go_sem, Instr.sliceAt, Instr.sliceBounds, Instr.sliceBound, hx, hy, hz, und ht, hs, Addr.add, hne, hhn]
      · simp [go_sem, Instr.sliceAt, Instr.sliceBounds, Instr.sliceBound, hx, hy, hz, und ht, hs, Addr.add, hne, hlh, hhn, h0]
theorem op_sliceSl {t e : TypeId} {x : Operand} {b i n c l h : Nat} {lo hi : Option Operand} (ho : o.op = .slice t x lo hi none) (hx : ρ x = .slice (some ⟨b, i, none⟩) n c) (ht : P.underlying t = some (.slice e)) (hs : ∀ w, (Go.sizeOf e).run P w = .ok 1 w)
    (hlo : (lo = none ∧ l = 0) ∨ ∃ y, lo = some y ∧ ρ y = .int .i64 (l : Int)) (hhi : (hi = none ∧ h = n) ∨ ∃ y, hi = some y ∧ ρ y = .int .i64 (h : Int)) (hlh : l ≤ h) (hhn : h ≤ c) (hln : l < c) :
    (execOp ρ o).run P W = .ok (.value (.slice (some ⟨b, i + l, none⟩) (h - l) (c - l))) W := by
  have hne : ¬ c = l := by omega
  unfold execOp
  rw [ho]
  rcases hlo with ⟨rfl, rfl⟩ | ⟨y, rfl, hy⟩
  · rcases hhi with ⟨rfl, rfl⟩ | ⟨z, rfl, hz⟩
    · simp [go_sem, Instr.sliceAt, Instr.slice, Instr.sliceBounds, hx, und ht, hs, Addr.add, hne]
    · simp [go_sem, Instr.sliceAt, Instr.slice, Instr.sliceBounds, Instr.sliceBound, hx, hz, und ht, hs, Addr.add, hne, hhn]
  · rcases hhi with ⟨rfl, rfl⟩ | ⟨z, rfl, hz⟩
    · by_cases h0 : l = 0
      · subst h0
        simp [go_sem, Instr.sliceAt, Instr.slice, Instr.sliceBounds, Instr.sliceBound, hx, hy, und ht, hs, Addr.add, hne]
      · simp [go_sem, Instr.sliceAt, Instr.slice, Instr.sliceBounds, Instr.sliceBound, hx, hy, und ht, hs, Addr.add, hne, hlh, h0]
    · by_cases h0 : l = 0
      · subst h0
        simp [go_sem, Instr.sliceAt, Instr.slice, Instr.sliceBounds, Instr.sliceBound, hx, hy, hz, und ht, hs, Addr.add, hne, hhn]
      · simp [go_sem, Instr.sliceAt, Instr.slice, Instr.sliceBounds, Instr.sliceBound, hx, hy, hz, und ht, hs, Addr.add, hne, hlh, hhn, h0]
theorem op_indexAgg {t e : TypeId} {x ix : Operand} {n j : Nat} {cs : Array Value} {v : Value} (ho : o.op = .index t x ix) (hx : ρ x = .agg cs) (hi : ρ ix = .int .i64 (j : Int)) (ht : P.underlying t = some (.array n e)) (hs : ∀ w, (Go.sizeOf e).run P w = .ok 1 w) (ha : ∀ w, (isAgg e).run P w = .ok false w) (hj : j < n) (hv : cs[j]? = some v) :
    (execOp ρ o).run P W = .ok (.value v) W := by
  unfold execOp
  rw [ho]
  simp [go_sem, Instr.index, hx, hi, und ht, hs, ha, hj, hv, part]
theorem op_store {t : TypeId} {x y : Operand} {A : Addr} {v v0 : Value} (ho : o.op = .store t x y) (hx : ρ x = .pointer (some A)) (hy : ρ y = v) (hv : (∃ k n, v = .int k n) ∨ ∃ b, v = .bool b) (hs : ∀ w, (Go.sizeOf t).run P w = .ok 1 w) (hc : W.cell? A = some v0) (hf : W.frozen? A = false) :
    (execOp ρ o).run P W = .ok .skip (W.setCell A v) := by
  unfold execOp
  rw [ho]
  rcases hv with ⟨k, n, rfl⟩ | ⟨b, rfl⟩
  · simp [go_sem, hx, hy, hs, hc, hf]
  · simp [go_sem, hx, hy, hs, hc, hf]
end
def binV (op : BinOp) (k : IntKind) (p : Int) (k' : IntKind) (q : Int) : Option Value :=
  match op with
  | .add => if k = k' then some (.int k (k.wrap (p + q))) else none
  | .sub => if k = k' then some (.int k (k.wrap (p - q))) else none
  | .mul => if k = k' then some (.int k (k.wrap (p * q))) else none
  | .and => if k = k' then some (.int k (Go.bits .and k p q)) else none
  | .or => if k = k' then some (.int k (Go.bits .or k p q)) else none
  | .xor => if k = k' then some (.int k (Go.bits .xor k p q)) else none
  | .shl => match q with
    | .ofNat n => some (.int k (k.wrap (p * ((2 ^ (min n k.bits) : Nat) : Int))))
    | _ => none
  | .shr => match q with
    | .ofNat n => some (.int k (p / ((2 ^ (min n k.bits) : Nat) : Int)))
    | _ => none
  | .lss => if k = k' then some (.bool (decide (p < q))) else none
  | .geq => if k = k' then some (.bool (decide (p ≥ q))) else none
  | .gtr => if k = k' then some (.bool (decide (p > q))) else none
  | .eql => if k = k' then some (.bool (p == q)) else none
  | .neq => if k = k' then some (.bool (p != q)) else none
  | .leq => if k = k' then some (.bool (decide (p ≤ q))) else none
  | .quo => match q with
    | .ofNat (n + 1) => if k = k' then some (.int k (k.wrap (p.tdiv ((n + 1 : Nat) : Int)))) else none
    | _ => none
  | .rem => match q with
    | .ofNat (n + 1) => if k = k' then some (.int k (p.tmod ((n + 1 : Nat) : Int))) else none
    | _ => none
  | _ => none
theorem shr_nat (k yk : IntKind) (p : Int) (n : Nat) : Op.shift .shr k p yk (n : Int) = pure (.int k (p / ((2 ^ (min n k.bits) : Nat) : Int))) := by
  have hm : ¬ ((n : Int) < 0) := by omega
  have hp : (0 : Int) ≤ ((2 ^ (min n k.bits) : Nat) : Int) := Int.natCast_nonneg _
  unfold Op.shift
  rw [if_neg hm, ← Int.fdiv_eq_ediv_of_nonneg _ hp]
  simp only [Int.toNat_natCast, Int.natCast_pow]
  rfl
theorem shl_nat (k yk : IntKind) (p : Int) (n : Nat) : Op.shift .shl k p yk (n : Int) = pure (.int k (k.wrap (p * ((2 ^ (min n k.bits) : Nat) : Int)))) := by
  have hm : ¬ ((n : Int) < 0) := by omega
  unfold Op.shift
  rw [if_neg hm]
  simp only [Int.toNat_natCast, Int.natCast_pow]
  rfl
theorem binV_ok {P : Program} {op : BinOp} {t : TypeId} {k k' : IntKind} {p q : Int} {v : Value} (h : binV op k p k' q = some v) (w : World) : (binOp op t (.int k p) (.int k' q)).run P w = .ok v w := by
  cases op <;> simp only [binV] at h
  case shl =>
    cases q with
    | ofNat n =>
      obtain rfl := Option.some.inj h
      show (Op.shift .shl k p k' (n : Int)).run P w = _
      rw [shl_nat]
      rfl
    | negSucc n => cases h
  case shr =>
    cases q with
    | ofNat n =>
      obtain rfl := Option.some.inj h
      show (Op.shift .shr k p k' (n : Int)).run P w = _
      rw [shr_nat]
      rfl
    | negSucc n => cases h
  case quo =>
    cases q with
    | ofNat n =>
      cases n with
      | zero => cases h
      | succ n =>
        simp only at h
        split at h
        · next e =>
          subst e
          obtain rfl := Option.some.inj h
          have hne : ¬ ((n : Int) + 1 = 0) := by omega
          simp [go_sem, binOp, Op.intDiv, hne]
        · cases h
    | negSucc n => cases h
  case rem =>
    cases q with
    | ofNat n =>
      cases n with
      | zero => cases h
      | succ n =>
        simp only at h
        split at h
        · next e =>
          subst e
          obtain rfl := Option.some.inj h
          have hne : ¬ ((n : Int) + 1 = 0) := by omega
          simp [go_sem, binOp, Op.intDiv, hne]
        · cases h
    | negSucc n => cases h
  all_goals first
    | (cases h; done)
    | (split at h
       · next e =>
         subst e
         obtain rfl := Option.some.inj h
         simp [go_sem, binOp, Op.intArith, Op.intBits, Op.intCmp, Go.bits]
       · cases h)
/-- What cells of known blocks hold. -/
def MemOk (β : Nat → Nat) (M : Nat → Nat → Option Value) (W : World) : Prop := ∀ k i v, M k i = some v → W.cell? ⟨β k, i, none⟩ = some v
def TabOk (P : Program) (T : TypeId → Option Ty) : Prop := ∀ t y, T t = some y → TyOk P t y
/-- n cells in a row. -/
def ldL (M : Nat → Option Value) : Nat → Nat → Option (List Value)
  | _, 0 => some []
  | i, n + 1 => match M i, ldL M (i + 1) n with
    | some v, some l => some (v :: l)
    | _, _ => none
theorem ldL_ok {M : Nat → Option Value} : ∀ {n i : Nat} {l : List Value}, ldL M i n = some l → ∃ f : Nat → Value, l = (List.range n).map f ∧ ∀ j, j < n → M (i + j) = some (f j)
  | 0, i, l, h => by
    obtain rfl := Option.some.inj h
    exact ⟨fun _ => undef, rfl, fun j hj => absurd hj (by omega)⟩
  | n + 1, i, l, h => by
    unfold ldL at h
    split at h
    · next v l' h1 h2 =>
      obtain rfl := Option.some.inj h
      obtain ⟨f, rfl, hf⟩ := ldL_ok h2
      refine ⟨fun j => match j with | 0 => v | k + 1 => f k, ?_, fun j hj => ?_⟩
      · rw [List.range_succ_eq_map, List.map_cons, List.map_map]
        rfl
      · cases j with
        | zero => exact h1
        | succ k =>
          have := hf k (by omega)
          rw [show i + 1 + k = i + (k + 1) by omega] at this
          exact this
    · cases h
/-- A bound of a slice expression. -/
def boundV (E : List (Nat × SV)) (d : Nat) : Option Operand → Option Nat
  | none => some d
  | some y => match evO E y with
    | some (.v (.int .i64 (.ofNat l))) => some l
    | _ => none
theorem boundV_ok {N : Nat} {β : Nat → Nat} {E : List (Nat × SV)} {a : Act} (h : Has N β E a) {d l : Nat} {y : Option Operand} (hb : boundV E d y = some l) : (y = none ∧ l = d) ∨ ∃ z, y = some z ∧ a.eval z = .int .i64 (l : Int) := by
  cases y with
  | none =>
    obtain rfl := Option.some.inj hb
    exact Or.inl ⟨rfl, rfl⟩
  | some z =>
    unfold boundV at hb
    simp only at hb
    split at hb
    · next l' hz =>
      obtain rfl := Option.some.inj hb
      exact Or.inr ⟨z, rfl, evO_ok h hz⟩
    · cases hb
/-- What a pure operation yields. -/
def ev (T : TypeId → Option Ty) (M : Nat → Nat → Option Value) (E : List (Nat × SV)) (o : Oper) : Option SV :=
  match o.op with
  | .move x => evO E x
  | .assign x => evO E x
  | .nilCheck x => match evO E x with
    | some (.p k i) => some (.p k i)
    | _ => none
  | .load t x => match T t, evO E x with
    | some (.int _), some (.p k i) => (M k i).map .v
    | some .bool, some (.p k i) => (M k i).map .v
    | some .unit, some (.v (.pointer (some A))) => some (.v (.agg #[]))
    | some (.arr n), some (.p k i) => (ldL (M k) i n).map fun l => .v (.agg l.toArray)
    | _, _ => none
  | .slice t x lo hi none => match T t, evO E x with
    | some (.arr n), some (.p k i) => match boundV E 0 lo, boundV E n hi with
      | some l, some h => match Nat.ble l h, Nat.ble h n, Nat.blt l n with
        | true, true, true => some (.s k (i + l) (h - l) (n - l))
        | _, _, _ => none
      | _, _ => none
    | some .sl, some (.s k i n c) => match boundV E 0 lo, boundV E n hi with
      | some l, some h => match Nat.ble l h, Nat.ble h c, Nat.blt l c with
        | true, true, true => some (.s k (i + l) (h - l) (c - l))
        | _, _, _ => none
      | _, _ => none
    | _, _ => none
  | .index t x ix => match T t, evO E x, evO E ix with
    | some (.arr n), some (.v (.agg cs)), some (.v (.int .i64 (.ofNat j))) => match Nat.blt j n with
      | true => (cs[j]?).map .v
      | false => none
    | _, _, _ => none
  | .call c => match c.callee, c.args, c.argTypes with
    | .builtin .len, ⟨[x]⟩, ⟨[t]⟩ => match T t, evO E x with
      | some .sl, some (.v (.slice _ n _)) => some (.v (.int .i64 (n : Int)))
      | some .sl, some (.s _ _ n _) => some (.v (.int .i64 (n : Int)))
      | _, _ => none
    | _, _, _ => none
  | .indexAddr t x ix => match T t, evO E x, evO E ix with
    | some (.arr n), some (.p k i), some (.v (.int .i64 (.ofNat j))) => match Nat.blt j n with
      | true => some (.p k (i + j))
      | false => none
    | some .sl, some (.s k i n c), some (.v (.int .i64 (.ofNat j))) => match Nat.blt j n with
      | true => some (.p k (i + j))
      | false => none
    | _, _, _ => none
  | .fieldAddr t x f => match T t, evO E x with
    | some (.st offs), some (.p k i) => match offs[f]? with
      | some d => some (.p k (i + d))
      | none => none
    | _, _ => none
  | .binOp op t x y _ => match evO E x, evO E y with
    | some (.v (.int k p)), some (.v (.int k' q)) => (binV op k p k' q).map .v
    | _, _ => none
  | .convert s d x => match T s, T d, evO E x with
    | some (.int ks), some (.int kd), some (.v (.int k n)) => if k = ks then some (.v (.int kd (kd.wrap n))) else none
    | _, _, _ => none
  | .unOp .neg _ x => match evO E x with
    | some (.v (.int k n)) => some (.v (.int k (k.wrap (0 - n))))
    | _ => none
  | .unOp .not _ x => match evO E x with
    | some (.v (.bool b)) => some (.v (.bool !b))
    | _ => none
  | .extract x i => match evO E x with
    | some (.v (.tuple vs)) => (vs[i]?).map .v
    | _ => none
  | _ => none
theorem ev_ok {P : Program} {T : TypeId → Option Ty} {N : Nat} {β : Nat → Nat} {M : Nat → Nat → Option Value} {E : List (Nat × SV)} {a : Act} {W : World} {o : Oper} {s : SV} (hT : TabOk P T) (hA : Has N β E a) (hM : MemOk β M W) (h : ev T M E o = some s) :
    (execOp a.eval o).run P W = .ok (.value (s.den β)) W := by
  unfold ev at h
  split at h
  · next x ho => exact op_move ho (evO_ok hA h)
  · next x ho => exact op_assign ho (evO_ok hA h)
  · next x ho =>
    split at h
    · next k i hx =>
      obtain rfl := Option.some.inj h
      exact op_nilCheck ho (evO_ok hA hx)
    · cases h
  · next t x ho =>
    split at h
    · next k0 k i ht hx =>
      obtain ⟨v, hv, rfl⟩ := Option.map_eq_some_iff.1 h
      exact op_load ho (evO_ok hA hx) (hT _ _ ht).2.1 (hM _ _ _ hv)
    · next k i ht hx =>
      obtain ⟨v, hv, rfl⟩ := Option.map_eq_some_iff.1 h
      exact op_load ho (evO_ok hA hx) (hT _ _ ht).2.1 (hM _ _ _ hv)
    · next A ht hx =>
      obtain rfl := Option.some.inj h
      exact op_unit ho (evO_ok hA hx) (hT _ _ ht).1 (hT _ _ ht).2
    · next n k i ht hx =>
      obtain ⟨l, hl, rfl⟩ := Option.map_eq_some_iff.1 h
      obtain ⟨f, rfl, hf⟩ := ldL_ok hl
      obtain ⟨e, h1, h2, h3, h4, h5⟩ := hT _ _ ht
      exact op_arr ho (evO_ok hA hx) h3 h4 (fun j hj => hM _ _ _ (hf j hj))
    · cases h
  · next t x lo hi ho =>
    split at h
    · next n k i ht hx =>
      split at h
      · next l hh h1 h2 =>
        split at h
        · next h3 h4 h5 =>
          obtain rfl := Option.some.inj h
          obtain ⟨e, h6, h7, _⟩ := hT _ _ ht
          exact op_sliceArr ho (evO_ok hA hx) h6 h7 (boundV_ok hA h1) (boundV_ok hA h2) (Nat.ble_eq.mp h3) (Nat.ble_eq.mp h4) (Eq.mp Nat.blt_eq h5)
        · cases h
      · cases h
    · next k i n c ht hx =>
      split at h
      · next l hh h1 h2 =>
        split at h
        · next h3 h4 h5 =>
          obtain rfl := Option.some.inj h
          obtain ⟨e, h6, h7⟩ := hT _ _ ht
          exact op_sliceSl ho (evO_ok hA hx) h6 h7 (boundV_ok hA h1) (boundV_ok hA h2) (Nat.ble_eq.mp h3) (Nat.ble_eq.mp h4) (Eq.mp Nat.blt_eq h5)
        · cases h
      · cases h
    · cases h
  · next t x ix ho =>
    split at h
    · next n cs j ht hx hi =>
      split at h
      · next hj =>
        obtain ⟨v, hv, rfl⟩ := Option.map_eq_some_iff.1 h
        obtain ⟨e, h6, h7, _, _, h8⟩ := hT _ _ ht
        exact op_indexAgg ho (evO_ok hA hx) (evO_ok hA hi) h6 h7 h8 (Eq.mp Nat.blt_eq hj) hv
      · cases h
    · cases h
  · next c ho =>
    split at h
    · next x t hcal hargs hats =>
      split at h
      · next p n cc ht hx =>
        obtain rfl := Option.some.inj h
        obtain ⟨callee, args, ats⟩ := c
        obtain rfl : callee = _ := hcal
        obtain rfl : args = _ := hargs
        obtain rfl : ats = _ := hats
        obtain ⟨e, h1, _⟩ := hT _ _ ht
        exact op_len ho h1 (evO_ok hA hx)
      · next k i n cc ht hx =>
        obtain rfl := Option.some.inj h
        obtain ⟨callee, args, ats⟩ := c
        obtain rfl : callee = _ := hcal
        obtain rfl : args = _ := hargs
        obtain rfl : ats = _ := hats
        obtain ⟨e, h1, _⟩ := hT _ _ ht
        exact op_len ho h1 (evO_ok hA hx)
      · cases h
    · cases h
  · next t x ix ho =>
    split at h
    · next n k i j ht hx hi =>
      split at h
      · next hj =>
        obtain rfl := Option.some.inj h
        obtain ⟨e, h1, h2, _⟩ := hT _ _ ht
        exact op_index ho (evO_ok hA hx) (evO_ok hA hi) h1 h2 (Eq.mp Nat.blt_eq hj)
      · cases h
    · next k i n cc j ht hx hi =>
      split at h
      · next hj =>
        obtain rfl := Option.some.inj h
        obtain ⟨e, h1, h2⟩ := hT _ _ ht
        exact op_indexE ho (evO_ok hA hx) (evO_ok hA hi) h1 h2 (Eq.mp Nat.blt_eq hj)
      · cases h
    · cases h
  · next t x f ho =>
    split at h
    · next offs k i ht hx =>
      split at h
      · next d hd =>
        obtain rfl := Option.some.inj h
        obtain ⟨fs, h1, h2⟩ := hT _ _ ht
        obtain ⟨fd, h3, rfl, n, h4⟩ := h2 _ _ hd
        exact op_field ho (evO_ok hA hx) h1 h3 h4
      · cases h
    · cases h
  · next op t x y t2 ho =>
    split at h
    · next k p k' q hx hy =>
      obtain ⟨v, hv, rfl⟩ := Option.map_eq_some_iff.1 h
      exact op_bin ho (evO_ok hA hx) (evO_ok hA hy) (fun w => binV_ok hv w)
    · cases h
  · next s0 d x ho =>
    split at h
    · next ks kd k n hs hd hx =>
      split at h
      · next e =>
        subst e
        obtain rfl := Option.some.inj h
        exact op_conv ho (evO_ok hA hx) (hT _ _ hs).1 (hT _ _ hd).1
      · cases h
    · cases h
  · next t x ho =>
    split at h
    · next k n hx =>
      obtain rfl := Option.some.inj h
      exact op_negI ho (evO_ok hA hx)
    · cases h
  · next t x ho =>
    split at h
    · next b hx =>
      obtain rfl := Option.some.inj h
      exact op_notB ho (evO_ok hA hx)
    · cases h
  · next x i ho =>
    split at h
    · next vs hx =>
      obtain ⟨v, hv, rfl⟩ := Option.map_eq_some_iff.1 h
      exact op_extract ho (evO_ok hA hx) hv
    · cases h
  · cases h
/-- Pure operations, one behind the other, in the order l. -/
def evs (N : Nat) (T : TypeId → Option Ty) (M : Nat → Nat → Option Value) (ops : Array Oper) : List Nat → List (Nat × SV) → Option (List (Nat × SV))
  | [], E => some E
  | i :: l, E => match ops[i]? with
    | some o => match o.dst, o.guard with
      | some d, none => match Nat.blt d N with
        | true => match ev T M E o with
          | some s => evs N T M ops l ((d, s) :: E)
          | none => none
        | false => none
      | _, _ => none
    | none => none
def schedB (ops : Array Oper) (ds : List Nat) : List Nat → Array Bool → Bool
  | [], _ => true
  | i :: l, L => match takeB .any ops ds L (L.setIfInBounds i true) i with
    | true => schedB ops ds l (L.setIfInBounds i true)
    | false => false
def marks : List Nat → Array Bool → Array Bool
  | [], L => L
  | i :: l, L => marks l (L.setIfInBounds i true)
/-- The slots that are told on. -/
def Sub (r : Option (List (Nat × SV))) : List (Nat × SV) → Prop
  | [] => True
  | (t, x) :: E => r.bind (look · t) = some x ∧ Sub r E
theorem sub_ok {N : Nat} {β : Nat → Nat} {E' : List (Nat × SV)} {a : Act} (h : Has N β E' a) : ∀ {E : List (Nat × SV)}, Sub (some E') E → Has N β E a
  | [], _ => ⟨h.1, fun t x hx => by cases hx⟩
  | (k, y) :: E, hs => by
    have ih := sub_ok h (E := E) hs.2
    refine ⟨h.1, fun t x hx => ?_⟩
    unfold look at hx
    split at hx
    · next e =>
      obtain rfl := Nat.eq_of_beq_eq_true e
      obtain rfl := Option.some.inj hx
      exact h.2 k y hs.1
    · exact ih.2 t x hx
section
variable {P : Program} {ops : Array Oper} {Q : Exit → Act → World → Prop} {S : World → Prop} {ds : List Nat} {N : Nat} {β : Nat → Nat} {M : Nat → Nat → Option Value} {T : TypeId → Option Ty}
theorem put_defs (a : Act) (d : Option Tmp) (v : Value) : (a.put d v).defers = a.defers := by cases d <;> rfl
theorem want_ {o : Oper} {a : Act} (h : o.guard = none) : Region.wanted o (yielded ops a.tmps) = true := by
  simp [Region.wanted, h]
theorem seg_ (hT : TabOk P T) (hM : ∀ W, S W → MemOk β M W) (hQ : ∀ c (a a' : Act) w, a'.defers = a.defers → Q (.panic c) a w → Q (.panic c) a' w) {fuel : Nat} {w : World} (hS : S w) :
    ∀ (l : List Nat) {L : Array Bool} {E E' : List (Nat × SV)} {a : Act}, schedB ops ds l L = true → evs N T M ops l E = some E' → Has N β E a →
      (∀ a', Has N β E' a' → a'.defers = a.defers → wpAnyLast P .any ops Q S ds fuel (marks l L) a' w) → wpAnyLast P .any ops Q S ds (fuel + l.length) L a w
  | [], L, E, E', a, _, hE, hA, h => by
    obtain rfl := Option.some.inj hE
    exact h a hA rfl
  | i :: l, L, E, E', a, hB, hE, hA, h => by
    unfold evs at hE
    split at hE
    · next o ho =>
      split at hE
      · next d hd hg =>
        split at hE
        · next hN =>
          split at hE
          · next s hs =>
            unfold schedB at hB
            split at hB
            · next hc =>
              have hd' := Eq.mp Nat.blt_eq hN
              refine take_ (i := i) (N := some d) (v := s.den β) (a' := a.put (some d) (s.den β)) _ ho hd hc (fun c a w h => hQ c _ _ w (put_defs _ _ _).symm h) (Or.inl ⟨want_ hg, fun W hW => ev_ok hT hA (hM W hW) hs⟩) hS rfl ?_
              exact seg_ hT hM hQ hS l hB hE (hA.put d hd' s) (fun a' h1 h2 => h a' h1 (h2.trans rfl))
            · cases hB
          · cases hE
        · cases hE
      · cases hE
    · cases hE
/-- What a last store writes, and where. -/
def stV (T : TypeId → Option Ty) (ops : Array Oper) (n : Nat) (r : Option (List (Nat × SV))) : Option (Nat × Nat × Value) :=
  match r, ops[n]? with
  | some E, some o => match o.op, o.guard, o.dst with
    | .store t x y, none, none => match T t, evO E x, evO E y with
      | some (.int _), some (.p k i), some (.v (.int kk u)) => some (k, i, .int kk u)
      | some .bool, some (.p k i), some (.v (.bool u)) => some (k, i, .bool u)
      | _, _, _ => none
    | _, _, _ => none
  | _, _ => none
theorem stV_ok {n : Nat} {r : Option (List (Nat × SV))} {k i : Nat} {u : Value} (h : stV T ops n r = some (k, i, u)) : ∃ E o, r = some E ∧ ops[n]? = some o ∧ o.guard = none ∧ o.dst = none ∧
    ∀ (a : Act) (W : World), TabOk P T → Has N β E a → (∃ v, W.cell? ⟨β k, i, none⟩ = some v) → W.frozen? ⟨β k, i, none⟩ = false → (execOp a.eval o).run P W = .ok .skip (W.setCell ⟨β k, i, none⟩ u) := by
  unfold stV at h
  split at h
  · next E o ho =>
    split at h
    · next t x y hop hg hd =>
      refine ⟨E, o, rfl, ho, hg, hd, fun a W hT hA hc hf => ?_⟩
      obtain ⟨v0, hc⟩ := hc
      split at h
      · next k0 k1 i1 kk u1 ht hx hy =>
        simp only [Option.some.injEq, Prod.mk.injEq] at h
        obtain ⟨rfl, rfl, rfl⟩ := h
        have ex : a.eval x = .pointer (some ⟨β k1, i1, none⟩) := evO_ok hA hx
        have ey : a.eval y = .int kk u1 := evO_ok hA hy
        exact op_store hop ex ey (Or.inl ⟨_, _, rfl⟩) (hT _ _ ht).2.2 hc hf
      · next k1 i1 u1 ht hx hy =>
        simp only [Option.some.injEq, Prod.mk.injEq] at h
        obtain ⟨rfl, rfl, rfl⟩ := h
        have ex : a.eval x = .pointer (some ⟨β k1, i1, none⟩) := evO_ok hA hx
        have ey : a.eval y = .bool u1 := evO_ok hA hy
        exact op_store hop ex ey (Or.inr ⟨_, rfl⟩) (hT _ _ ht).2.2 hc hf
      · cases h
    · cases h
  · cases h
theorem MemOk.drew {W : World} (h : MemOk β M W) : MemOk β M W.drew := fun k i v hv => h k i v hv
/-- A region that draws its order, of pure operations alone. -/
theorem reg_draw {id n : Nat} {a : Act} {w : World} {E E2 : List (Nat × SV)} (hm : P.follows .mixedOrders = true) (hT : TabOk P T) (hA : Has N β E a) (hM : MemOk β M w) (hn : ops.size = n)
    (hB : (schedB ops [] (List.range n) (Array.replicate n false) && (Region.ready .any ops (marks (List.range n) (Array.replicate n false)) == [])) = true)
    (hs : (evs N T M ops (List.range n) E).isSome = true) (hsub : Sub (evs N T M ops (List.range n) E) E2) (hQ : ∀ c (a a' : Act) w, a'.defers = a.defers → Q (.panic c) a w → Q (.panic c) a' w)
    (h : ∀ a', Has N β E2 a' → a'.defers = a.defers → Q .normal a' w.drew) : (Code.region id ops true).wp P Q a w := by
  simp only [Bool.and_eq_true] at hB
  obtain ⟨hB1, hB3⟩ := hB
  obtain ⟨E', he⟩ := Option.isSome_iff_exists.1 hs
  rw [he] at hsub
  refine start_ (S := MemOk β M) (ds := []) (n := n) _ hm hn rfl hM.drew (fun hH => ?_)
  have key := seg_ (P := P) (ops := ops) (Q := Q) (S := MemOk β M) (ds := []) (N := N) (β := β) (M := M) (T := T) hT (fun W hW => hW) hQ (fuel := 0) (w := w.drew) hH (List.range n) (L := Array.replicate n false) (E := E) (E' := E') (a := a) hB1 he hA (fun a' h1 h2 => ?_)
  · rw [List.length_range, Nat.zero_add] at key
    exact key
  · exact done_ hB3 (h a' (sub_ok h1 hsub) h2)
/-- Pure operations in the order of the text. -/
theorem ops_ (hT : TabOk P T) {w : World} (hM : MemOk β M w) (l2 : List Nat) : ∀ (l : List Nat) {E E' : List (Nat × SV)} {a : Act}, evs N T M ops l E = some E' → Has N β E a →
    (∀ a', Has N β E' a' → a'.defers = a.defers → wpOps P ops Q l2 a' w) → wpOps P ops Q (l ++ l2) a w
  | [], E, E', a, hE, hA, h => by
    obtain rfl := Option.some.inj hE
    exact h a hA rfl
  | i :: l, E, E', a, hE, hA, h => by
    unfold evs at hE
    split at hE
    · next o ho =>
      split at hE
      · next d hd hg =>
        split at hE
        · next hN =>
          split at hE
          · next s hs =>
            show wpOps P ops Q (i :: (l ++ l2)) a w
            unfold wpOps
            simp only [ho]
            rw [if_pos (want_ hg)]
            refine Or.inl ?_
            unfold Oper.wp
            rw [ev_ok hT hA hM hs, Oper.upon_value, hd]
            exact ops_ hT hM l2 l hE (hA.put d (Eq.mp Nat.blt_eq hN) s) (fun a' h1 h2 => h a' h1 (h2.trans rfl))
          · cases hE
        · cases hE
      · cases hE
    · cases hE
/-- A variable is made. -/
def AllocOk (P : Program) (t : TypeId) (cs : Array Value) : Prop := ∀ (ρ : Operand → Value) (o : Oper) (W : World), o.op = .alloc t → (execOp ρ o).run P W = .ok (.value (.pointer (some ⟨W.heap.size, 0, none⟩))) (W.alloc (.cells cs t))
theorem alloc_ops {i d : Nat} {t : TypeId} {cs : Array Value} {o : Oper} {l : List Nat} {a : Act} {w : World} {E : List (Nat × SV)} (ho : ops[i]? = some o) (hg : o.guard = none) (hd : o.dst = some d) (hN : d < N) (hA : Has N β E a) (hop : o.op = .alloc t) (hz : AllocOk P t cs)
    (h : ∀ a', Has N β ((d, .v (.pointer (some ⟨w.heap.size, 0, none⟩))) :: E) a' → a'.defers = a.defers → wpOps P ops Q l a' (w.alloc (.cells cs t))) : wpOps P ops Q (i :: l) a w := by
  unfold wpOps
  simp only [ho]
  rw [if_pos (want_ hg)]
  refine Or.inl ?_
  unfold Oper.wp
  rw [hz a.eval o w hop, Oper.upon_value, hd]
  exact h _ (hA.put d hN (.v _)) rfl
def argL (E : List (Nat × SV)) : List Operand → Option (List SV)
  | [] => some []
  | x :: l => match evO E x, argL E l with
    | some s, some r => some (s :: r)
    | _, _ => none
theorem argL_ok {E : List (Nat × SV)} {a : Act} (hA : Has N β E a) : ∀ {l : List Operand} {r : List SV}, argL E l = some r → l.map a.eval = r.map (SV.den β)
  | [], r, h => by obtain rfl := Option.some.inj h; rfl
  | x :: l, r, h => by
    unfold argL at h
    split at h
    · next s r' h1 h2 =>
      obtain rfl := Option.some.inj h
      rw [List.map_cons, List.map_cons, evO_ok hA h1, argL_ok hA h2]
    · cases h
/-- A call, by its contract. -/
theorem call_if {d f : Nat} {o : Oper} {fn : Func} {xs0 : Array Operand} {ts : Array TypeId} {args : List SV} {a : Act} {w : World} {E : List (Nat × SV)} {K : Act → World → Prop} (hg : o.guard = none) (hd : o.dst = some d) (hN : d < N) (hA : Has N β E a) (hf : P.funcs[f]? = some fn) (hname : (fn.name == "runtime.NumGoroutine") = false) (hb : fn.body.isSome = true)
    (hop : o.op = .call { callee := .value (.func f), args := xs0, argTypes := ts }) (hargs : argL E xs0.toList = some args) (R : Value → World → Prop) (hC : Calls P f (args.map (SV.den β)).toArray w fun e w' => ∃ v, e = .returned v ∧ R v w')
    (h : ∀ v w' a', R v w' → Has N β ((d, .v v) :: E) a' → a'.defers = a.defers → K a' w') : if Region.wanted o (yielded ops a.tmps) = true then Oper.wp P o a w K Q else K (a.put (some d) undef) w := by
  refine goes_ hf hname hb _ (want_ hg) hd hop ?_ (hC.mono fun e w' hh => ?_)
  · rw [← argL_ok hA hargs, ← Array.toList_map, Array.toArray_toList]
  · obtain ⟨v, rfl, hr⟩ := hh
    exact ⟨v, rfl, h v w' _ hr (hA.put d hN (.v v)) rfl⟩
end
section
variable {P : Program} {ops : Array Oper} {Q : Exit → Act → World → Prop} {S : World → Prop} {N : Nat} {β : Nat → Nat} {M : Nat → Nat → Option Value} {T : TypeId → Option Ty}
/-- Which function a call calls, into which slot, with what. -/
def clV (N : Nat) (ops : Array Oper) (j : Nat) (r : Option (List (Nat × SV))) : Option (Nat × Nat × List SV) :=
  match r, ops[j]? with
  | some E, some o => match o.op, o.guard, o.dst with
    | .call c, none, some d => match c.callee, Nat.blt d N with
      | .value (.func f), true => (argL E c.args.toList).map fun l => (f, d, l)
      | _, _ => none
    | _, _, _ => none
  | _, _ => none
theorem clV_ok {j f d : Nat} {l : List SV} {r : Option (List (Nat × SV))} (h : clV N ops j r = some (f, d, l)) : ∃ E o, r = some E ∧ ops[j]? = some o ∧ o.guard = none ∧ o.dst = some d ∧ d < N ∧ ∃ xs0 ts, o.op = .call { callee := .value (.func f), args := xs0, argTypes := ts } ∧ argL E xs0.toList = some l := by
  unfold clV at h
  split at h
  · next E o ho =>
    split at h
    · next c d0 hop hg hd =>
      split at h
      · next f0 hc hN =>
        obtain ⟨l0, hl, he⟩ := Option.map_eq_some_iff.1 h
        simp only [Prod.mk.injEq] at he
        obtain ⟨rfl, rfl, rfl⟩ := he
        obtain ⟨callee, args, ats⟩ := c
        obtain rfl : callee = _ := hc
        exact ⟨E, o, rfl, ho, hg, hd, Eq.mp Nat.blt_eq hN, args, ats, hop, hl⟩
      · cases h
    · cases h
  · cases h
def csB (ops : Array Oper) (l1 : List Nat) (j : Nat) (l2 : List Nat) (n : Nat) : Bool :=
  let L0 := Array.replicate (l2.length + 2 + l1.length) false
  let L1 := marks l1 L0
  let L2 := L1.setIfInBounds j true
  let L3 := marks l2 L2
  let L4 := L3.setIfInBounds n true
  schedB ops [n] l1 L0 && (readyB .any ops L1 L2 j && (schedB ops [n] l2 L2 && (readyB .any ops L3 L4 n && (Region.ready .any ops L4 == [] && !(Nat.beq j n)))))
/-- A region that draws its order: pure operations, a call that keeps S, pure operations. -/
def ckB (ops : Array Oper) (l1 : List Nat) (j : Nat) (l2 : List Nat) : Bool :=
  let L0 := Array.replicate (l2.length + 1 + l1.length) false
  let L1 := marks l1 L0
  let L2 := L1.setIfInBounds j true
  let L3 := marks l2 L2
  schedB ops [] l1 L0 && (readyB .any ops L1 L2 j && (schedB ops [] l2 L2 && (Region.ready .any ops L3 == [])))
/-- A region that draws its order: pure operations, a call that may write. -/
def clB (ops : Array Oper) (l1 : List Nat) (j : Nat) : Bool :=
  let L0 := Array.replicate (1 + l1.length) false
  let L1 := marks l1 L0
  let L2 := L1.setIfInBounds j true
  schedB ops [j] l1 L0 && (readyB .any ops L1 L2 j && (Region.ready .any ops L2 == []))
/-- A slice expression with a low bound alone. -/
def slV (N : Nat) (ops : Array Oper) (j : Nat) : Option (Nat × TypeId × Operand × Nat) :=
  match ops[j]? with
  | some o => match o.op, o.guard, o.dst with
    | .slice t x (some (.const (.int .i64 (.ofNat l)))) none none, none, some d => match Nat.blt d N with
      | true => some (d, t, x, l)
      | false => none
    | _, _, _ => none
  | none => none
def cs2B (ops : Array Oper) (l1 : List Nat) (js j : Nat) (l2 : List Nat) (n : Nat) : Bool :=
  let L0 := Array.replicate (l2.length + 3 + l1.length) false
  let L1 := marks l1 L0
  let L1' := L1.setIfInBounds js true
  let L2 := L1'.setIfInBounds j true
  let L3 := marks l2 L2
  let L4 := L3.setIfInBounds n true
  schedB ops [n] l1 L0 && (takeB .any ops [n] L1 L1' js && (readyB .any ops L1' L2 j && (schedB ops [n] l2 L2 && (readyB .any ops L3 L4 n && (Region.ready .any ops L4 == [] && !(Nat.beq j n))))))
end
theorem then_exit {K : Act → World → Prop} {Q : Exit → Act → World → Prop} {id : Nat} {a : Act} {w : World} (h : Q (.exit id) a w) : Exit.then K Q (.exit id) a w := h
theorem exit_in {Q : Exit → Act → World → Prop} {id : Nat} {a : Act} {w : World} (h : Q .normal a w) : Exit.inBlock id Q (.exit id) a w := by
  simp only [Exit.inBlock, if_true]
  exact h
theorem has_two {β : Nat → Nat} (x0 x1 : SV) (k : Nat) : Has (2 + k) β [(0, x0), (1, x1)] ⟨#[x0.den β, x1.den β] ++ Array.replicate k undef, []⟩ := by
  refine ⟨by simp, fun t x hx => ?_⟩
  unfold look at hx
  split at hx
  · next e =>
    obtain rfl := Nat.eq_of_beq_eq_true e
    obtain rfl := Option.some.inj hx
    show ((#[x0.den β, x1.den β] ++ Array.replicate k undef).getD 0 undef) = _
    rw [Array.getD_eq_getD_getElem?, Array.getElem?_append_left (by simp)]
    rfl
  · unfold look at hx
    split at hx
    · next e =>
      obtain rfl := Nat.eq_of_beq_eq_true e
      obtain rfl := Option.some.inj hx
      show ((#[x0.den β, x1.den β] ++ Array.replicate k undef).getD 1 undef) = _
      rw [Array.getD_eq_getD_getElem?, Array.getElem?_append_left (by simp)]
      rfl
    · cases hx
end Go.Proofs.YtmgnffklmdhooaaDoor.PAll
namespace Go.Proofs.YtmgnffklmdhooaaDoor.PAll
open Go.RowKit Go.Proofs.YtmgnffklmdhooaaDoorW.PrintWords Go.Proofs.YtmgnffklmdhooaaDoorW.PrintLast Go.Proofs.YtmgnffklmdhooaaDoorW.PrintMore
set_option linter.unusedVariables false
set_option linter.unusedSimpArgs false
structure Bl where
  g : Nat
  T : TypeId
  n : Nat
  m : Nat → Value
def upm (m : Nat → Value) (i : Nat) (v : Value) : Nat → Value := fun j => if j = i then v else m j
def Bl.put (b : Bl) (i : Nat) (v : Value) : Bl := ⟨b.g, b.T, b.n, upm b.m i v⟩
/-- The block holds just these cells. -/
def Bl.In (b : Bl) (W : World) : Prop := ∃ cs : Array Value, W.heap[b.g]? = some (.cells cs b.T (0, 0)) ∧ cs.size = b.n ∧ ∀ i, i < b.n → cs[i]? = some (b.m i)
def bg : List Bl → Nat → Nat
  | [], _ => 0
  | b :: _, 0 => b.g
  | _ :: L, k + 1 => bg L k
def bm : List Bl → Nat → Nat → Option Value
  | [], _, _ => none
  | b :: _, 0, i => match Nat.blt i b.n with
    | true => some (b.m i)
    | false => none
  | _ :: L, k + 1, i => bm L k i
def bput : List Bl → Nat → Nat → Value → List Bl
  | [], _, _, _ => []
  | b :: L, 0, i, v => b.put i v :: L
  | b :: L, k + 1, i, v => b :: bput L k i v
/-- All of L lies in the world, in different blocks. -/
def Mm : List Bl → World → Prop
  | [], _ => True
  | b :: L, W => b.In W ∧ (∀ c ∈ L, c.g ≠ b.g) ∧ Mm L W
theorem Bl.In.cell {b : Bl} {W : World} (h : b.In W) (i : Nat) (hi : i < b.n) : W.cell? ⟨b.g, i, none⟩ = some (b.m i) := by
  obtain ⟨cs, h1, h2, h3⟩ := h
  rw [blk_cell h1]
  exact h3 i hi
theorem Bl.In.free {b : Bl} {W : World} (h : b.In W) (i : Nat) : W.frozen? ⟨b.g, i, none⟩ = false := by
  obtain ⟨cs, h1, h2, h3⟩ := h
  exact blk_frozen h1 i
theorem Bl.In.lt {b : Bl} {W : World} (h : b.In W) : b.g < W.heap.size := by
  obtain ⟨cs, h1, h2, h3⟩ := h
  exact blk_lt h1
theorem Bl.In.on {b : Bl} {S : List Nat} {W W' : World} (h : b.In W) (h' : Fr S W W') (hs : b.g ∉ S) : b.In W' := by
  obtain ⟨cs, h1, h2⟩ := h
  exact ⟨cs, h'.block h1 hs, h2⟩
theorem Bl.In.put {b : Bl} {W : World} (h : b.In W) (i : Nat) (hi : i < b.n) (v : Value) : (b.put i v).In (W.setCell ⟨b.g, i, none⟩ v) := by
  obtain ⟨cs, h1, h2, h3⟩ := h
  refine ⟨_, blk_set h1 i v, by rw [Array.size_setIfInBounds]; exact h2, fun j hj => ?_⟩
  show _ = some (upm b.m i v j)
  unfold upm
  by_cases e : j = i
  · subst e
    rw [if_pos rfl, Array.getElem?_setIfInBounds_self_of_lt (by rw [h2]; exact hi)]
  · rw [if_neg e, Array.getElem?_setIfInBounds_ne (Ne.symm e)]
    exact h3 j hj
theorem Mm.on {S : List Nat} {W W' : World} (h' : Fr S W W') : ∀ {L : List Bl}, Mm L W → (∀ b ∈ L, b.g ∉ S) → Mm L W'
  | [], _, _ => trivial
  | b :: L, h, hs => ⟨h.1.on h' (hs b (by simp)), h.2.1, Mm.on h' h.2.2 (fun c hc => hs c (by simp [hc]))⟩
theorem Mm.onB {L : List Bl} {W W' : World} (h : Mm L W) (h' : Below W.heap.size W W') : Mm L W' := Mm.on (Fr.ofBelow [] h') h (by simp)
theorem Mm.drew {W : World} : ∀ {L : List Bl}, Mm L W → Mm L W.drew
  | [], _ => trivial
  | b :: L, h => ⟨h.1, h.2.1, Mm.drew h.2.2⟩
theorem Mm.at {W : World} : ∀ {L : List Bl} {k i : Nat} {v : Value}, Mm L W → bm L k i = some v → W.cell? ⟨bg L k, i, none⟩ = some v ∧ W.frozen? ⟨bg L k, i, none⟩ = false
  | b :: L, 0, i, v, h, hv => by
    unfold bm at hv
    split at hv
    · next hi =>
      obtain rfl := Option.some.inj hv
      exact ⟨h.1.cell i (Eq.mp Nat.blt_eq hi), h.1.free i⟩
    · cases hv
  | b :: L, k + 1, i, v, h, hv => Mm.at (L := L) (k := k) h.2.2 hv
theorem Mm.mem {W : World} {L : List Bl} (h : Mm L W) : MemOk (bg L) (bm L) W := fun k i v hv => (h.at hv).1
theorem bput_g : ∀ {L : List Bl} {k i : Nat} {v : Value} {c : Bl}, c ∈ bput L k i v → ∃ b ∈ L, c.g = b.g
  | b :: L, 0, i, v, c, h => by
    rcases List.mem_cons.1 h with rfl | h
    · exact ⟨b, by simp, rfl⟩
    · exact ⟨c, by simp [h], rfl⟩
  | b :: L, k + 1, i, v, c, h => by
    rcases List.mem_cons.1 h with rfl | h
    · exact ⟨c, by simp, rfl⟩
    · obtain ⟨d, hd, e⟩ := bput_g h
      exact ⟨d, by simp [hd], e⟩
theorem bm_mem : ∀ {L : List Bl} {k i : Nat} {v : Value}, bm L k i = some v → ∃ b ∈ L, b.g = bg L k
  | b :: L, 0, i, v, h => ⟨b, by simp, rfl⟩
  | b :: L, k + 1, i, v, h => by
    obtain ⟨c, hc, e⟩ := bm_mem (L := L) (k := k) h
    exact ⟨c, by simp [hc], e⟩
theorem far_set {W : World} (p : Addr) (v : Value) : Fr [p.block] W (W.setCell p v) := (Fr.refl _ _).set p (by simp) v
theorem Mm.set {W : World} : ∀ {L : List Bl} {k i : Nat} {v0 : Value} (v : Value), Mm L W → bm L k i = some v0 → Mm (bput L k i v) (W.setCell ⟨bg L k, i, none⟩ v)
  | b :: L, 0, i, v0, v, h, hv => by
    unfold bm at hv
    split at hv
    · next hi =>
      refine ⟨h.1.put i (Eq.mp Nat.blt_eq hi) v, h.2.1, Mm.on (far_set _ v) h.2.2 (fun c hc => ?_)⟩
      have := h.2.1 c hc
      show c.g ∉ [b.g]
      simpa using this
    · cases hv
  | b :: L, k + 1, i, v0, v, h, hv => by
    obtain ⟨c, hc, e⟩ := bm_mem (L := L) (k := k) hv
    refine ⟨h.1.on (far_set _ v) ?_, fun d hd => ?_, Mm.set v h.2.2 hv⟩
    · have := h.2.1 c hc
      show b.g ∉ [bg L k]
      rw [← e]
      simpa using Ne.symm this
    · obtain ⟨d', hd', e'⟩ := bput_g hd
      rw [e']
      exact h.2.1 d' hd'
/-- A block of the world at hand is told on. -/
theorem Mm.cons {L : List Bl} {W : World} {b : Bl} (h : Mm L W) (hb : b.In W) (hne : ∀ c ∈ L, c.g ≠ b.g) : Mm (b :: L) W := ⟨hb, hne, h⟩
theorem Mm.lt {W : World} : ∀ {L : List Bl}, Mm L W → ∀ c ∈ L, c.g < W.heap.size
  | b :: L, h, c, hc => by
    rcases List.mem_cons.1 hc with rfl | hc
    · exact h.1.lt
    · exact Mm.lt h.2.2 c hc
theorem bl_new (W : World) (cs : Array Value) (T : TypeId) (m : Nat → Value) (hm : ∀ i, i < cs.size → cs[i]? = some (m i)) : (⟨W.heap.size, T, cs.size, m⟩ : Bl).In (W.alloc (.cells cs T)) := ⟨cs, (MapKept.heap_alloc W _).1, rfl, hm⟩
theorem Mm.alloc {L : List Bl} {W : World} (h : Mm L W) (cs : Array Value) (T : TypeId) (m : Nat → Value) (hm : ∀ i, i < cs.size → cs[i]? = some (m i)) : Mm (⟨W.heap.size, T, cs.size, m⟩ :: L) (W.alloc (.cells cs T)) :=
  ⟨bl_new W cs T m hm, fun c hc => Nat.ne_of_lt (Mm.lt h c hc), Mm.onB h ((Below.refl _ _).alloc (Nat.le_refl _) _)⟩
theorem Fr.comp {S S' : List Nat} {w0 w W : World} (h : Fr S w0 w) (h' : Fr S' w W) (hs : ∀ k, k ∈ S' → k ∈ S ∨ w0.heap.size ≤ k) : Fr S w0 W :=
  ⟨h'.1.trans h.1, h'.2.1.trans h.2.1, h'.2.2.1.trans h.2.2.1, Nat.le_trans h.size h'.size, fun k hk hn => (h'.2.2.2.2 k (Nat.lt_of_lt_of_le hk h.size) (fun hm => by
    rcases hs k hm with h1 | h1
    · exact hn h1
    · omega)).trans (h.2.2.2.2 k hk hn)⟩
theorem Bl.In.eq {b : Bl} {W : World} (h : b.In W) {m : Nat → Value} (hm : ∀ i, i < b.n → b.m i = m i) : (⟨b.g, b.T, b.n, m⟩ : Bl).In W := by
  obtain ⟨cs, h1, h2, h3⟩ := h
  exact ⟨cs, h1, h2, fun i hi => by rw [h3 i hi, hm i hi]⟩
def AllV (β : Nat → Nat) (a : Act) : List (Nat × SV) → Prop
  | [] => True
  | (t, x) :: E => a.eval (.tmp t) = x.den β ∧ AllV β a E
theorem has_list {N : Nat} {β : Nat → Nat} {a : Act} (hn : a.tmps.size = N) : ∀ {E : List (Nat × SV)}, AllV β a E → Has N β E a
  | [], _ => ⟨hn, fun t x hx => by cases hx⟩
  | (k, y) :: E, hs => by
    have ih := has_list (β := β) hn (E := E) hs.2
    refine ⟨hn, fun t x hx => ?_⟩
    unfold look at hx
    split at hx
    · next e =>
      obtain rfl := Nat.eq_of_beq_eq_true e
      obtain rfl := Option.some.inj hx
      exact hs.1
    · exact ih.2 t x hx
theorem bg_put : ∀ (L : List Bl) (k i : Nat) (v : Value), bg (bput L k i v) = bg L
  | [], k, i, v => rfl
  | b :: L, 0, i, v => by
    funext j
    cases j <;> rfl
  | b :: L, k + 1, i, v => by
    funext j
    cases j with
    | zero => rfl
    | succ j =>
      show bg (bput L k i v) j = bg L j
      rw [bg_put L k i v]
def bset : List Bl → Nat → (Nat → Value) → List Bl
  | [], _, _ => []
  | b :: L, 0, m => ⟨b.g, b.T, b.n, m⟩ :: L
  | b :: L, k + 1, m => b :: bset L k m
theorem bg_set : ∀ (L : List Bl) (k : Nat) (m : Nat → Value), bg (bset L k m) = bg L
  | [], k, m => rfl
  | b :: L, 0, m => by
    funext j
    cases j <;> rfl
  | b :: L, k + 1, m => by
    funext j
    cases j with
    | zero => rfl
    | succ j =>
      show bg (bset L k m) j = bg L j
      rw [bg_set L k m]
theorem bset_g : ∀ {L : List Bl} {k : Nat} {m : Nat → Value} {c : Bl}, c ∈ bset L k m → ∃ b ∈ L, c.g = b.g
  | b :: L, 0, m, c, h => by
    rcases List.mem_cons.1 h with rfl | h
    · exact ⟨b, by simp, rfl⟩
    · exact ⟨c, by simp [h], rfl⟩
  | b :: L, k + 1, m, c, h => by
    rcases List.mem_cons.1 h with rfl | h
    · exact ⟨c, by simp, rfl⟩
    · obtain ⟨d, hd, e⟩ := bset_g h
      exact ⟨d, by simp [hd], e⟩
/-- The known blocks, one of which has other cells now. -/
theorem Mm.rep {W W' : World} : ∀ {L : List Bl} {k : Nat} {b : Bl} {m : Nat → Value}, Mm L W → L[k]? = some b → Fr [b.g] W W' → (⟨b.g, b.T, b.n, m⟩ : Bl).In W' → Mm (bset L k m) W'
  | b :: L, 0, b', m, h, hk, hF, hI => by
    obtain rfl : b = b' := Option.some.inj hk
    exact ⟨hI, h.2.1, Mm.on hF h.2.2 (fun c hc => by have := h.2.1 c hc; simpa using this)⟩
  | b :: L, k + 1, b', m, h, hk, hF, hI => by
    have hk' : L[k]? = some b' := hk
    have hm : b' ∈ L := List.mem_of_getElem? hk'
    refine ⟨h.1.on hF ?_, fun d hd => ?_, Mm.rep h.2.2 hk' hF hI⟩
    · have := h.2.1 b' hm
      simpa using Ne.symm this
    · obtain ⟨d', hd', e'⟩ := bset_g hd
      rw [e']
      exact h.2.1 d' hd'
theorem Mm.get {W : World} : ∀ {L : List Bl} {k : Nat} {b : Bl}, Mm L W → L[k]? = some b → b.In W
  | b :: L, 0, b', h, hk => by
    obtain rfl : b = b' := Option.some.inj hk
    exact h.1
  | b :: L, k + 1, b', h, hk => Mm.get (L := L) (k := k) h.2.2 hk
/-- The known blocks, their numbers told by β. -/
def Mw (β : Nat → Nat) (L : List Bl) (W : World) : Prop := bg L = β ∧ Mm L W
theorem Mw.mem {β : Nat → Nat} {L : List Bl} {W : World} (h : Mw β L W) : MemOk β (bm L) W := h.1 ▸ h.2.mem
theorem Mw.drew {β : Nat → Nat} {L : List Bl} {W : World} (h : Mw β L W) : Mw β L W.drew := ⟨h.1, h.2.drew⟩
theorem Mw.onB {β : Nat → Nat} {L : List Bl} {W W' : World} (h : Mw β L W) (h' : Below W.heap.size W W') : Mw β L W' := ⟨h.1, h.2.onB h'⟩
theorem Mw.rep {β : Nat → Nat} {L : List Bl} {W W' : World} {b : Bl} {m : Nat → Value} (h : Mw β L W) (k : Nat) (hk : L[k]? = some b) (hF : Fr [b.g] W W') (hI : (⟨b.g, b.T, b.n, m⟩ : Bl).In W') : Mw β (bset L k m) W' := ⟨(bg_set L k m).trans h.1, h.2.rep hk hF hI⟩
section
variable {P : Program} {ops : Array Oper} {Q : Exit → Act → World → Prop} {N : Nat} {β : Nat → Nat} {T : TypeId → Option Ty}
end
theorem alloc_size (w : World) (o : Obj) : (w.alloc o).heap.size = w.heap.size + 1 := by simp
theorem bl_rep0 (w : World) (n : Nat) (v : Value) (t : TypeId) : (⟨w.heap.size, t, n, fun _ => v⟩ : Bl).In (w.alloc (.cells (Array.replicate n v) t)) := by
  refine ⟨_, (MapKept.heap_alloc w (.cells (Array.replicate n v) t)).1, Array.size_replicate, fun i hi => ?_⟩
  rw [Array.getElem?_replicate]
  exact if_pos hi
def cpB (m : Nat → Value) (o k : Nat) (f : Nat → Value) : Nat → Value := fun i => if o ≤ i ∧ i < o + k then f (i - o) else m i
section
variable {P : Program} {ops : Array Oper} {Q : Exit → Act → World → Prop} {N : Nat} {β : Nat → Nat} {T : TypeId → Option Ty} {M : Nat → Nat → Option Value}
section
variable {ρ : Operand → Value} {o : Oper} {W : World}
end
theorem new_ops {i d : Nat} {o : Oper} {v : Value} {l : List Nat} {a : Act} {w w1 : World} {E : List (Nat × SV)} (ho : ops[i]? = some o) (hg : o.guard = none) (hd : o.dst = some d) (hN : d < N) (hA : Has N β E a) (hrun : (execOp a.eval o).run P w = .ok (.value v) w1)
    (h : ∀ a', Has N β ((d, .v v) :: E) a' → a'.defers = a.defers → wpOps P ops Q l a' w1) : wpOps P ops Q (i :: l) a w := by
  unfold wpOps
  simp only [ho]
  rw [if_pos (want_ hg)]
  refine Or.inl ?_
  unfold Oper.wp
  rw [hrun, Oper.upon_value, hd]
  exact h _ (hA.put d hN (.v v)) rfl
theorem opsP (hT : TabOk P T) {w : World} (hM : MemOk β M w) (l2 l : List Nat) (E2 : List (Nat × SV)) {E : List (Nat × SV)} {a : Act} (hA : Has N β E a) (hs : (evs N T M ops l E).isSome = true) (hsub : Sub (evs N T M ops l E) E2)
    (h : ∀ a', Has N β E2 a' → a'.defers = a.defers → wpOps P ops Q l2 a' w) : wpOps P ops Q (l ++ l2) a w := by
  obtain ⟨E', he⟩ := Option.isSome_iff_exists.1 hs
  rw [he] at hsub
  exact ops_ hT hM l2 l he hA (fun a' h1 h2 => h a' (sub_ok h1 hsub) h2)
theorem want_g {o : Oper} {a : Act} {E : List (Nat × SV)} {j d : Nat} {b : Bool} (hA : Has N β E a) (hg : o.guard = some (j, b)) (hj : (ops[j]?).bind (·.dst) = some d) (hd : look E d = some (.v (.bool b))) : Region.wanted o (yielded ops a.tmps) = true := by
  have h1 : a.eval (.tmp d) = .bool b := hA.2 d _ hd
  have h2 : a.tmps[d]? = some (.bool b) := by
    simp only [Act.eval] at h1
    rw [Array.getD_eq_getD_getElem?] at h1
    cases h3 : a.tmps[d]? with
    | none =>
      rw [h3] at h1
      cases h1
    | some v =>
      rw [h3] at h1
      exact congrArg some h1
  unfold Region.wanted yielded
  simp [hg, hj, h2]
theorem givenW_ops {i d : Nat} {o : Oper} {s : SV} {l : List Nat} {a : Act} {w : World} {E : List (Nat × SV)} (ho : ops[i]? = some o) (hw : Region.wanted o (yielded ops a.tmps) = true) (hd : o.dst = some d) (hN : d < N) (hA : Has N β E a) (hrun : (execOp a.eval o).run P w = .ok (.value (s.den β)) w)
    (h : ∀ a', Has N β ((d, s) :: E) a' → a'.defers = a.defers → wpOps P ops Q l a' w) : wpOps P ops Q (i :: l) a w := by
  unfold wpOps
  simp only [ho]
  rw [if_pos hw]
  refine Or.inl ?_
  unfold Oper.wp
  rw [hrun, Oper.upon_value, hd]
  exact h _ (hA.put d hN s) rfl
/-- A pure operation whose guard is met. -/
theorem guard_ops (hT : TabOk P T) {i d j dj : Nat} {b : Bool} {o : Oper} {s : SV} {l : List Nat} {a : Act} {w : World} {E : List (Nat × SV)} (hM : MemOk β M w) (ho : ops[i]? = some o) (hg : o.guard = some (j, b)) (hj : (ops[j]?).bind (·.dst) = some dj) (hb : look E dj = some (.v (.bool b))) (hd : o.dst = some d) (hN : d < N) (hA : Has N β E a) (hs : ev T M E o = some s)
    (h : ∀ a', Has N β ((d, s) :: E) a' → a'.defers = a.defers → wpOps P ops Q l a' w) : wpOps P ops Q (i :: l) a w :=
  givenW_ops ho (want_g hA hg hj hb) hd hN hA (ev_ok hT hA hM hs) h
section
variable {S : World → Prop} {ds : List Nat}
theorem stepR {j d f fuel : Nat} {args : List SV} {fn : Func} {L : Array Bool} {E : List (Nat × SV)} {a : Act} {w : World} (hA : Has N β E a)
    (hB : (readyB .any ops L (L.setIfInBounds j true) j && !(ds.contains j)) = true) (hcl : clV N ops j (some E) = some (f, d, args)) (hf : P.funcs[f]? = some fn) (hname : (fn.name == "runtime.NumGoroutine") = false) (hb : fn.body.isSome = true)
    (R : Value → World → Prop) (hS : ∀ v W', R v W' → S W') (hC : Calls P f (args.map (SV.den β)).toArray w fun e W' => ∃ v, e = .returned v ∧ R v W')
    (h : ∀ a' v W, Has N β ((d, .v v) :: E) a' → a'.defers = a.defers → R v W → wpAnyLast P .any ops Q S ds fuel (L.setIfInBounds j true) a' W) : wpAnyLast P .any ops Q S ds (fuel + 1) L a w := by
  simp only [Bool.and_eq_true, Bool.not_eq_true', List.contains_eq_mem, decide_eq_false_iff_not] at hB
  obtain ⟨hB2, hB6⟩ := hB
  obtain ⟨E1, o1, he1, ho1, hg1, hd1, hN1, xs0, ts, hop1, hargs⟩ := clV_ok hcl
  obtain rfl := Option.some.inj he1
  refine one_ (i := j) (N := some d) _ ho1 hd1 hB2 hB6 (fun K hK => ?_)
  exact call_if hg1 hd1 hN1 hA hf hname hb hop1 hargs R hC (fun v' W' a2 hR h3 h4 => hK.out _ _ (hS _ _ hR) (fun _ => h a2 v' W' h3 h4 hR))
end
section
variable {ρ : Operand → Value} {o : Oper} {W : World}
theorem op_pickT {c x y : Operand} {v : Value} (ho : o.op = .pick c x y) (hc : ρ c = .bool true) (hx : ρ x = v) : (execOp ρ o).run P W = .ok (.value v) W := by
  unfold execOp
  rw [ho]
  simp [go_sem, hc, hx]
theorem op_pickF {c x y : Operand} {v : Value} (ho : o.op = .pick c x y) (hc : ρ c = .bool false) (hy : ρ y = v) : (execOp ρ o).run P W = .ok (.value v) W := by
  unfold execOp
  rw [ho]
  simp [go_sem, hc, hy]
end
theorem skip_ops {i d j dj : Nat} {b b' : Bool} {o : Oper} {l : List Nat} {a : Act} {w : World} {E : List (Nat × SV)} (ho : ops[i]? = some o) (hg : o.guard = some (j, b)) (hj : (ops[j]?).bind (·.dst) = some dj) (hb : look E dj = some (.v (.bool b'))) (hne : b' ≠ b) (hd : o.dst = some d) (hN : d < N) (hA : Has N β E a)
    (h : ∀ a', Has N β ((d, .v undef) :: E) a' → a'.defers = a.defers → wpOps P ops Q l a' w) : wpOps P ops Q (i :: l) a w := by
  have h1 : a.eval (.tmp dj) = .bool b' := hA.2 dj _ hb
  have h2 : a.tmps[dj]? = some (.bool b') := by
    simp only [Act.eval] at h1
    rw [Array.getD_eq_getD_getElem?] at h1
    cases h3 : a.tmps[dj]? with
    | none =>
      rw [h3] at h1
      cases h1
    | some v =>
      rw [h3] at h1
      exact congrArg some h1
  have hw : Region.wanted o (yielded ops a.tmps) = false := by
    unfold Region.wanted yielded
    simp [hg, hj, h2, hne]
  unfold wpOps
  simp only [ho]
  rw [if_neg (by rw [hw]; decide), hd]
  exact h _ (hA.put d hN (.v undef)) rfl
/-- A call whose guard is met. -/
theorem callW_ops {i d f : Nat} {o : Oper} {fn : Func} {xs0 : Array Operand} {ts : Array TypeId} {args : List SV} {l : List Nat} {a : Act} {w : World} {E : List (Nat × SV)} (ho : ops[i]? = some o) (hw : Region.wanted o (yielded ops a.tmps) = true) (hd : o.dst = some d) (hN : d < N) (hA : Has N β E a) (hf : P.funcs[f]? = some fn) (hname : (fn.name == "runtime.NumGoroutine") = false) (hb : fn.body.isSome = true)
    (hop : o.op = .call { callee := .value (.func f), args := xs0, argTypes := ts }) (hargs : argL E xs0.toList = some args) (R : Value → World → Prop) (hC : Calls P f (args.map (SV.den β)).toArray w fun e w' => ∃ v, e = .returned v ∧ R v w')
    (h : ∀ v w' a', R v w' → Has N β ((d, .v v) :: E) a' → a'.defers = a.defers → wpOps P ops Q l a' w') : wpOps P ops Q (i :: l) a w := by
  have key := goes_ (P := P) (ops := ops) (Q := Q) (K := wpOps P ops Q l) (N := some d) (a := a) (w := w) hf hname hb (args.map (SV.den β)).toArray hw hd hop (by rw [← argL_ok hA hargs, ← Array.toList_map, Array.toArray_toList]) (hC.mono fun e w' hh => by
    obtain ⟨v, rfl, hr⟩ := hh
    exact ⟨v, rfl, h v w' _ hr (hA.put d hN (.v v)) rfl⟩)
  unfold wpOps
  simp only [ho]
  rw [if_pos hw] at key ⊢
  exact Or.inl key
end
theorem addr_add (b i k : Nat) : (Addr.add ⟨b, i, none⟩ k) = ⟨b, i + k, none⟩ := by
  unfold Addr.add
  by_cases h : k = 0
  · simp [h]
  · simp [h]
def bn : List Nat → Nat → Nat
  | [], _ => 0
  | g :: _, 0 => g
  | _ :: l, k + 1 => bn l k
theorem bg_bn : ∀ L : List Bl, bg L = bn (L.map Bl.g)
  | [] => rfl
  | b :: L => by
    funext k
    cases k with
    | zero => rfl
    | succ k => exact congrFun (bg_bn L) k
/-- append, an operation in the order of the text. -/
theorem app_ops {P : Program} {ops : Array Oper} {Q : Exit → Act → World → Prop} {N : Nat} {β : Nat → Nat} {α : Type} {i dst : Nat} {o : Oper} {l : List Nat} {a : Act} {E : List (Nat × SV)} (d : Kd α) {Rr : α → List Value → Prop} {w0 W : World} (base : Nat) (hoi : ops[i]? = some o) (hg : o.guard = none) (hd : o.dst = some dst) (hN : dst < N) (hA : Has N β E a) (s x : Operand) (t e : TypeId) (z : Value) (bytes : Nat)
    (ho : o.op = .call { callee := .builtin .append, args := #[s, x], argTypes := #[t, t] })
    (ht : P.underlying t = some (.slice e)) (hinfo : (P.info? e).map (fun i => (i.zero, i.size, i.bytes)) = some (some z, d.sz, bytes)) (hz : z.cells.size = d.sz) (hs0 : 0 < d.sz) (hb0 : 0 < bytes)
    (v : Value) (xs ys : List α) (A : Option Addr) (m c : Nat) (ok okp : Nat → Prop) (hs : a.eval s = v) (hx : a.eval x = .slice A m c)
    (HO : d.R e W base ok v xs) (HR : ReadsRow Rr d.sz W A m ys) (hKM : ∀ x cs, Rr x cs → d.M W base okp x cs) (hokp : ∀ k, okp k → ok k ∧ some k ≠ v.ownBlock) (hfresh : ∀ k, W.heap.size ≤ k → ok k)
    (HB : Below base w0 W) (hbase : base ≤ W.heap.size) (hl : (xs.length + m) * bytes ≤ 140737488355328)
    (h : ∀ v1 w1 a', d.R e w1 base ok v1 (xs ++ ys) → Below base w0 w1 → W.grownBy w1 v.ownBlock → Has N β ((dst, .v v1) :: E) a' → a'.defers = a.defers → wpOps P ops Q l a' w1) : wpOps P ops Q (i :: l) a W := by
  have key := Kd.R_append_rows_step (Kc := wpOps P ops Q l) (Q := Q) (ops := ops) d base (want_ hg) s x t e z bytes ho ht hinfo hz hs0 hb0 v xs ys A m c ok okp hs hx HO HR hKM hokp hfresh HB hbase hl (fun v1 w1 h1 h2 h3 _ => by
    rw [hd]
    exact h v1 w1 _ h1 h2 h3 (hA.put dst hN (.v v1)) (put_defs _ _ _))
  rw [if_pos (want_ hg)] at key
  unfold wpOps
  simp only [hoi]
  rw [if_pos (want_ hg)]
  exact Or.inl key
end Go.Proofs.YtmgnffklmdhooaaDoor.PAll
namespace Go.Proofs.YtmgnffklmdhooaaDoor.PAll
open Go.RowKit Go.Proofs.YtmgnffklmdhooaaDoorW.PrintWords Go.Proofs.YtmgnffklmdhooaaDoorW.PrintLast Go.Proofs.YtmgnffklmdhooaaDoorW.PrintMore
set_option linter.unusedVariables false
set_option linter.unusedSimpArgs false
def TT (t : TypeId) : Option Ty :=
  match t with
  | 54 => some (.int .u64)
  | 26 => some (.int .u32)
  | 5 => some (.int .u8)
  | 3 => some (.int .i64)
  | 2 => some (.int .i64)
  | 24 => some (.int .u64)
  | 12 => some (.int .u64)
  | 81 => some (.int .u64)
  | 22 => some (.int .u16)
  | 4 => some .bool
  | 59 => some (.arr 32)
  | 51 => some .sl
  | 78 => some (.st [0, 1, 2])
  | _ => none
set_option maxHeartbeats 4000000 in
set_option maxRecDepth 100000 in
theorem tabOk : TabOk Tryd.prog TT := by
  intro t y h
  unfold TT at h
  split at h
  · obtain rfl := Option.some.inj h
    exact ⟨Tryd.underlying54, Tryd.isAgg54, Tryd.sizeOf54⟩
  · obtain rfl := Option.some.inj h
    exact ⟨Tryd.underlying26, Tryd.isAgg26, Tryd.sizeOf26⟩
  · obtain rfl := Option.some.inj h
    exact ⟨Tryd.underlying5, Tryd.isAgg5, Tryd.sizeOf5⟩
  · obtain rfl := Option.some.inj h
    exact ⟨Tryd.underlying3, Tryd.isAgg3, Tryd.sizeOf3⟩
  · obtain rfl := Option.some.inj h
    exact ⟨Tryd.underlying2, Tryd.isAgg2, Tryd.sizeOf2⟩
  · obtain rfl := Option.some.inj h
    exact ⟨Tryd.underlying24, Tryd.isAgg24, Tryd.sizeOf24⟩
  · obtain rfl := Option.some.inj h
    exact ⟨Tryd.underlying12, Tryd.isAgg12, Tryd.sizeOf12⟩
  · obtain rfl := Option.some.inj h
    exact ⟨Tryd.underlying81, Tryd.isAgg81, Tryd.sizeOf81⟩
  · obtain rfl := Option.some.inj h
    exact ⟨Tryd.underlying22, Tryd.isAgg22, Tryd.sizeOf22⟩
  · obtain rfl := Option.some.inj h
    exact ⟨Tryd.underlying4, Tryd.isAgg4, Tryd.sizeOf4⟩
  · obtain rfl := Option.some.inj h
    exact ⟨_, Tryd.underlying59, Tryd.sizeOf5, Tryd.isAgg59, Tryd.sizeOf59, Tryd.isAgg5⟩
  · obtain rfl := Option.some.inj h
    exact ⟨_, Tryd.underlying51, Tryd.sizeOf5⟩
  · obtain rfl := Option.some.inj h
    refine ⟨_, Tryd.underlying78, fun f o h => ?_⟩
    match f, h with
    | 0, h =>
      obtain rfl := Option.some.inj h
      exact ⟨_, rfl, rfl, 0, fun w => Tryd.sizeOf54 w⟩
    | 1, h =>
      obtain rfl := Option.some.inj h
      exact ⟨_, rfl, rfl, 0, fun w => Tryd.sizeOf54 w⟩
    | 2, h =>
      obtain rfl := Option.some.inj h
      exact ⟨_, rfl, rfl, 0, fun w => Tryd.sizeOf3 w⟩
  · cases h
theorem sl_to (W : World) (b o n c h : Nat) (hc : h ≤ c) (h0 : 0 < c) : (Instr.sliceAt 51 (.slice (some ⟨b, o, none⟩) n c) none (some (.int .i64 (h : Int))) none).run Tryd.prog W = .ok (.slice (some ⟨b, o, none⟩) h c) W := by
  have ht := Tryd.underlying51
  have ht' : Tryd.prog.underlying 51 = some (.slice (Tryd.prog.elem 51)) := by simp [Program.elem, ht]
  have he : Tryd.prog.elem 51 = 5 := by simp [Program.elem, ht]
  rw [run_sliceAt_slice _ _ _ _ _ _ ht', run_slice_h W _ _ _ _ ht' .i64 _ (by omega) (by omega), he, Tryd.sizeOf5]
  have hne : ¬ c = 0 := by omega
  simp [Result.andThen, sliced, Addr.add, hne]
theorem allocOk59 : AllocOk Tryd.prog 59 (Array.replicate 32 (.int .u8 0)) := by
  intro ρ o W ho
  unfold execOp
  rw [ho]
  simp [go_sem]
  rfl
theorem allocOk78 : AllocOk Tryd.prog 78 #[.int .u64 0, .int .u64 0, .int .i64 0] := by
  intro ρ o W ho
  unfold execOp
  rw [ho]
  simp [go_sem]
theorem has_one {β : Nat → Nat} (x0 : SV) (k : Nat) : Has (1 + k) β [(0, x0)] ⟨#[x0.den β] ++ Array.replicate k undef, []⟩ := by
  refine has_list (by simp) ⟨?_, trivial⟩
  · show ((#[x0.den β] ++ Array.replicate k undef).getD 0 undef) = _
    rw [Array.getD_eq_getD_getElem?, Array.getElem?_append_left (by simp)]
    rfl
theorem has_three {β : Nat → Nat} (x0 : SV) (x1 : SV) (x2 : SV) (k : Nat) : Has (3 + k) β [(0, x0), (1, x1), (2, x2)] ⟨#[x0.den β, x1.den β, x2.den β] ++ Array.replicate k undef, []⟩ := by
  refine has_list (by simp) ⟨?_, ?_, ?_, trivial⟩
  · show ((#[x0.den β, x1.den β, x2.den β] ++ Array.replicate k undef).getD 0 undef) = _
    rw [Array.getD_eq_getD_getElem?, Array.getElem?_append_left (by simp)]
    rfl
  · show ((#[x0.den β, x1.den β, x2.den β] ++ Array.replicate k undef).getD 1 undef) = _
    rw [Array.getD_eq_getD_getElem?, Array.getElem?_append_left (by simp)]
    rfl
  · show ((#[x0.den β, x1.den β, x2.den β] ++ Array.replicate k undef).getD 2 undef) = _
    rw [Array.getD_eq_getD_getElem?, Array.getElem?_append_left (by simp)]
    rfl
theorem has_four {β : Nat → Nat} (x0 : SV) (x1 : SV) (x2 : SV) (x3 : SV) (k : Nat) : Has (4 + k) β [(0, x0), (1, x1), (2, x2), (3, x3)] ⟨#[x0.den β, x1.den β, x2.den β, x3.den β] ++ Array.replicate k undef, []⟩ := by
  refine has_list (by simp) ⟨?_, ?_, ?_, ?_, trivial⟩
  · show ((#[x0.den β, x1.den β, x2.den β, x3.den β] ++ Array.replicate k undef).getD 0 undef) = _
    rw [Array.getD_eq_getD_getElem?, Array.getElem?_append_left (by simp)]
    rfl
  · show ((#[x0.den β, x1.den β, x2.den β, x3.den β] ++ Array.replicate k undef).getD 1 undef) = _
    rw [Array.getD_eq_getD_getElem?, Array.getElem?_append_left (by simp)]
    rfl
  · show ((#[x0.den β, x1.den β, x2.den β, x3.den β] ++ Array.replicate k undef).getD 2 undef) = _
    rw [Array.getD_eq_getD_getElem?, Array.getElem?_append_left (by simp)]
    rfl
  · show ((#[x0.den β, x1.den β, x2.den β, x3.den β] ++ Array.replicate k undef).getD 3 undef) = _
    rw [Array.getD_eq_getD_getElem?, Array.getElem?_append_left (by simp)]
    rfl
theorem has_eight {β : Nat → Nat} (x0 : SV) (x1 : SV) (x2 : SV) (x3 : SV) (x4 : SV) (x5 : SV) (x6 : SV) (x7 : SV) (k : Nat) : Has (8 + k) β [(0, x0), (1, x1), (2, x2), (3, x3), (4, x4), (5, x5), (6, x6), (7, x7)] ⟨#[x0.den β, x1.den β, x2.den β, x3.den β, x4.den β, x5.den β, x6.den β, x7.den β] ++ Array.replicate k undef, []⟩ := by
  refine has_list (by simp) ⟨?_, ?_, ?_, ?_, ?_, ?_, ?_, ?_, trivial⟩
  · show ((#[x0.den β, x1.den β, x2.den β, x3.den β, x4.den β, x5.den β, x6.den β, x7.den β] ++ Array.replicate k undef).getD 0 undef) = _
    rw [Array.getD_eq_getD_getElem?, Array.getElem?_append_left (by simp)]
    rfl
  · show ((#[x0.den β, x1.den β, x2.den β, x3.den β, x4.den β, x5.den β, x6.den β, x7.den β] ++ Array.replicate k undef).getD 1 undef) = _
    rw [Array.getD_eq_getD_getElem?, Array.getElem?_append_left (by simp)]
    rfl
  · show ((#[x0.den β, x1.den β, x2.den β, x3.den β, x4.den β, x5.den β, x6.den β, x7.den β] ++ Array.replicate k undef).getD 2 undef) = _
    rw [Array.getD_eq_getD_getElem?, Array.getElem?_append_left (by simp)]
    rfl
  · show ((#[x0.den β, x1.den β, x2.den β, x3.den β, x4.den β, x5.den β, x6.den β, x7.den β] ++ Array.replicate k undef).getD 3 undef) = _
    rw [Array.getD_eq_getD_getElem?, Array.getElem?_append_left (by simp)]
    rfl
  · show ((#[x0.den β, x1.den β, x2.den β, x3.den β, x4.den β, x5.den β, x6.den β, x7.den β] ++ Array.replicate k undef).getD 4 undef) = _
    rw [Array.getD_eq_getD_getElem?, Array.getElem?_append_left (by simp)]
    rfl
  · show ((#[x0.den β, x1.den β, x2.den β, x3.den β, x4.den β, x5.den β, x6.den β, x7.den β] ++ Array.replicate k undef).getD 5 undef) = _
    rw [Array.getD_eq_getD_getElem?, Array.getElem?_append_left (by simp)]
    rfl
  · show ((#[x0.den β, x1.den β, x2.den β, x3.den β, x4.den β, x5.den β, x6.den β, x7.den β] ++ Array.replicate k undef).getD 6 undef) = _
    rw [Array.getD_eq_getD_getElem?, Array.getElem?_append_left (by simp)]
    rfl
  · show ((#[x0.den β, x1.den β, x2.den β, x3.den β, x4.den β, x5.den β, x6.den β, x7.den β] ++ Array.replicate k undef).getD 7 undef) = _
    rw [Array.getD_eq_getD_getElem?, Array.getElem?_append_left (by simp)]
    rfl
end Go.Proofs.YtmgnffklmdhooaaDoor.PAll
namespace Go.Proofs.YtmgnffklmdhooaaDoor.PAll
open Go.RowKit Go.Proofs.YtmgnffklmdhooaaDoorW.PrintWords Go.Proofs.YtmgnffklmdhooaaDoorW.PrintLast Go.Proofs.YtmgnffklmdhooaaDoorW.PrintMore
set_option linter.unusedVariables false
theorem sE0 {r : Option (List (Nat × SV))} : ∀ {E : List (Nat × SV)}, (E.map fun p => r.bind (look · p.1)) = (E.map fun p => some p.2) → Sub r E
  | [], _ => trivial
  | (k, y) :: E, h => by
    simp only [List.map_cons, List.cons.injEq] at h
    exact ⟨h.1, sE0 h.2⟩
theorem sE {r : Option (List (Nat × SV))} {E : List (Nat × SV)} (h : (E.map fun p => r.bind (look · p.1)) = (E.map fun p => some p.2) := by kernel_rfl) : Sub r E := sE0 h
abbrev vi (n : Int) : SV := .v (.int .i64 n)
abbrev vu (n : Int) : SV := .v (.int .u64 n)
abbrev vw (n : Int) : SV := .v (.int .u32 n)
abbrev vo (n : Int) : SV := .v (.int .u8 n)
abbrev vb (b : Bool) : SV := .v (.bool b)
abbrev vp (b : Nat) : SV := .v (.pointer (some ⟨b, 0, none⟩))
theorem oP (N : Nat) {β : Nat → Nat} {ops : Array Oper} {Q : Exit → Act → World → Prop} {a : Act} {w : World} {E : List (Nat × SV)} {D : List Deferred} (l2 l : List Nat) (E2 : List (Nat × SV)) (hA : Has N β E a) (hd : a.defers = D)
    (h : ∀ a', Has N β E2 a' → a'.defers = D → wpOps Tryd.prog ops Q l2 a' w) (hk : (evs N TT (fun _ _ => none) ops l E).map (fun E' => E2.map fun p => look E' p.1) = some (E2.map fun p => some p.2) := by kernel_rfl) : wpOps Tryd.prog ops Q (l ++ l2) a w := by
  obtain ⟨E', he, h2⟩ := Option.map_eq_some_iff.1 hk
  refine opsP (N := N) (T := TT) (M := fun _ _ => none) tabOk (fun _ _ _ h => by cases h) l2 l E2 hA (by rw [he]; rfl) ?_ (fun a' h3 h4 => h a' h3 (h4.trans hd))
  rw [he]
  exact sE0 h2
theorem oM (N : Nat) {β : Nat → Nat} {ops : Array Oper} {Q : Exit → Act → World → Prop} {a : Act} {w : World} {E : List (Nat × SV)} {D : List Deferred} {M : Nat → Nat → Option Value} (hM : MemOk β M w) (l2 l : List Nat) (E2 : List (Nat × SV)) (hA : Has N β E a) (hd : a.defers = D)
    (h : ∀ a', Has N β E2 a' → a'.defers = D → wpOps Tryd.prog ops Q l2 a' w) (hk : (evs N TT M ops l E).map (fun E' => E2.map fun p => look E' p.1) = some (E2.map fun p => some p.2) := by kernel_rfl) : wpOps Tryd.prog ops Q (l ++ l2) a w := by
  obtain ⟨E', he, h2⟩ := Option.map_eq_some_iff.1 hk
  refine opsP (N := N) (T := TT) (M := M) tabOk hM l2 l E2 hA (by rw [he]; rfl) ?_ (fun a' h3 h4 => h a' h3 (h4.trans hd))
  rw [he]
  exact sE0 h2
section
variable {P : Program} {ops : Array Oper} {Q : Exit → Act → World → Prop} {N : Nat} {β : Nat → Nat}
theorem gW {i d : Nat} {o : Oper} {s : SV} {a : Act} {w : World} {E : List (Nat × SV)} {D : List Deferred} (N : Nat) (l : List Nat) (hA : Has N β E a) (hdf : a.defers = D) (ho : ops[i]? = some o) (hw : Region.wanted o (yielded ops a.tmps) = true) (hd : o.dst = some d) (hN : d < N) (hrun : (execOp a.eval o).run P w = .ok (.value (s.den β)) w)
    (h : ∀ a', Has N β ((d, s) :: E) a' → a'.defers = D → wpOps P ops Q l a' w) : wpOps P ops Q (i :: l) a w := givenW_ops ho hw hd hN hA hrun (fun a' h1 h2 => h a' h1 (h2.trans hdf))
end
end Go.Proofs.YtmgnffklmdhooaaDoor.PAll
namespace Go.Proofs.YtmgnffklmdhooaaDoor.PAll
open Go.RowKit Go.Proofs.YtmgnffklmdhooaaDoorW.PrintWords Go.Proofs.YtmgnffklmdhooaaDoorW.PrintLast Go.Proofs.YtmgnffklmdhooaaDoorW.PrintMore
set_option linter.unusedVariables false
set_option linter.unusedSimpArgs false
section
variable {P : Program} {ops : Array Oper} {Q : Exit → Act → World → Prop} {N : Nat} {β : Nat → Nat} {T : TypeId → Option Ty}
theorem storeM_ops {i k ix : Nat} {u v0 : Value} {l : List Nat} {a : Act} {w : World} {L : List Bl} {E : List (Nat × SV)} (hT : TabOk P T) (hA : Has N β E a) (hM : Mw β L w) (hst : stV T ops i (some E) = some (k, ix, u)) (hv0 : bm L k ix = some v0)
    (h : ∀ W, Mw β (bput L k ix u) W → Fr [β k] w W → wpOps P ops Q l a W) : wpOps P ops Q (i :: l) a w := by
  obtain ⟨rfl, hM⟩ := hM
  obtain ⟨E', o, he, ho, hg, hd, hrun⟩ := stV_ok (P := P) (β := bg L) (N := N) hst
  obtain rfl := Option.some.inj he
  unfold wpOps
  simp only [ho]
  rw [if_pos (want_ hg)]
  refine Or.inl ?_
  unfold Oper.wp
  rw [hrun a w hT hA ⟨_, (hM.at hv0).1⟩ (hM.at hv0).2, Oper.upon_skip, hd]
  exact h _ ⟨bg_put _ _ _ _, Mm.set u hM hv0⟩ ((Fr.refl [bg L k] w).set _ (by simp) u)
variable {ρ : Operand → Value} {o : Oper} {W : World}
theorem op_indexK {t e : TypeId} {n j k : Nat} {x ix : Operand} {b i : Nat} (ho : o.op = .indexAddr t x ix) (hx : ρ x = .pointer (some ⟨b, i, none⟩)) (hi : ρ ix = .int .i64 (j : Int)) (ht : P.underlying t = some (.array n e)) (hs : ∀ w, (Go.sizeOf e).run P w = .ok k w) (hj : j < n) :
    (execOp ρ o).run P W = .ok (.value (.pointer (some ⟨b, i + j * k, none⟩))) W := by
  unfold execOp
  rw [ho]
  simp [go_sem, Instr.indexAt, hx, hi, und ht, hs, hj, addr_add]
end
/-- What the walks need to know of the package's variables: the powers of ten. -/
structure GlobP (w : World) : Prop where
  pow : ∀ i, i < 20 → w.cell? ⟨2, i, none⟩ = some (.int .u64 ((10 ^ i : Nat) : Int))
  hi : ∀ i, 3 ≤ i → i ≤ 15 → w.cell? ⟨3, (i + 348) * 2, none⟩ = some (.int .u64 ((10 ^ i * 2 ^ (63 - Nat.log2 (10 ^ i)) : Nat) : Int))
  lo : ∀ i, 3 ≤ i → i ≤ 15 → w.cell? ⟨3, (i + 348) * 2 + 1, none⟩ = some (.int .u64 0)
theorem GlobP.cells {w w' : World} (h : GlobP w) (hb : ∀ p v, w.cell? p = some v → w'.cell? p = some v) : GlobP w' := ⟨fun i hi => hb _ _ (h.pow i hi), fun i h1 h2 => hb _ _ (h.hi i h1 h2), fun i h1 h2 => hb _ _ (h.lo i h1 h2)⟩
theorem GlobP.below {w w' : World} (h : GlobP w) (hb : Below w.heap.size w w') : GlobP w' := h.cells fun p v hv => (hb.cell (World.block_lt_of_cell? w _ hv)).trans hv
theorem GlobP.lt2 {w : World} (h : GlobP w) : 2 < w.heap.size := World.block_lt_of_cell? w _ (h.pow 0 (by decide))
theorem GlobP.lt3 {w : World} (h : GlobP w) : 3 < w.heap.size := World.block_lt_of_cell? w _ (h.lo 3 (by decide) (by decide))
theorem GlobP.fr {S : List Nat} {w w' : World} (h : GlobP w) (hF : Fr S w w') (hS : ∀ k, k ∈ S → 4 ≤ k) : GlobP w' :=
  ⟨fun i hi => hF.cell (h.pow i hi) (fun hk => absurd (hS _ hk) (by show ¬ 4 ≤ 2; decide)), fun i h1 h2 => hF.cell (h.hi i h1 h2) (fun hk => absurd (hS _ hk) (by show ¬ 4 ≤ 3; decide)), fun i h1 h2 => hF.cell (h.lo i h1 h2) (fun hk => absurd (hS _ hk) (by show ¬ 4 ≤ 3; decide))⟩
end Go.Proofs.YtmgnffklmdhooaaDoor.PAll
namespace Go.Proofs.YtmgnffklmdhooaaDoor.PAll
open Go.RowKit Go.Proofs.YtmgnffklmdhooaaDoorW.PrintWords Go.Proofs.YtmgnffklmdhooaaDoorW.PrintLast Go.Proofs.YtmgnffklmdhooaaDoorW.PrintMore
set_option linter.unusedVariables false
set_option linter.unusedSimpArgs false
/-- How many decimal digits d has, as numDigits reckons. -/
def ndN (d : Nat) : Nat := if 10 ^ (lenN d * 78913 / 262144) ≤ d then lenN d * 78913 / 262144 + 1 else lenN d * 78913 / 262144
theorem lenN_64 {d : Nat} (h : d < 18446744073709551616) : lenN d ≤ 64 := by
  unfold lenN
  split
  · decide
  · rename_i h0
    have := (Nat.log2_lt h0 (k := 64)).mpr h
    omega
set_option maxHeartbeats 8000000 in
set_option maxRecDepth 100000 in
theorem numDigits_walk (d : Nat) (hd : d < 18446744073709551616) (w : World) (HZ : GlobP w) :
    Calls Tryd.prog 37 #[.int .u64 (d : Int)] w fun e w' => e = .returned (.int .i64 ((ndN d : Nat) : Int)) ∧ Below w.heap.size w w' := by
  have hL := lenN_64 hd
  have hn : lenN d * 78913 / 262144 < 20 := by omega
  have hl : strconv_log10Pow2.f ((lenN d : Nat) : Int) = some ((lenN d * 78913 / 262144 : Nat) : Int) := by
    unfold strconv_log10Pow2.f wrap64
    generalize lenN d = q at hL
    exact congrArg some (by omega)
  have hb : strconv_bool2_int.f (decide ((d : Int) ≥ ((10 ^ (lenN d * 78913 / 262144) : Nat) : Int))) = some ((if 10 ^ (lenN d * 78913 / 262144) ≤ d then 1 else 0 : Nat) : Int) := by
    unfold strconv_bool2_int.f
    generalize 10 ^ (lenN d * 78913 / 262144) = p
    by_cases h : p ≤ d
    · rw [decide_eq_true (show (d : Int) ≥ (p : Int) by omega), if_pos h]
      rfl
    · rw [decide_eq_false (show ¬ (d : Int) ≥ (p : Int) by omega), if_neg h]
      rfl
  have hs : IntKind.i64.wrap (((lenN d * 78913 / 262144 : Nat) : Int) + ((if 10 ^ (lenN d * 78913 / 262144) ≤ d then 1 else 0 : Nat) : Int)) = ((ndN d : Nat) : Int) := by
    unfold ndN
    rw [IntKind.wrap_i64]
    generalize lenN d * 78913 / 262144 = q at hn
    split <;> omega
  refine calls_of_wp Tryd.func37 rfl ?_
  have h0 := has_one (β := bn []) (vu (d : Int)) 14
  have d0 : (⟨#[.int .u64 (d : Int)] ++ Array.replicate 14 undef, []⟩ : Act).defers = [] := rfl
  have HB0 := Below.refl w.heap.size w
  refine wp_seq (wp_region ?_)
  refine oP 15 [] [0] [(0, vu (d : Int)), (2, vi 0)] h0 d0 (fun a1 h1 d1 => ?_)
  clear h0 d0
  show Code.wp _ _ _ _ _
  refine wp_seq (wp_region ?_)
  refine oP 15 [1, 2, 3] [0] [(0, vu (d : Int)), (2, vi 0), (4, vu (d : Int))] h1 d1 (fun a2 h2 d2 => ?_)
  clear h1 d1
  refine callW_ops (N := 15) (i := 1) (d := 5) (f := 34) (args := [(vu (d : Int))]) (l := [2, 3]) rfl (want_ rfl) rfl (by decide) h2 Tryd.func34 rfl rfl rfl (by kernel_rfl) (fun v W' => v = (.int .i64 ((lenN d : Nat) : Int)) ∧ Below (w).heap.size (w) W') ((bits_Len64.calls (d : Int) _ w (by unfold bits_Len64.f; rw [if_pos ⟨by omega, by omega⟩, Int.toNat_natCast])).mono fun e w' hh => ⟨_, hh.1, rfl, hh.2.below⟩) (fun v3 W3 a3 hR3 h3 d3 => ?_)
  replace d3 := d3.trans d2
  clear h2 d2
  obtain ⟨rfl, B3⟩ := hR3
  have HB3 := below_step HB0 B3
  refine callW_ops (N := 15) (i := 2) (d := 6) (f := 38) (args := [(vi ((lenN d : Nat) : Int))]) (l := [3]) rfl (want_ rfl) rfl (by decide) h3 Tryd.func38 rfl rfl rfl (by kernel_rfl) (fun v W' => v = (.int .i64 ((lenN d * 78913 / 262144 : Nat) : Int)) ∧ Below (W3).heap.size (W3) W') ((strconv_log10Pow2.calls _ _ W3 (hl)).mono fun e w' hh => ⟨_, hh.1, rfl, hh.2.below⟩) (fun v4 W4 a4 hR4 h4 d4 => ?_)
  replace d4 := d4.trans d3
  clear h3 d3
  obtain ⟨rfl, B4⟩ := hR4
  have HB4 := below_step HB3 B4
  refine oP 15 [] [3] [(0, vu (d : Int)), (2, vi 0), (3, vi ((lenN d * 78913 / 262144 : Nat) : Int))] h4 d4 (fun a5 h5 d5 => ?_)
  clear h4 d4
  show Code.wp _ _ _ _ _
  refine wp_seq (wp_region ?_)
  refine oP 15 [3, 4, 5, 6, 7, 8] [0, 1, 2] [(0, vu (d : Int)), (2, vi 0), (3, vi ((lenN d * 78913 / 262144 : Nat) : Int)), (7, vi ((lenN d * 78913 / 262144 : Nat) : Int)), (8, vu (d : Int)), (9, vi ((lenN d * 78913 / 262144 : Nat) : Int))] h5 d5 (fun a6 h6 d6 => ?_)
  clear h5 d5
  refine gW (s := .v (.pointer (some ⟨2, lenN d * 78913 / 262144, none⟩))) 15 [4, 5, 6, 7, 8] h6 d6 rfl (want_ rfl) rfl (by decide) ((op_indexK rfl rfl (h6.2 9 _ rfl) Tryd.underlying87 Tryd.sizeOf54 hn).trans (by rw [Nat.zero_add, Nat.mul_one]; rfl)) (fun a7 h7 d7 => ?_)
  clear h6 d6
  refine gW (s := vu ((10 ^ (lenN d * 78913 / 262144) : Nat) : Int)) 15 [5, 6, 7, 8] h7 d7 rfl (want_ rfl) rfl (by decide) (op_load rfl (h7.2 10 _ rfl) Tryd.isAgg54 ((HZ.below HB4).pow _ hn)) (fun a8 h8 d8 => ?_)
  clear h7 d7
  refine oP 15 [6, 7, 8] [5] [(0, vu (d : Int)), (2, vi 0), (3, vi ((lenN d * 78913 / 262144 : Nat) : Int)), (7, vi ((lenN d * 78913 / 262144 : Nat) : Int)), (8, vu (d : Int)), (9, vi ((lenN d * 78913 / 262144 : Nat) : Int)), (10, .v (.pointer (some ⟨2, lenN d * 78913 / 262144, none⟩))), (11, vu ((10 ^ (lenN d * 78913 / 262144) : Nat) : Int)), (12, vb (decide (((d : Int) : Int) ≥ ((10 ^ (lenN d * 78913 / 262144) : Nat) : Int))))] h8 d8 (fun a9 h9 d9 => ?_)
  clear h8 d8
  refine callW_ops (N := 15) (i := 6) (d := 13) (f := 56) (args := [(vb (decide (((d : Int) : Int) ≥ ((10 ^ (lenN d * 78913 / 262144) : Nat) : Int))))]) (l := [7, 8]) rfl (want_ rfl) rfl (by decide) h9 Tryd.func56 rfl rfl rfl (by kernel_rfl) (fun v W' => v = (.int .i64 ((if 10 ^ (lenN d * 78913 / 262144) ≤ d then 1 else 0 : Nat) : Int)) ∧ Below (W4).heap.size (W4) W') ((strconv_bool2_int.calls _ _ W4 (hb)).mono fun e w' hh => ⟨_, hh.1, rfl, hh.2.below⟩) (fun v10 W10 a10 hR10 h10 d10 => ?_)
  replace d10 := d10.trans d9
  clear h9 d9
  obtain ⟨rfl, B10⟩ := hR10
  have HB10 := below_step HB4 B10
  refine oP 15 [8] [7] [(0, vu (d : Int)), (2, vi 0), (3, vi ((lenN d * 78913 / 262144 : Nat) : Int)), (7, vi ((lenN d * 78913 / 262144 : Nat) : Int)), (8, vu (d : Int)), (9, vi ((lenN d * 78913 / 262144 : Nat) : Int)), (10, .v (.pointer (some ⟨2, lenN d * 78913 / 262144, none⟩))), (11, vu ((10 ^ (lenN d * 78913 / 262144) : Nat) : Int)), (12, vb (decide (((d : Int) : Int) ≥ ((10 ^ (lenN d * 78913 / 262144) : Nat) : Int)))), (13, vi ((if 10 ^ (lenN d * 78913 / 262144) ≤ d then 1 else 0 : Nat) : Int)), (14, vi (IntKind.i64.wrap (((lenN d * 78913 / 262144 : Nat) : Int) + ((if 10 ^ (lenN d * 78913 / 262144) ≤ d then 1 else 0 : Nat) : Int))))] h10 d10 (fun a11 h11 d11 => ?_)
  clear h10 d10
  rw [show (IntKind.i64.wrap (((lenN d * 78913 / 262144 : Nat) : Int) + ((if 10 ^ (lenN d * 78913 / 262144) ≤ d then 1 else 0 : Nat) : Int))) = ((ndN d : Nat) : Int) from hs] at h11
  refine oP 15 [] [8] [(0, vu (d : Int)), (2, vi ((ndN d : Nat) : Int))] h11 d11 (fun a12 h12 d12 => ?_)
  clear h11 d11
  show Code.wp _ _ _ _ _
  refine wp_ret ?_
  refine ⟨d12, _, results_tmp rfl _ _ _, congrArg Ending.returned (h12.2 2 _ rfl), HB10⟩
set_option maxHeartbeats 8000000 in
set_option maxRecDepth 100000 in
def pHi (p : Nat) : Nat := 10 ^ p * 2 ^ (63 - Nat.log2 (10 ^ p))
/-- The scaling constants. -/
def scV (a b c : Int) : Nat → Value := fun i => match i with
  | 0 => .int .u64 a
  | 1 => .int .u64 b
  | _ => .int .i64 c
def scS (e lp : Int) : Int := IntKind.i64.wrap (0 - (IntKind.i64.wrap ((IntKind.i64.wrap (e + lp)) + 3)))
set_option maxHeartbeats 8000000 in
set_option maxRecDepth 100000 in
theorem prescale_walk (g : Nat) (m : Nat → Value) (e lp : Int) (p : Nat) (hp : 3 ≤ p ∧ p ≤ 15) (w : World) (HZ : GlobP w) (hg : (⟨g, 78, 3, m⟩ : Bl).In w) (hg4 : 4 ≤ g) :
    Calls Tryd.prog 48 #[.pointer (some ⟨g, 0, none⟩), .int .i64 e, .int .i64 (p : Int), .int .i64 lp] w fun e' w' => e' = .returned (.tuple #[]) ∧ (⟨g, 78, 3, scV ((pHi p : Nat) : Int) 0 (scS e lp)⟩ : Bl).In w' ∧ Fr [g] w w' := by
  have hj : IntKind.i64.wrap ((p : Int) - (-348)) = ((p + 348 : Nat) : Int) := by
    rw [IntKind.wrap_i64]
    omega
  refine calls_of_wp Tryd.func48 rfl ?_
  have h0 := has_four (β := bn [g]) (.p 0 0) (vi e) (vi (p : Int)) (vi lp) 28
  have d0 : (⟨#[.pointer (some ⟨g, 0, none⟩), .int .i64 e, .int .i64 (p : Int), .int .i64 lp] ++ Array.replicate 28 undef, []⟩ : Act).defers = [] := rfl
  have M0 : Mw (bn [g]) [⟨g, 78, 3, m⟩] w := ⟨bg_bn _, hg, by simp, trivial⟩
  have F := Fr.refl [g] w
  refine wp_seq (wp_region ?_)
  refine oM 32 M0.mem [3, 4, 5, 6, 7, 8] [0, 1, 2] [(0, .p 0 0), (1, vi e), (2, vi (p : Int)), (3, vi lp), (8, .p 0 0), (9, vi (p : Int)), (10, vi (IntKind.i64.wrap ((p : Int) - (-348))))] h0 d0 (fun a1 h1 d1 => ?_)
  clear h0 d0
  rw [show (IntKind.i64.wrap ((p : Int) - (-348))) = ((p + 348 : Nat) : Int) from hj] at h1
  refine gW (s := .v (.pointer (some ⟨3, (p + 348) * 2, none⟩))) 32 [4, 5, 6, 7, 8] h1 d1 rfl (want_ rfl) rfl (by decide) ((op_indexK rfl rfl (h1.2 10 _ rfl) Tryd.underlying97 Tryd.sizeOf96 (by omega)).trans (by rw [Nat.zero_add]; rfl)) (fun a2 h2 d2 => ?_)
  clear h1 d1
  refine gW (s := .v (.pointer (some ⟨3, (p + 348) * 2 + 0, none⟩))) 32 [5, 6, 7, 8] h2 d2 rfl (want_ rfl) rfl (by decide) (op_field (n := 0) rfl (h2.2 11 _ rfl) Tryd.underlying96 (f := 0) rfl Tryd.sizeOf54) (fun a3 h3 d3 => ?_)
  clear h2 d2
  refine gW (s := vu ((pHi p : Nat) : Int)) 32 [6, 7, 8] h3 d3 rfl (want_ rfl) rfl (by decide) (op_load rfl (h3.2 12 _ rfl) Tryd.isAgg54 (HZ.hi p (by omega) (by omega))) (fun a4 h4 d4 => ?_)
  clear h3 d3
  refine oM 32 M0.mem [8] [6, 7] [(0, .p 0 0), (1, vi e), (2, vi (p : Int)), (3, vi lp), (8, .p 0 0), (9, vi (p : Int)), (10, vi ((p + 348 : Nat) : Int)), (11, .v (.pointer (some ⟨3, (p + 348) * 2, none⟩))), (12, .v (.pointer (some ⟨3, (p + 348) * 2 + 0, none⟩))), (13, vu ((pHi p : Nat) : Int)), (14, .p 0 0), (15, .p 0 0)] h4 d4 (fun a5 h5 d5 => ?_)
  clear h4 d4
  refine storeM_ops (N := 32) (T := TT) (i := 8) (k := 0) (ix := 0) (u := .int .u64 ((pHi p : Nat) : Int)) (l := []) tabOk h5 M0 (by kernel_rfl) rfl (fun W6 M6 G6 => ?_)
  replace M6 : Mw (bn [g]) [⟨g, 78, 3, (upm m 0 (.int .u64 ((pHi p : Nat) : Int)))⟩] W6 := M6
  have h6 := h5
  have d6 := d5
  clear h5 d5 M0
  replace HZ := HZ.fr G6 (by intro k hk; simp at hk; subst hk; exact hg4)
  replace F := F.trans G6
  show Code.wp _ _ _ _ _
  refine wp_seq (wp_region ?_)
  refine oM 32 M6.mem [3, 4, 5, 6, 7, 8] [0, 1, 2] [(0, .p 0 0), (1, vi e), (2, vi (p : Int)), (3, vi lp), (16, .p 0 0), (17, vi (p : Int)), (18, vi (IntKind.i64.wrap ((p : Int) - (-348))))] h6 d6 (fun a7 h7 d7 => ?_)
  clear h6 d6
  rw [show (IntKind.i64.wrap ((p : Int) - (-348))) = ((p + 348 : Nat) : Int) from hj] at h7
  refine gW (s := .v (.pointer (some ⟨3, (p + 348) * 2, none⟩))) 32 [4, 5, 6, 7, 8] h7 d7 rfl (want_ rfl) rfl (by decide) ((op_indexK rfl rfl (h7.2 18 _ rfl) Tryd.underlying97 Tryd.sizeOf96 (by omega)).trans (by rw [Nat.zero_add]; rfl)) (fun a8 h8 d8 => ?_)
  clear h7 d7
  refine gW (s := .v (.pointer (some ⟨3, (p + 348) * 2 + 1, none⟩))) 32 [5, 6, 7, 8] h8 d8 rfl (want_ rfl) rfl (by decide) (op_field (n := 0) rfl (h8.2 19 _ rfl) Tryd.underlying96 (f := 1) rfl Tryd.sizeOf54) (fun a9 h9 d9 => ?_)
  clear h8 d8
  refine gW (s := vu 0) 32 [6, 7, 8] h9 d9 rfl (want_ rfl) rfl (by decide) (op_load rfl (h9.2 20 _ rfl) Tryd.isAgg54 (HZ.lo p (by omega) (by omega))) (fun a10 h10 d10 => ?_)
  clear h9 d9
  refine oM 32 M6.mem [8] [6, 7] [(0, .p 0 0), (1, vi e), (2, vi (p : Int)), (3, vi lp), (16, .p 0 0), (17, vi (p : Int)), (18, vi ((p + 348 : Nat) : Int)), (19, .v (.pointer (some ⟨3, (p + 348) * 2, none⟩))), (20, .v (.pointer (some ⟨3, (p + 348) * 2 + 1, none⟩))), (21, vu 0), (22, .p 0 0), (23, .p 0 1)] h10 d10 (fun a11 h11 d11 => ?_)
  clear h10 d10
  refine storeM_ops (N := 32) (T := TT) (i := 8) (k := 0) (ix := 1) (u := .int .u64 0) (l := []) tabOk h11 M6 (by kernel_rfl) rfl (fun W12 M12 G12 => ?_)
  replace M12 : Mw (bn [g]) [⟨g, 78, 3, (upm (upm m 0 (.int .u64 ((pHi p : Nat) : Int))) 1 (.int .u64 0))⟩] W12 := M12
  have h12 := h11
  have d12 := d11
  clear h11 d11 M6
  replace HZ := HZ.fr G12 (by intro k hk; simp at hk; subst hk; exact hg4)
  replace F := F.trans G12
  show Code.wp _ _ _ _ _
  refine wp_region ?_
  refine oM 32 M12.mem [8] [0, 1, 2, 3, 4, 5, 6, 7] [(0, .p 0 0), (1, vi e), (2, vi (p : Int)), (3, vi lp), (24, .p 0 0), (25, vi e), (26, vi lp), (27, vi (IntKind.i64.wrap (e + lp))), (28, vi (IntKind.i64.wrap ((IntKind.i64.wrap (e + lp)) + 3))), (29, vi (IntKind.i64.wrap (0 - (IntKind.i64.wrap ((IntKind.i64.wrap (e + lp)) + 3))))), (30, .p 0 0), (31, .p 0 2)] h12 d12 (fun a13 h13 d13 => ?_)
  clear h12 d12
  refine storeM_ops (N := 32) (T := TT) (i := 8) (k := 0) (ix := 2) (u := .int .i64 (IntKind.i64.wrap (0 - (IntKind.i64.wrap ((IntKind.i64.wrap (e + lp)) + 3))))) (l := []) tabOk h13 M12 (by kernel_rfl) rfl (fun W14 M14 G14 => ?_)
  replace M14 : Mw (bn [g]) [⟨g, 78, 3, (upm (upm (upm m 0 (.int .u64 ((pHi p : Nat) : Int))) 1 (.int .u64 0)) 2 (.int .i64 (IntKind.i64.wrap (0 - (IntKind.i64.wrap ((IntKind.i64.wrap (e + lp)) + 3))))))⟩] W14 := M14
  have h14 := h13
  have d14 := d13
  clear h13 d13 M12
  replace F := F.trans G14
  refine ⟨d14, _, results_none rfl _ _ _, rfl, ?_, F⟩
  refine Bl.In.eq (M14.2.get (k := 0) rfl) (fun i hi => ?_)
  have hi3 : i < 3 := hi
  match i, hi3 with
  | 0, _ => rfl
  | 1, _ => rfl
  | 2, _ => rfl
end Go.Proofs.YtmgnffklmdhooaaDoor.PAll
