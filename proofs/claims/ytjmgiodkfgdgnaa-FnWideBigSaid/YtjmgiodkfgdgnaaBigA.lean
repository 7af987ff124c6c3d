/- Steps of walks with known slots and memory, and math/big's make, setUint64, norm, copy and clear of words as what they do in memory; for blocks as each theorem's hypotheses tell. -/
import Derived.Test.YtjmgiodkfgdgnaaPAllx1
import Derived.Deep.RegionWith
import Derived.Laws.CopyRow
import Derived.Laws.CopyOwn
import Derived.LoopN
import Derived.Laws.Tables
import Derived.Great.BuildSlice
import Derived.Laws.MakeOwn
import Derived.Laws.IdiomCopy
import Derived.Laws.Bits64
namespace Go.Proofs.Ytjmgiodkfgdgnaa.PAll
open Go.RowKit Go.Proofs.YtjmgiodkfgdgnaaW.PrintWords Go.Proofs.YtjmgiodkfgdgnaaW.PrintLast Go.Proofs.YtjmgiodkfgdgnaaW.PrintMore
set_option linter.unusedVariables false
set_option linter.unusedSimpArgs false
/-- What was there is as it was, but for the blocks S. -/
def Fr (S : List Nat) (w W : World) : Prop := W.os = w.os ∧ W.tape = w.tape ∧ W.output = w.output ∧ w.heap.size ≤ W.heap.size ∧ ∀ k, k < w.heap.size → k ∉ S → W.heap[k]? = w.heap[k]?
theorem Fr.refl (S : List Nat) (w : World) : Fr S w w := ⟨rfl, rfl, rfl, Nat.le_refl _, fun _ _ _ => rfl⟩
theorem Fr.trans {S : List Nat} {a b c : World} (h : Fr S a b) (k : Fr S b c) : Fr S a c :=
  ⟨k.1.trans h.1, k.2.1.trans h.2.1, k.2.2.1.trans h.2.2.1, Nat.le_trans h.2.2.2.1 k.2.2.2.1, fun i hi hs => (k.2.2.2.2 i (Nat.lt_of_lt_of_le hi h.2.2.2.1) hs).trans (h.2.2.2.2 i hi hs)⟩
theorem Fr.mono {S S' : List Nat} {a b : World} (h : Fr S a b) (hS : ∀ k, k ∈ S → k ∈ S') : Fr S' a b := ⟨h.1, h.2.1, h.2.2.1, h.2.2.2.1, fun i hi hs => h.2.2.2.2 i hi (fun hk => hs (hS i hk))⟩
theorem Fr.size {S : List Nat} {a b : World} (h : Fr S a b) : a.heap.size ≤ b.heap.size := h.2.2.2.1
theorem Fr.drew {S : List Nat} {a b : World} (h : Fr S a b) : Fr S a b.drew := h
theorem Fr.ofBelow {a b : World} (S : List Nat) (h : Below a.heap.size a b) : Fr S a b := ⟨h.os, h.tape, h.output, h.size, fun k hk _ => h.block k hk⟩
theorem Fr.alloc {S : List Nat} {a b : World} (h : Fr S a b) (o : Obj) : Fr S a (b.alloc o) := h.trans (Fr.ofBelow S ((Below.refl _ _).alloc (Nat.le_refl _) o))
theorem Fr.set {S : List Nat} {a b : World} (h : Fr S a b) (p : Addr) (hp : p.block ∈ S) (v : Value) : Fr S a (b.setCell p v) :=
  ⟨h.1, h.2.1, h.2.2.1, by have := h.2.2.2.1; simpa using this, fun k hk hs => (Below.heap_setCell b p v k (fun e => hs (e ▸ hp))).trans (h.2.2.2.2 k hk hs)⟩
theorem Fr.row {S : List Nat} {a b : World} (h : Fr S a b) (k : Nat) (hp : k ∈ S) (cs : Array Value) : Fr S a (b.setRow k cs) :=
  ⟨h.1, h.2.1, h.2.2.1, by have := h.2.2.2.1; simpa using this, fun i hi hs => (setRow_other b k i cs (fun e => hs (e ▸ hp))).trans (h.2.2.2.2 i hi hs)⟩
theorem Fr.below {S : List Nat} {a b : World} (h : Fr S a b) (B : Nat) (hB : B ≤ a.heap.size) (hS : ∀ k, k ∈ S → B ≤ k) : Below B a b :=
  ⟨h.1, h.2.1, h.2.2.1, h.2.2.2.1, fun k hk => h.2.2.2.2 k (Nat.lt_of_lt_of_le hk hB) (fun hs => Nat.not_lt.2 (hS k hs) hk)⟩
theorem Fr.block {S : List Nat} {a b : World} (h : Fr S a b) {k : Nat} {o : Obj} (hk : a.heap[k]? = some o) (hs : k ∉ S) : b.heap[k]? = some o := (h.2.2.2.2 k (blk_lt hk) hs).trans hk
theorem Fr.cell {S : List Nat} {a b : World} (h : Fr S a b) {p : Addr} {v : Value} (hk : a.cell? p = some v) (hs : p.block ∉ S) : b.cell? p = some v :=
  (World.cell?_of_block (h.2.2.2.2 p.block (World.block_lt_of_cell? a _ hk) hs)).trans hk
/-- A number put into its place. -/
def upd (s : Nat → Int) (i : Nat) (x : Int) : Nat → Int := fun j => if j = i then x else s j
/-- A block whose first sixteen cells are the numbers s; r: what lies behind them. -/
def St (g : Nat) (T : TypeId) (r : Nat → Option Value) (s : Nat → Int) (W : World) : Prop := ∃ cs, W.heap[g]? = some (.cells cs T (0, 0)) ∧ (∀ i, i < 16 → cs[i]? = some (.int .u64 (s i))) ∧ ∀ i, 16 ≤ i → cs[i]? = r i
section
variable {g : Nat} {T : TypeId} {r : Nat → Option Value} {s : Nat → Int} {W : World}
theorem St.drew (h : St g T r s W) : St g T r s W.drew := h
theorem St.lt (h : St g T r s W) : g < W.heap.size := by
  obtain ⟨cs, h1, _⟩ := h
  exact blk_lt h1
theorem St.cell (h : St g T r s W) (i : Nat) (hi : i < 16) : W.cell? ⟨g, i, none⟩ = some (.int .u64 (s i)) := by
  obtain ⟨cs, h1, h2, _⟩ := h
  rw [blk_cell h1]
  exact h2 i hi
theorem St.rest (h : St g T r s W) (i : Nat) (hi : 16 ≤ i) : W.cell? ⟨g, i, none⟩ = r i := by
  obtain ⟨cs, h1, _, h2⟩ := h
  rw [blk_cell h1]
  exact h2 i hi
theorem St.free (h : St g T r s W) (i : Nat) : W.frozen? ⟨g, i, none⟩ = false := by
  obtain ⟨cs, h1, _⟩ := h
  exact blk_frozen h1 i
theorem St.set (h : St g T r s W) (i : Nat) (hi : i < 16) (x : Int) : St g T r (upd s i x) (W.setCell ⟨g, i, none⟩ (.int .u64 x)) := by
  obtain ⟨cs, h1, h2, h3⟩ := h
  have hl : i < cs.size := (Array.getElem?_eq_some_iff.1 (h2 i hi)).1
  refine ⟨_, blk_set h1 i (.int .u64 x), fun j hj => ?_, fun j hj => ?_⟩
  · unfold upd
    by_cases e : j = i
    · subst e
      rw [if_pos rfl, Array.getElem?_setIfInBounds_self_of_lt hl]
    · rw [if_neg e, Array.getElem?_setIfInBounds_ne (Ne.symm e)]
      exact h2 j hj
  · rw [Array.getElem?_setIfInBounds_ne (by omega)]
    exact h3 j hj
theorem St.on {S : List Nat} {W' : World} (h : St g T r s W) (h' : Fr S W W') (hg : g ∉ S) : St g T r s W' := by
  obtain ⟨cs, h1, h2⟩ := h
  exact ⟨cs, h'.block h1 hg, h2⟩
theorem St.onB {W' : World} (h : St g T r s W) (h' : Below W.heap.size W W') : St g T r s W' := h.on (Fr.ofBelow [] h') (by simp)
theorem St.alloc (h : St g T r s W) (o : Obj) : St g T r s (W.alloc o) := by
  obtain ⟨cs, h1, h2⟩ := h
  exact ⟨cs, blk_alloc h1 _, h2⟩
theorem St.far (h : St g T r s W) (p : Addr) (hp : g ≠ p.block) (v : Value) : St g T r s (W.setCell p v) := by
  obtain ⟨cs, h1, h2⟩ := h
  exact ⟨cs, (Below.heap_setCell W p v g hp).trans h1, h2⟩
end
/-- Octets in a row of cells. -/
def Bts (b o n : Nat) (x : Nat → Int) (W : World) : Prop := ∀ i, i < n → W.cell? ⟨b, o + i, none⟩ = some (.int .u8 (x i))
theorem Bts.on {S : List Nat} {b o n : Nat} {x : Nat → Int} {W W' : World} (h : Bts b o n x W) (h' : Fr S W W') (hb : b ∉ S) : Bts b o n x W' := fun i hi => h'.cell (h i hi) hb
theorem Bts.onB {b o n : Nat} {x : Nat → Int} {W W' : World} (h : Bts b o n x W) (h' : Below W.heap.size W W') : Bts b o n x W' := h.on (Fr.ofBelow [] h') (by simp)
theorem Bts.from {b o n : Nat} {x : Nat → Int} {W : World} (h : Bts b o n x W) (k m : Nat) (hk : k + m ≤ n) : Bts b (o + k) m (fun i => x (k + i)) W := fun i hi => by
  have := h (k + i) (by omega)
  rwa [← Nat.add_assoc] at this
end Go.Proofs.Ytjmgiodkfgdgnaa.PAll
namespace Go.Proofs.Ytjmgiodkfgdgnaa.PAll
open Go.RowKit Go.Proofs.YtjmgiodkfgdgnaaW.PrintWords Go.Proofs.YtjmgiodkfgdgnaaW.PrintLast Go.Proofs.YtjmgiodkfgdgnaaW.PrintMore
set_option linter.unusedVariables false
set_option linter.unusedSimpArgs false
/-- A value as the walk knows it: plain, or a pointer to cell i of the known block k. -/
inductive SV where
  | v (x : Value)
  | p (k i : Nat)
  | s (k i n c : Nat)
def SV.den (β : Nat → Nat) : SV → Value
  | .v x => x
  | .p k i => .pointer (some ⟨β k, i, none⟩)
  | .s k i n c => .slice (some ⟨β k, i, none⟩) n c
def look : List (Nat × SV) → Nat → Option SV
  | [], _ => none
  | (k, x) :: E, t => match Nat.beq k t with
    | true => some x
    | false => look E t
/-- The frame has N slots, of which E tells some. -/
def Has (N : Nat) (β : Nat → Nat) (E : List (Nat × SV)) (a : Act) : Prop := a.tmps.size = N ∧ ∀ t x, look E t = some x → a.eval (.tmp t) = x.den β
theorem Has.put {N : Nat} {β : Nat → Nat} {E : List (Nat × SV)} {a : Act} (h : Has N β E a) (d : Nat) (hd : d < N) (x : SV) : Has N β ((d, x) :: E) (a.put (some d) (x.den β)) := by
  refine ⟨by simp [Act.put, h.1], fun t y hy => ?_⟩
  unfold look at hy
  split at hy
  · next e =>
    obtain rfl := Nat.eq_of_beq_eq_true e
    obtain rfl := Option.some.inj hy
    simp [Act.eval, Act.put, h.1, hd]
  · next e =>
    have hne : d ≠ t := Nat.ne_of_beq_eq_false e
    have := h.2 t y hy
    simp only [Act.eval, Act.put] at this ⊢
    rw [← this]
    simp [Array.getD_eq_getD_getElem?, Array.getElem?_setIfInBounds_ne hne]
def evO (E : List (Nat × SV)) : Operand → Option SV
  | .tmp t => look E t
  | .const v => some (.v v)
  | .func f => some (.v (.func (.func f) #[] #[]))
  | .global g => some (.v (.pointer (some ⟨g, 0, none⟩)))
theorem evO_ok {N : Nat} {β : Nat → Nat} {E : List (Nat × SV)} {a : Act} (h : Has N β E a) {x : Operand} {s : SV} (hs : evO E x = some s) : a.eval x = s.den β := by
  cases x with
  | tmp t => exact h.2 t s hs
  | const v => obtain rfl := Option.some.inj hs; rfl
  | func f => obtain rfl := Option.some.inj hs; rfl
  | global g => obtain rfl := Option.some.inj hs; rfl
/-- Types as the walk knows them. -/
inductive Ty where
  | int (k : IntKind)
  | bool
  | arr (n : Nat)
  | st (offs : List Nat)
  | unit
  | sl
def TyOk (P : Program) (t : TypeId) : Ty → Prop
  | .int k => P.underlying t = some (.int k) ∧ (∀ w, (isAgg t).run P w = .ok false w) ∧ ∀ w, (Go.sizeOf t).run P w = .ok 1 w
  | .bool => P.underlying t = some .bool ∧ (∀ w, (isAgg t).run P w = .ok false w) ∧ ∀ w, (Go.sizeOf t).run P w = .ok 1 w
  | .arr n => ∃ e, P.underlying t = some (.array n e) ∧ (∀ w, (Go.sizeOf e).run P w = .ok 1 w) ∧ (∀ w, (isAgg t).run P w = .ok true w) ∧ (∀ w, (Go.sizeOf t).run P w = .ok n w) ∧ (∀ w, (isAgg e).run P w = .ok false w)
  | .st offs => ∃ fs : Array Field, P.underlying t = some (.struct fs) ∧ ∀ (f o : Nat), offs[f]? = some o → ∃ fd : Field, fs[f]? = some fd ∧ fd.offset = o ∧ ∃ n : Nat, ∀ w, (Go.sizeOf fd.type).run P w = .ok (n + 1) w
  | .unit => (∀ w, (isAgg t).run P w = .ok true w) ∧ ∀ w, (Go.sizeOf t).run P w = .ok 0 w
  | .sl => ∃ e, P.underlying t = some (.slice e) ∧ ∀ w, (Go.sizeOf e).run P w = .ok 1 w
section
variable {P : Program} {ρ : Operand → Value} {o : Oper} {W : World}
theorem op_move {x : Operand} {v : Value} (ho : o.op = .move x) (hx : ρ x = v) : (execOp ρ o).run P W = .ok (.value v) W := by
  unfold execOp
  rw [ho, ← hx]
  rfl
theorem op_assign {x : Operand} {v : Value} (ho : o.op = .assign x) (hx : ρ x = v) : (execOp ρ o).run P W = .ok (.value v) W := by
  unfold execOp
  rw [ho, ← hx]
  rfl
theorem op_nilCheck {x : Operand} {A : Addr} (ho : o.op = .nilCheck x) (hx : ρ x = .pointer (some A)) : (execOp ρ o).run P W = .ok (.value (.pointer (some A))) W := by
  unfold execOp
  rw [ho]
  simp only [hx]
  rfl
theorem op_load {t : TypeId} {x : Operand} {A : Addr} {v : Value} (ho : o.op = .load t x) (hx : ρ x = .pointer (some A)) (hagg : ∀ w, (isAgg t).run P w = .ok false w) (hc : W.cell? A = some v) : (execOp ρ o).run P W = .ok (.value v) W := by
  unfold execOp
  rw [ho]
  simp [go_sem, hx, hagg, hc]
theorem und {t : TypeId} {d : TypeDesc} (h : P.underlying t = some d) (w : World) : (underlying t).run P w = .ok d w := by
  simp [go_sem, underlying, h]
theorem op_index {t e : TypeId} {n j : Nat} {x ix : Operand} {b i : Nat} (ho : o.op = .indexAddr t x ix) (hx : ρ x = .pointer (some ⟨b, i, none⟩)) (hi : ρ ix = .int .i64 (j : Int)) (ht : P.underlying t = some (.array n e)) (hs : ∀ w, (Go.sizeOf e).run P w = .ok 1 w) (hj : j < n) :
    (execOp ρ o).run P W = .ok (.value (.pointer (some ⟨b, i + j, none⟩))) W := by
  unfold execOp
  rw [ho]
  simp [go_sem, Instr.indexAt, hx, hi, und ht, hs, hj, Addr.add]
theorem op_field {t : TypeId} {fs : Array Field} {fd : Field} {x : Operand} {f b i n : Nat} (ho : o.op = .fieldAddr t x f) (hx : ρ x = .pointer (some ⟨b, i, none⟩)) (ht : P.underlying t = some (.struct fs)) (hf : fs[f]? = some fd) (hs : ∀ w, (Go.sizeOf fd.type).run P w = .ok (n + 1) w) :
    (execOp ρ o).run P W = .ok (.value (.pointer (some ⟨b, i + fd.offset, none⟩))) W := by
  unfold execOp
  rw [ho]
  simp [go_sem, Instr.fieldAt, fieldPlace, hx, und ht, hf, hs, Addr.add]
theorem op_bin {op : BinOp} {t t2 : TypeId} {x y : Operand} {k k' : IntKind} {p q : Int} {v : Value} (ho : o.op = .binOp op t x y t2) (hx : ρ x = .int k p) (hy : ρ y = .int k' q) (hb : ∀ w, (binOp op t (.int k p) (.int k' q)).run P w = .ok v w) :
    (execOp ρ o).run P W = .ok (.value v) W := by
  unfold execOp
  rw [ho]
  simp [go_sem, eqGuard, hx, hy, hb]
theorem op_conv {s d : TypeId} {k k' : IntKind} {x : Operand} {n : Int} (ho : o.op = .convert s d x) (hx : ρ x = .int k n) (hs : P.underlying s = some (.int k)) (hd : P.underlying d = some (.int k')) : (execOp ρ o).run P W = .ok (.value (.int k' (k'.wrap n))) W := by
  unfold execOp
  rw [ho]
  simp [go_sem, convert, hx, und hs, und hd, Conv.intToInt]
theorem op_indexE {t e : TypeId} {x ix : Operand} {b i n c j : Nat} (ho : o.op = .indexAddr t x ix) (hx : ρ x = .slice (some ⟨b, i, none⟩) n c) (hi : ρ ix = .int .i64 (j : Int)) (ht : P.underlying t = some (.slice e)) (hs : ∀ w, (Go.sizeOf e).run P w = .ok 1 w) (hj : j < n) :
    (execOp ρ o).run P W = .ok (.value (.pointer (some ⟨b, i + j, none⟩))) W := by
  unfold execOp
  rw [ho]
  simp [go_sem, Instr.indexAt, hx, hi, und ht, hs, hj, Addr.add]
theorem op_negI {t : TypeId} {x : Operand} {k : IntKind} {n : Int} (ho : o.op = .unOp .neg t x) (hx : ρ x = .int k n) : (execOp ρ o).run P W = .ok (.value (.int k (k.wrap (0 - n)))) W := by
  unfold execOp
  rw [ho]
  simp [go_sem, Op.unary, hx, Op.intArith]
theorem op_notB {t : TypeId} {x : Operand} {b : Bool} (ho : o.op = .unOp .not t x) (hx : ρ x = .bool b) : (execOp ρ o).run P W = .ok (.value (.bool !b)) W := by
  unfold execOp
  rw [ho]
  simp [go_sem, Op.unary, hx]
theorem op_extract {x : Operand} {vs : Array Value} {i : Nat} {v : Value} (ho : o.op = .extract x i) (hx : ρ x = .tuple vs) (hv : vs[i]? = some v) : (execOp ρ o).run P W = .ok (.value v) W := by
  unfold execOp
  rw [ho]
  simp [go_sem, Instr.extract, hx, hv]
theorem op_unit {t : TypeId} {x : Operand} {A : Addr} (ho : o.op = .load t x) (hx : ρ x = .pointer (some A)) (h1 : ∀ w, (isAgg t).run P w = .ok true w) (h2 : ∀ w, (Go.sizeOf t).run P w = .ok 0 w) : (execOp ρ o).run P W = .ok (.value (.agg #[])) W := by
  unfold execOp
  rw [ho]
  simp [go_sem, hx, h1, h2]
theorem op_len {x : Operand} {t e : TypeId} {p : Option Addr} {n c : Nat} (ho : o.op = .call { callee := .builtin .len, args := #[x], argTypes := #[t] }) (ht : P.underlying t = some (.slice e)) (hx : ρ x = .slice p n c) : (execOp ρ o).run P W = .ok (.value (.int .i64 (n : Int))) W := by
  unfold execOp
  rw [ho]
  simp [go_sem, resolve, invoke, builtin, Builtin.len_, hx, und ht, goInt]
theorem op_slice {t : TypeId} {x : Operand} {lo hi : Option Operand} {v : Value} (ho : o.op = .slice t x lo hi none) (h : (Instr.sliceAt t (ρ x) (lo.map ρ) (hi.map ρ) none).run P W = .ok v W) : (execOp ρ o).run P W = .ok (.value v) W := by
  unfold execOp
  rw [ho]
  simp [go_sem]
  show Result.andThen ((Instr.sliceAt t (ρ x) (lo.map ρ) (hi.map ρ) none).run P W) _ = _
  rw [h]
  rfl
theorem op_arr {t : TypeId} {x : Operand} {b i n : Nat} {f : Nat → Value} (ho : o.op = .load t x) (hx : ρ x = .pointer (some ⟨b, i, none⟩)) (h1 : ∀ w, (isAgg t).run P w = .ok true w) (h2 : ∀ w, (Go.sizeOf t).run P w = .ok n w) (hc : ∀ j, j < n → W.cell? ⟨b, i + j, none⟩ = some (f j)) :
    (execOp ρ o).run P W = .ok (.value (.agg ((List.range n).map f).toArray)) W := by
  have hl := run_loadCells (P := P) (w := W) ⟨b, i, none⟩ n f (fun j hj => by
    have e : (Addr.add ⟨b, i, none⟩ j) = ⟨b, i + j, none⟩ := by
      by_cases h0 : j = 0
      · simp [h0, Addr.add]
      · simp [h0, Addr.add]
    rw [e]
    exact hc j hj)
  unfold loadCells at hl
  unfold execOp
  rw [ho]
  simp [go_sem, hx, h1, h2, hl]
theorem op_sliceArr {t e : TypeId} {x : Operand} {b i n l h : Nat} {lo hi : Option Operand} (ho : o.op = .slice t x lo hi none) (hx : ρ x = .pointer (some ⟨b, i, none⟩)) (ht : P.underlying t = some (.array n e)) (hs : ∀ w, (Go.sizeOf e).run P w = .ok 1 w)
    (hlo : (lo = none ∧ l = 0) ∨ ∃ y, lo = some y ∧ ρ y = .int .i64 (l : Int)) (hhi : (hi = none ∧ h = n) ∨ ∃ y, hi = some y ∧ ρ y = .int .i64 (h : Int)) (hlh : l ≤ h) (hhn : h ≤ n) (hln : l < n) :
    (execOp ρ o).run P W = .ok (.value (.slice (some ⟨b, i + l, none⟩) (h - l) (n - l))) W := by
  have hne : ¬ n = l := by omega
  unfold execOp
  rw [ho]
  rcases hlo with ⟨rfl, rfl⟩ | ⟨y, rfl, hy⟩
  · rcases hhi with ⟨rfl, rfl⟩ | ⟨z, rfl, hz⟩
    · simp [go_sem, Instr.sliceAt, Instr.sliceBounds, hx, und ht, hs, Addr.add, hne]
    · simp [go_sem, Instr.sliceAt, Instr.sliceBounds, Instr.sliceBound, hx, hz, und ht, hs, Addr.add, hne, hhn]
  · rcases hhi with ⟨rfl, rfl⟩ | ⟨z, rfl, hz⟩
    · by_cases h0 : l = 0
      · subst h0
        simp [go_sem, Instr.sliceAt, Instr.sliceBounds, Instr.sliceBound, hx, hy, und ht, hs, Addr.add, hne]
      · simp [go_sem, Instr.sliceAt, Instr.sliceBounds, Instr.sliceBound, hx, hy, und ht, hs, Addr.add, hne, hlh, h0]
    · by_cases h0 : l = 0
      · subst h0
        simp [go_sem, Instr.sliceAt, Instr.sliceBounds, Instr.sliceBound, hx, hy, hz, und ht, hs, Addr.add, hne, hhn]
      · simp [go_sem, Instr.sliceAt, Instr.sliceBounds, Instr.sliceBound, hx, hy, hz, und ht, hs, Addr.add, hne, hlh, hhn, h0]
theorem op_sliceSl {t e : TypeId} {x : Operand} {b i n c l h : Nat} {lo hi : Option Operand} (ho : o.op = .slice t x lo hi none) (hx : ρ x = .slice (some ⟨b, i, none⟩) n c) (ht : P.underlying t = some (.slice e)) (hs : ∀ w, (Go.sizeOf e).run P w = .ok 1 w)
    (hlo : (lo = none ∧ l = 0) ∨ ∃ y, lo = some y ∧ ρ y = .int .i64 (l : Int)) (hhi : (hi = none ∧ h = n) ∨ ∃ y, hi = some y ∧ ρ y = .int .i64 (h : Int)) (hlh : l ≤ h) (hhn : h ≤ c) (hln : l < c) :
    (execOp ρ o).run P W = .ok (.value (.slice (some ⟨b, i + l, none⟩) (h - l) (c - l))) W := by
  have hne : ¬ c = l := by omega
  unfold execOp
  rw [ho]
  rcases hlo with ⟨rfl, rfl⟩ | ⟨y, rfl, hy⟩
  · rcases hhi with ⟨rfl, rfl⟩ | ⟨z, rfl, hz⟩
    · simp [go_sem, Instr.sliceAt, Instr.slice, Instr.sliceBounds, hx, und ht, hs, Addr.add, hne]
    · simp [go_sem, Instr.sliceAt, Instr.slice, Instr.sliceBounds, Instr.sliceBound, hx, hz, und ht, hs, Addr.add, hne, hhn]
  · rcases hhi with ⟨rfl, rfl⟩ | ⟨z, rfl, hz⟩
    · by_cases h0 : l = 0
      · subst h0
        simp [go_sem, Instr.sliceAt, Instr.slice, Instr.sliceBounds, Instr.sliceBound, hx, hy, und ht, hs, Addr.add, hne]
      · simp [go_sem, Instr.sliceAt, Instr.slice, Instr.sliceBounds, Instr.sliceBound, hx, hy, und ht, hs, Addr.add, hne, hlh, h0]
    · by_cases h0 : l = 0
      · subst h0
        simp [go_sem, Instr.sliceAt, Instr.slice, Instr.sliceBounds, Instr.sliceBound, hx, hy, hz, und ht, hs, Addr.add, hne, hhn]
      · simp [go_sem, Instr.sliceAt, Instr.slice, Instr.sliceBounds, Instr.sliceBound, hx, hy, hz, und ht, hs, Addr.add, hne, hlh, hhn, h0]
theorem op_indexAgg {t e : TypeId} {x ix : Operand} {n j : Nat} {cs : Array Value} {v : Value} (ho : o.op = .index t x ix) (hx : ρ x = .agg cs) (hi : ρ ix = .int .i64 (j : Int)) (ht : P.underlying t = some (.array n e)) (hs : ∀ w, (Go.sizeOf e).run P w = .ok 1 w) (ha : ∀ w, (isAgg e).run P w = .ok false w) (hj : j < n) (hv : cs[j]? = some v) :
    (execOp ρ o).run P W = .ok (.value v) W := by
  unfold execOp
  rw [ho]
  simp [go_sem, Instr.index, hx, hi, und ht, hs, ha, hj, hv, part]
theorem op_store {t : TypeId} {x y : Operand} {A : Addr} {v v0 : Value} (ho : o.op = .store t x y) (hx : ρ x = .pointer (some A)) (hy : ρ y = v) (hv : (∃ k n, v = .int k n) ∨ ∃ b, v = .bool b) (hs : ∀ w, (Go.sizeOf t).run P w = .ok 1 w) (hc : W.cell? A = some v0) (hf : W.frozen? A = false) :
    (execOp ρ o).run P W = .ok .skip (W.setCell A v) := by
  unfold execOp
  rw [ho]
  rcases hv with ⟨k, n, rfl⟩ | ⟨b, rfl⟩
  · simp [go_sem, hx, hy, hs, hc, hf]
  · simp [go_sem, hx, hy, hs, hc, hf]
end
def binV (op : BinOp) (k : IntKind) (p : Int) (k' : IntKind) (q : Int) : Option Value :=
  match op with
  | .add => if k = k' then some (.int k (k.wrap (p + q))) else none
  | .sub => if k = k' then some (.int k (k.wrap (p - q))) else none
  | .mul => if k = k' then some (.int k (k.wrap (p * q))) else none
  | .and => if k = k' then some (.int k (Go.bits .and k p q)) else none
  | .or => if k = k' then some (.int k (Go.bits .or k p q)) else none
  | .xor => if k = k' then some (.int k (Go.bits .xor k p q)) else none
  | .shl => match q with
    | .ofNat n => some (.int k (k.wrap (p * ((2 ^ (min n k.bits) : Nat) : Int))))
    | _ => none
  | .shr => match q with
    | .ofNat n => some (.int k (p / ((2 ^ (min n k.bits) : Nat) : Int)))
    | _ => none
  | .lss => if k = k' then some (.bool (decide (p < q))) else none
  | .geq => if k = k' then some (.bool (decide (p ≥ q))) else none
  | .gtr => if k = k' then some (.bool (decide (p > q))) else none
  | .eql => if k = k' then some (.bool (p == q)) else none
  | .neq => if k = k' then some (.bool (p != q)) else none
  | .leq => if k = k' then some (.bool (decide (p ≤ q))) else none
  | .quo => match q with
    | .ofNat (n + 1) => if k = k' then some (.int k (k.wrap (p.tdiv ((n + 1 : Nat) : Int)))) else none
    | _ => none
  | .rem => match q with
    | .ofNat (n + 1) => if k = k' then some (.int k (p.tmod ((n + 1 : Nat) : Int))) else none
    | _ => none
  | _ => none
theorem shr_nat (k yk : IntKind) (p : Int) (n : Nat) : Op.shift .shr k p yk (n : Int) = pure (.int k (p / ((2 ^ (min n k.bits) : Nat) : Int))) := by
  have hm : ¬ ((n : Int) < 0) := by omega
  have hp : (0 : Int) ≤ ((2 ^ (min n k.bits) : Nat) : Int) := Int.natCast_nonneg _
  unfold Op.shift
  rw [if_neg hm, ← Int.fdiv_eq_ediv_of_nonneg _ hp]
  simp only [Int.toNat_natCast, Int.natCast_pow]
  rfl
theorem shl_nat (k yk : IntKind) (p : Int) (n : Nat) : Op.shift .shl k p yk (n : Int) = pure (.int k (k.wrap (p * ((2 ^ (min n k.bits) : Nat) : Int)))) := by
  have hm : ¬ ((n : Int) < 0) := by omega
  unfold Op.shift
  rw [if_neg hm]
  simp only [Int.toNat_natCast, Int.natCast_pow]
  rfl
theorem binV_ok {P : Program} {op : BinOp} {t : TypeId} {k k' : IntKind} {p q : Int} {v : Value} (h : binV op k p k' q = some v) (w : World) : (binOp op t (.int k p) (.int k' q)).run P w = .ok v w := by
  cases op <;> simp only [binV] at h
  case shl =>
    cases q with
    | ofNat n =>
      obtain rfl := Option.some.inj h
      show (Op.shift .shl k p k' (n : Int)).run P w = _
      rw [shl_nat]
      rfl
    | negSucc n => cases h
  case shr =>
    cases q with
    | ofNat n =>
      obtain rfl := Option.some.inj h
      show (Op.shift .shr k p k' (n : Int)).run P w = _
      rw [shr_nat]
      rfl
    | negSucc n => cases h
  case quo =>
    cases q with
    | ofNat n =>
      cases n with
      | zero => cases h
      | succ n =>
        simp only at h
        split at h
        · next e =>
          subst e
          obtain rfl := Option.some.inj h
          have hne : ¬ ((n : Int) + 1 = 0) := by omega
          simp [go_sem, binOp, Op.intDiv, hne]
        · cases h
    | negSucc n => cases h
  case rem =>
    cases q with
    | ofNat n =>
      cases n with
      | zero => cases h
      | succ n =>
        simp only at h
        split at h
        · next e =>
          subst e
          obtain rfl := Option.some.inj h
          have hne : ¬ ((n : Int) + 1 = 0) := by omega
          simp [go_sem, binOp, Op.intDiv, hne]
        · cases h
    | negSucc n => cases h
  all_goals first
    | (cases h; done)
    | (split at h
       · next e =>
         subst e
         obtain rfl := Option.some.inj h
         simp [go_sem, binOp, Op.intArith, Op.intBits, Op.intCmp, Go.bits]
       · cases h)
/-- What cells of known blocks hold. -/
def MemOk (β : Nat → Nat) (M : Nat → Nat → Option Value) (W : World) : Prop := ∀ k i v, M k i = some v → W.cell? ⟨β k, i, none⟩ = some v
def TabOk (P : Program) (T : TypeId → Option Ty) : Prop := ∀ t y, T t = some y → TyOk P t y
/-- n cells in a row. -/
def ldL (M : Nat → Option Value) : Nat → Nat → Option (List Value)
  | _, 0 => some []
  | i, n + 1 => match M i, ldL M (i + 1) n with
    | some v, some l => some (v :: l)
    | _, _ => none
theorem ldL_ok {M : Nat → Option Value} : ∀ {n i : Nat} {l : List Value}, ldL M i n = some l → ∃ f : Nat → Value, l = (List.range n).map f ∧ ∀ j, j < n → M (i + j) = some (f j)
  | 0, i, l, h => by
    obtain rfl := Option.some.inj h
    exact ⟨fun _ => undef, rfl, fun j hj => absurd hj (by omega)⟩
  | n + 1, i, l, h => by
    unfold ldL at h
    split at h
    · next v l' h1 h2 =>
      obtain rfl := Option.some.inj h
      obtain ⟨f, rfl, hf⟩ := ldL_ok h2
      refine ⟨fun j => match j with | 0 => v | k + 1 => f k, ?_, fun j hj => ?_⟩
      · rw [List.range_succ_eq_map, List.map_cons, List.map_map]
        rfl
      · cases j with
        | zero => exact h1
        | succ k =>
          have := hf k (by omega)
          rw [show i + 1 + k = i + (k + 1) by omega] at this
          exact this
    · cases h
/-- A bound of a slice expression. -/
def boundV (E : List (Nat × SV)) (d : Nat) : Option Operand → Option Nat
  | none => some d
  | some y => match evO E y with
    | some (.v (.int .i64 (.ofNat l))) => some l
    | _ => none
theorem boundV_ok {N : Nat} {β : Nat → Nat} {E : List (Nat × SV)} {a : Act} (h : Has N β E a) {d l : Nat} {y : Option Operand} (hb : boundV E d y = some l) : (y = none ∧ l = d) ∨ ∃ z, y = some z ∧ a.eval z = .int .i64 (l : Int) := by
  cases y with
  | none =>
    obtain rfl := Option.some.inj hb
    exact Or.inl ⟨rfl, rfl⟩
  | some z =>
    unfold boundV at hb
    simp only at hb
    split at hb
    · next l' hz =>
      obtain rfl := Option.some.inj hb
      exact Or.inr ⟨z, rfl, evO_ok h hz⟩
    · cases hb
/-- What a pure operation yields. -/
def ev (T : TypeId → Option Ty) (M : Nat → Nat → Option Value) (E : List (Nat × SV)) (o : Oper) : Option SV :=
  match o.op with
  | .move x => evO E x
  | .assign x => evO E x
  | .nilCheck x => match evO E x with
    | some (.p k i) => some (.p k i)
    | _ => none
  | .load t x => match T t, evO E x with
    | some (.int _), some (.p k i) => (M k i).map .v
    | some .bool, some (.p k i) => (M k i).map .v
    | some .unit, some (.v (.pointer (some A))) => some (.v (.agg #[]))
    | some (.arr n), some (.p k i) => (ldL (M k) i n).map fun l => .v (.agg l.toArray)
    | _, _ => none
  | .slice t x lo hi none => match T t, evO E x with
    | some (.arr n), some (.p k i) => match boundV E 0 lo, boundV E n hi with
      | some l, some h => match Nat.ble l h, Nat.ble h n, Nat.blt l n with
        | true, true, true => some (.s k (i + l) (h - l) (n - l))
        | _, _, _ => none
      | _, _ => none
    | some .sl, some (.s k i n c) => match boundV E 0 lo, boundV E n hi with
      | some l, some h => match Nat.ble l h, Nat.ble h c, Nat.blt l c with
        | true, true, true => some (.s k (i + l) (h - l) (c - l))
        | _, _, _ => none
      | _, _ => none
    | _, _ => none
  | .index t x ix => match T t, evO E x, evO E ix with
    | some (.arr n), some (.v (.agg cs)), some (.v (.int .i64 (.ofNat j))) => match Nat.blt j n with
      | true => (cs[j]?).map .v
      | false => none
    | _, _, _ => none
  | .call c => match c.callee, c.args, c.argTypes with
    | .builtin .len, ⟨[x]⟩, ⟨[t]⟩ => match T t, evO E x with
      | some .sl, some (.v (.slice _ n _)) => some (.v (.int .i64 (n : Int)))
      | some .sl, some (.s _ _ n _) => some (.v (.int .i64 (n : Int)))
      | _, _ => none
    | _, _, _ => none
  | .indexAddr t x ix => match T t, evO E x, evO E ix with
    | some (.arr n), some (.p k i), some (.v (.int .i64 (.ofNat j))) => match Nat.blt j n with
      | true => some (.p k (i + j))
      | false => none
    | some .sl, some (.s k i n c), some (.v (.int .i64 (.ofNat j))) => match Nat.blt j n with
      | true => some (.p k (i + j))
      | false => none
    | _, _, _ => none
  | .fieldAddr t x f => match T t, evO E x with
    | some (.st offs), some (.p k i) => match offs[f]? with
      | some d => some (.p k (i + d))
      | none => none
    | _, _ => none
  | .binOp op t x y _ => match evO E x, evO E y with
    | some (.v (.int k p)), some (.v (.int k' q)) => (binV op k p k' q).map .v
    | _, _ => none
  | .convert s d x => match T s, T d, evO E x with
    | some (.int ks), some (.int kd), some (.v (.int k n)) => if k = ks then some (.v (.int kd (kd.wrap n))) else none
    | _, _, _ => none
  | .unOp .neg _ x => match evO E x with
    | some (.v (.int k n)) => some (.v (.int k (k.wrap (0 - n))))
    | _ => none
  | .unOp .not _ x => match evO E x with
    | some (.v (.bool b)) => some (.v (.bool !b))
    | _ => none
  | .extract x i => match evO E x with
    | some (.v (.tuple vs)) => (vs[i]?).map .v
    | _ => none
  | _ => none
theorem ev_ok {P : Program} {T : TypeId → Option Ty} {N : Nat} {β : Nat → Nat} {M : Nat → Nat → Option Value} {E : List (Nat × SV)} {a : Act} {W : World} {o : Oper} {s : SV} (hT : TabOk P T) (hA : Has N β E a) (hM : MemOk β M W) (h : ev T M E o = some s) :
    (execOp a.eval o).run P W = .ok (.value (s.den β)) W := by
  unfold ev at h
  split at h
  · next x ho => exact op_move ho (evO_ok hA h)
  · next x ho => exact op_assign ho (evO_ok hA h)
  · next x ho =>
    split at h
    · next k i hx =>
      obtain rfl := Option.some.inj h
      exact op_nilCheck ho (evO_ok hA hx)
    · cases h
  · next t x ho =>
    split at h
    · next k0 k i ht hx =>
      obtain ⟨v, hv, rfl⟩ := Option.map_eq_some_iff.1 h
      exact op_load ho (evO_ok hA hx) (hT _ _ ht).2.1 (hM _ _ _ hv)
    · next k i ht hx =>
      obtain ⟨v, hv, rfl⟩ := Option.map_eq_some_iff.1 h
      exact op_load ho (evO_ok hA hx) (hT _ _ ht).2.1 (hM _ _ _ hv)
    · next A ht hx =>
      obtain rfl := Option.some.inj h
      exact op_unit ho (evO_ok hA hx) (hT _ _ ht).1 (hT _ _ ht).2
    · next n k i ht hx =>
      obtain ⟨l, hl, rfl⟩ := Option.map_eq_some_iff.1 h
      obtain ⟨f, rfl, hf⟩ := ldL_ok hl
      obtain ⟨e, h1, h2, h3, h4, h5⟩ := hT _ _ ht
      exact op_arr ho (evO_ok hA hx) h3 h4 (fun j hj => hM _ _ _ (hf j hj))
    · cases h
  · next t x lo hi ho =>
    split at h
    · next n k i ht hx =>
      split at h
      · next l hh h1 h2 =>
        split at h
        · next h3 h4 h5 =>
          obtain rfl := Option.some.inj h
          obtain ⟨e, h6, h7, _⟩ := hT _ _ ht
          exact op_sliceArr ho (evO_ok hA hx) h6 h7 (boundV_ok hA h1) (boundV_ok hA h2) (Nat.ble_eq.mp h3) (Nat.ble_eq.mp h4) (Eq.mp Nat.blt_eq h5)
        · cases h
      · cases h
    · next k i n c ht hx =>
      split at h
      · next l hh h1 h2 =>
        split at h
        · next h3 h4 h5 =>
          obtain rfl := Option.some.inj h
          obtain ⟨e, h6, h7⟩ := hT _ _ ht
          exact op_sliceSl ho (evO_ok hA hx) h6 h7 (boundV_ok hA h1) (boundV_ok hA h2) (Nat.ble_eq.mp h3) (Nat.ble_eq.mp h4) (Eq.mp Nat.blt_eq h5)
        · cases h
      · cases h
    · cases h
  · next t x ix ho =>
    split at h
    · next n cs j ht hx hi =>
      split at h
      · next hj =>
        obtain ⟨v, hv, rfl⟩ := Option.map_eq_some_iff.1 h
        obtain ⟨e, h6, h7, _, _, h8⟩ := hT _ _ ht
        exact op_indexAgg ho (evO_ok hA hx) (evO_ok hA hi) h6 h7 h8 (Eq.mp Nat.blt_eq hj) hv
      · cases h
    · cases h
  · next c ho =>
    split at h
    · next x t hcal hargs hats =>
      split at h
      · next p n cc ht hx =>
        obtain rfl := Option.some.inj h
        obtain ⟨callee, args, ats⟩ := c
        obtain rfl : callee = _ := hcal
        obtain rfl : args = _ := hargs
        obtain rfl : ats = _ := hats
        obtain ⟨e, h1, _⟩ := hT _ _ ht
        exact op_len ho h1 (evO_ok hA hx)
      · next k i n cc ht hx =>
        obtain rfl := Option.some.inj h
        obtain ⟨callee, args, ats⟩ := c
        obtain rfl : callee = _ := hcal
        obtain rfl : args = _ := hargs
        obtain rfl : ats = _ := hats
        obtain ⟨e, h1, _⟩ := hT _ _ ht
        exact op_len ho h1 (evO_ok hA hx)
      · cases h
    · cases h
  · next t x ix ho =>
    split at h
    · next n k i j ht hx hi =>
      split at h
      · next hj =>
        obtain rfl := Option.some.inj h
        obtain ⟨e, h1, h2, _⟩ := hT _ _ ht
        exact op_index ho (evO_ok hA hx) (evO_ok hA hi) h1 h2 (Eq.mp Nat.blt_eq hj)
      · cases h
    · next k i n cc j ht hx hi =>
      split at h
      · next hj =>
        obtain rfl := Option.some.inj h
        obtain ⟨e, h1, h2⟩ := hT _ _ ht
        exact op_indexE ho (evO_ok hA hx) (evO_ok hA hi) h1 h2 (Eq.mp Nat.blt_eq hj)
      · cases h
    · cases h
  · next t x f ho =>
    split at h
    · next offs k i ht hx =>
      split at h
      · next d hd =>
        obtain rfl := Option.some.inj h
        obtain ⟨fs, h1, h2⟩ := hT _ _ ht
        obtain ⟨fd, h3, rfl, n, h4⟩ := h2 _ _ hd
        exact op_field ho (evO_ok hA hx) h1 h3 h4
      · cases h
    · cases h
  · next op t x y t2 ho =>
    split at h
    · next k p k' q hx hy =>
      obtain ⟨v, hv, rfl⟩ := Option.map_eq_some_iff.1 h
      exact op_bin ho (evO_ok hA hx) (evO_ok hA hy) (fun w => binV_ok hv w)
    · cases h
  · next s0 d x ho =>
    split at h
    · next ks kd k n hs hd hx =>
      split at h
      · next e =>
        subst e
        obtain rfl := Option.some.inj h
        exact op_conv ho (evO_ok hA hx) (hT _ _ hs).1 (hT _ _ hd).1
      · cases h
    · cases h
  · next t x ho =>
    split at h
    · next k n hx =>
      obtain rfl := Option.some.inj h
      exact op_negI ho (evO_ok hA hx)
    · cases h
  · next t x ho =>
    split at h
    · next b hx =>
      obtain rfl := Option.some.inj h
      exact op_notB ho (evO_ok hA hx)
    · cases h
  · next x i ho =>
    split at h
    · next vs hx =>
      obtain ⟨v, hv, rfl⟩ := Option.map_eq_some_iff.1 h
      exact op_extract ho (evO_ok hA hx) hv
    · cases h
  · cases h
/-- Pure operations, one behind the other, in the order l. -/
def evs (N : Nat) (T : TypeId → Option Ty) (M : Nat → Nat → Option Value) (ops : Array Oper) : List Nat → List (Nat × SV) → Option (List (Nat × SV))
  | [], E => some E
  | i :: l, E => match ops[i]? with
    | some o => match o.dst, o.guard with
      | some d, none => match Nat.blt d N with
        | true => match ev T M E o with
          | some s => evs N T M ops l ((d, s) :: E)
          | none => none
        | false => none
      | _, _ => none
    | none => none
def schedB (ops : Array Oper) (ds : List Nat) : List Nat → Array Bool → Bool
  | [], _ => true
  | i :: l, L => match takeB .any ops ds L (L.setIfInBounds i true) i with
    | true => schedB ops ds l (L.setIfInBounds i true)
    | false => false
def marks : List Nat → Array Bool → Array Bool
  | [], L => L
  | i :: l, L => marks l (L.setIfInBounds i true)
/-- The slots that are told on. -/
def Sub (r : Option (List (Nat × SV))) : List (Nat × SV) → Prop
  | [] => True
  | (t, x) :: E => r.bind (look · t) = some x ∧ Sub r E
theorem sub_ok {N : Nat} {β : Nat → Nat} {E' : List (Nat × SV)} {a : Act} (h : Has N β E' a) : ∀ {E : List (Nat × SV)}, Sub (some E') E → Has N β E a
  | [], _ => ⟨h.1, fun t x hx => by cases hx⟩
  | (k, y) :: E, hs => by
    have ih := sub_ok h (E := E) hs.2
    refine ⟨h.1, fun t x hx => ?_⟩
    unfold look at hx
    split at hx
    · next e =>
      obtain rfl := Nat.eq_of_beq_eq_true e
      obtain rfl := Option.some.inj hx
      exact h.2 k y hs.1
    · exact ih.2 t x hx
section
variable {P : Program} {ops : Array Oper} {Q : Exit → Act → World → Prop} {S : World → Prop} {ds : List Nat} {N : Nat} {β : Nat → Nat} {M : Nat → Nat → Option Value} {T : TypeId → Option Ty}
theorem put_defs (a : Act) (d : Option Tmp) (v : Value) : (a.put d v).defers = a.defers := by cases d <;> rfl
theorem want_ {o : Oper} {a : Act} (h : o.guard = none) : Region.wanted o (yielded ops a.tmps) = true := by
  simp [Region.wanted, h]
theorem seg_ (hT : TabOk P T) (hM : ∀ W, S W → MemOk β M W) (hQ : ∀ c (a a' : Act) w, a'.defers = a.defers → Q (.panic c) a w → Q (.panic c) a' w) {fuel : Nat} {w : World} (hS : S w) :
    ∀ (l : List Nat) {L : Array Bool} {E E' : List (Nat × SV)} {a : Act}, schedB ops ds l L = true → evs N T M ops l E = some E' → Has N β E a →
      (∀ a', Has N β E' a' → a'.defers = a.defers → wpAnyLast P .any ops Q S ds fuel (marks l L) a' w) → wpAnyLast P .any ops Q S ds (fuel + l.length) L a w
  | [], L, E, E', a, _, hE, hA, h => by
    obtain rfl := Option.some.inj hE
    exact h a hA rfl
  | i :: l, L, E, E', a, hB, hE, hA, h => by
    unfold evs at hE
    split at hE
    · next o ho =>
      split at hE
      · next d hd hg =>
        split at hE
        · next hN =>
          split at hE
          · next s hs =>
            unfold schedB at hB
            split at hB
            · next hc =>
              have hd' := Eq.mp Nat.blt_eq hN
              refine take_ (i := i) (N := some d) (v := s.den β) (a' := a.put (some d) (s.den β)) _ ho hd hc (fun c a w h => hQ c _ _ w (put_defs _ _ _).symm h) (Or.inl ⟨want_ hg, fun W hW => ev_ok hT hA (hM W hW) hs⟩) hS rfl ?_
              exact seg_ hT hM hQ hS l hB hE (hA.put d hd' s) (fun a' h1 h2 => h a' h1 (h2.trans rfl))
            · cases hB
          · cases hE
        · cases hE
      · cases hE
    · cases hE
/-- What a last store writes, and where. -/
def stV (T : TypeId → Option Ty) (ops : Array Oper) (n : Nat) (r : Option (List (Nat × SV))) : Option (Nat × Nat × Value) :=
  match r, ops[n]? with
  | some E, some o => match o.op, o.guard, o.dst with
    | .store t x y, none, none => match T t, evO E x, evO E y with
      | some (.int _), some (.p k i), some (.v (.int kk u)) => some (k, i, .int kk u)
      | some .bool, some (.p k i), some (.v (.bool u)) => some (k, i, .bool u)
      | _, _, _ => none
    | _, _, _ => none
  | _, _ => none
theorem MemOk.drew {W : World} (h : MemOk β M W) : MemOk β M W.drew := fun k i v hv => h k i v hv
/-- Pure operations in the order of the text. -/
theorem ops_ (hT : TabOk P T) {w : World} (hM : MemOk β M w) (l2 : List Nat) : ∀ (l : List Nat) {E E' : List (Nat × SV)} {a : Act}, evs N T M ops l E = some E' → Has N β E a →
    (∀ a', Has N β E' a' → a'.defers = a.defers → wpOps P ops Q l2 a' w) → wpOps P ops Q (l ++ l2) a w
  | [], E, E', a, hE, hA, h => by
    obtain rfl := Option.some.inj hE
    exact h a hA rfl
  | i :: l, E, E', a, hE, hA, h => by
    unfold evs at hE
    split at hE
    · next o ho =>
      split at hE
      · next d hd hg =>
        split at hE
        · next hN =>
          split at hE
          · next s hs =>
            show wpOps P ops Q (i :: (l ++ l2)) a w
            unfold wpOps
            simp only [ho]
            rw [if_pos (want_ hg)]
            refine Or.inl ?_
            unfold Oper.wp
            rw [ev_ok hT hA hM hs, Oper.upon_value, hd]
            exact ops_ hT hM l2 l hE (hA.put d (Eq.mp Nat.blt_eq hN) s) (fun a' h1 h2 => h a' h1 (h2.trans rfl))
          · cases hE
        · cases hE
      · cases hE
    · cases hE
/-- A variable is made. -/
def AllocOk (P : Program) (t : TypeId) (cs : Array Value) : Prop := ∀ (ρ : Operand → Value) (o : Oper) (W : World), o.op = .alloc t → (execOp ρ o).run P W = .ok (.value (.pointer (some ⟨W.heap.size, 0, none⟩))) (W.alloc (.cells cs t))
def argL (E : List (Nat × SV)) : List Operand → Option (List SV)
  | [] => some []
  | x :: l => match evO E x, argL E l with
    | some s, some r => some (s :: r)
    | _, _ => none
theorem argL_ok {E : List (Nat × SV)} {a : Act} (hA : Has N β E a) : ∀ {l : List Operand} {r : List SV}, argL E l = some r → l.map a.eval = r.map (SV.den β)
  | [], r, h => by obtain rfl := Option.some.inj h; rfl
  | x :: l, r, h => by
    unfold argL at h
    split at h
    · next s r' h1 h2 =>
      obtain rfl := Option.some.inj h
      rw [List.map_cons, List.map_cons, evO_ok hA h1, argL_ok hA h2]
    · cases h
/-- A call, by its contract. -/
theorem call_if {d f : Nat} {o : Oper} {fn : Func} {xs0 : Array Operand} {ts : Array TypeId} {args : List SV} {a : Act} {w : World} {E : List (Nat × SV)} {K : Act → World → Prop} (hg : o.guard = none) (hd : o.dst = some d) (hN : d < N) (hA : Has N β E a) (hf : P.funcs[f]? = some fn) (hname : (fn.name == "runtime.NumGoroutine") = false) (hb : fn.body.isSome = true)
    (hop : o.op = .call { callee := .value (.func f), args := xs0, argTypes := ts }) (hargs : argL E xs0.toList = some args) (R : Value → World → Prop) (hC : Calls P f (args.map (SV.den β)).toArray w fun e w' => ∃ v, e = .returned v ∧ R v w')
    (h : ∀ v w' a', R v w' → Has N β ((d, .v v) :: E) a' → a'.defers = a.defers → K a' w') : if Region.wanted o (yielded ops a.tmps) = true then Oper.wp P o a w K Q else K (a.put (some d) undef) w := by
  refine goes_ hf hname hb _ (want_ hg) hd hop ?_ (hC.mono fun e w' hh => ?_)
  · rw [← argL_ok hA hargs, ← Array.toList_map, Array.toArray_toList]
  · obtain ⟨v, rfl, hr⟩ := hh
    exact ⟨v, rfl, h v w' _ hr (hA.put d hN (.v v)) rfl⟩
end
section
variable {P : Program} {ops : Array Oper} {Q : Exit → Act → World → Prop} {S : World → Prop} {N : Nat} {β : Nat → Nat} {M : Nat → Nat → Option Value} {T : TypeId → Option Ty}
/-- Which function a call calls, into which slot, with what. -/
def clV (N : Nat) (ops : Array Oper) (j : Nat) (r : Option (List (Nat × SV))) : Option (Nat × Nat × List SV) :=
  match r, ops[j]? with
  | some E, some o => match o.op, o.guard, o.dst with
    | .call c, none, some d => match c.callee, Nat.blt d N with
      | .value (.func f), true => (argL E c.args.toList).map fun l => (f, d, l)
      | _, _ => none
    | _, _, _ => none
  | _, _ => none
theorem clV_ok {j f d : Nat} {l : List SV} {r : Option (List (Nat × SV))} (h : clV N ops j r = some (f, d, l)) : ∃ E o, r = some E ∧ ops[j]? = some o ∧ o.guard = none ∧ o.dst = some d ∧ d < N ∧ ∃ xs0 ts, o.op = .call { callee := .value (.func f), args := xs0, argTypes := ts } ∧ argL E xs0.toList = some l := by
  unfold clV at h
  split at h
  · next E o ho =>
    split at h
    · next c d0 hop hg hd =>
      split at h
      · next f0 hc hN =>
        obtain ⟨l0, hl, he⟩ := Option.map_eq_some_iff.1 h
        simp only [Prod.mk.injEq] at he
        obtain ⟨rfl, rfl, rfl⟩ := he
        obtain ⟨callee, args, ats⟩ := c
        obtain rfl : callee = _ := hc
        exact ⟨E, o, rfl, ho, hg, hd, Eq.mp Nat.blt_eq hN, args, ats, hop, hl⟩
      · cases h
    · cases h
  · cases h
def csB (ops : Array Oper) (l1 : List Nat) (j : Nat) (l2 : List Nat) (n : Nat) : Bool :=
  let L0 := Array.replicate (l2.length + 2 + l1.length) false
  let L1 := marks l1 L0
  let L2 := L1.setIfInBounds j true
  let L3 := marks l2 L2
  let L4 := L3.setIfInBounds n true
  schedB ops [n] l1 L0 && (readyB .any ops L1 L2 j && (schedB ops [n] l2 L2 && (readyB .any ops L3 L4 n && (Region.ready .any ops L4 == [] && !(Nat.beq j n)))))
/-- A region that draws its order: pure operations, a call that keeps S, pure operations. -/
def ckB (ops : Array Oper) (l1 : List Nat) (j : Nat) (l2 : List Nat) : Bool :=
  let L0 := Array.replicate (l2.length + 1 + l1.length) false
  let L1 := marks l1 L0
  let L2 := L1.setIfInBounds j true
  let L3 := marks l2 L2
  schedB ops [] l1 L0 && (readyB .any ops L1 L2 j && (schedB ops [] l2 L2 && (Region.ready .any ops L3 == [])))
/-- A region that draws its order: pure operations, a call that may write. -/
def clB (ops : Array Oper) (l1 : List Nat) (j : Nat) : Bool :=
  let L0 := Array.replicate (1 + l1.length) false
  let L1 := marks l1 L0
  let L2 := L1.setIfInBounds j true
  schedB ops [j] l1 L0 && (readyB .any ops L1 L2 j && (Region.ready .any ops L2 == []))
/-- A slice expression with a low bound alone. -/
def slV (N : Nat) (ops : Array Oper) (j : Nat) : Option (Nat × TypeId × Operand × Nat) :=
  match ops[j]? with
  | some o => match o.op, o.guard, o.dst with
    | .slice t x (some (.const (.int .i64 (.ofNat l)))) none none, none, some d => match Nat.blt d N with
      | true => some (d, t, x, l)
      | false => none
    | _, _, _ => none
  | none => none
def cs2B (ops : Array Oper) (l1 : List Nat) (js j : Nat) (l2 : List Nat) (n : Nat) : Bool :=
  let L0 := Array.replicate (l2.length + 3 + l1.length) false
  let L1 := marks l1 L0
  let L1' := L1.setIfInBounds js true
  let L2 := L1'.setIfInBounds j true
  let L3 := marks l2 L2
  let L4 := L3.setIfInBounds n true
  schedB ops [n] l1 L0 && (takeB .any ops [n] L1 L1' js && (readyB .any ops L1' L2 j && (schedB ops [n] l2 L2 && (readyB .any ops L3 L4 n && (Region.ready .any ops L4 == [] && !(Nat.beq j n))))))
end
theorem then_exit {K : Act → World → Prop} {Q : Exit → Act → World → Prop} {id : Nat} {a : Act} {w : World} (h : Q (.exit id) a w) : Exit.then K Q (.exit id) a w := h
theorem exit_in {Q : Exit → Act → World → Prop} {id : Nat} {a : Act} {w : World} (h : Q .normal a w) : Exit.inBlock id Q (.exit id) a w := by
  simp only [Exit.inBlock, if_true]
  exact h
theorem has_two {β : Nat → Nat} (x0 x1 : SV) (k : Nat) : Has (2 + k) β [(0, x0), (1, x1)] ⟨#[x0.den β, x1.den β] ++ Array.replicate k undef, []⟩ := by
  refine ⟨by simp, fun t x hx => ?_⟩
  unfold look at hx
  split at hx
  · next e =>
    obtain rfl := Nat.eq_of_beq_eq_true e
    obtain rfl := Option.some.inj hx
    show ((#[x0.den β, x1.den β] ++ Array.replicate k undef).getD 0 undef) = _
    rw [Array.getD_eq_getD_getElem?, Array.getElem?_append_left (by simp)]
    rfl
  · unfold look at hx
    split at hx
    · next e =>
      obtain rfl := Nat.eq_of_beq_eq_true e
      obtain rfl := Option.some.inj hx
      show ((#[x0.den β, x1.den β] ++ Array.replicate k undef).getD 1 undef) = _
      rw [Array.getD_eq_getD_getElem?, Array.getElem?_append_left (by simp)]
      rfl
    · cases hx
end Go.Proofs.Ytjmgiodkfgdgnaa.PAll
namespace Go.Proofs.Ytjmgiodkfgdgnaa.PAll
open Go.RowKit Go.Proofs.YtjmgiodkfgdgnaaW.PrintWords Go.Proofs.YtjmgiodkfgdgnaaW.PrintLast Go.Proofs.YtjmgiodkfgdgnaaW.PrintMore
set_option linter.unusedVariables false
set_option linter.unusedSimpArgs false
structure Bl where
  g : Nat
  T : TypeId
  n : Nat
  m : Nat → Value
def upm (m : Nat → Value) (i : Nat) (v : Value) : Nat → Value := fun j => if j = i then v else m j
def Bl.put (b : Bl) (i : Nat) (v : Value) : Bl := ⟨b.g, b.T, b.n, upm b.m i v⟩
/-- The block holds just these cells. -/
def Bl.In (b : Bl) (W : World) : Prop := ∃ cs : Array Value, W.heap[b.g]? = some (.cells cs b.T (0, 0)) ∧ cs.size = b.n ∧ ∀ i, i < b.n → cs[i]? = some (b.m i)
def bg : List Bl → Nat → Nat
  | [], _ => 0
  | b :: _, 0 => b.g
  | _ :: L, k + 1 => bg L k
def bm : List Bl → Nat → Nat → Option Value
  | [], _, _ => none
  | b :: _, 0, i => match Nat.blt i b.n with
    | true => some (b.m i)
    | false => none
  | _ :: L, k + 1, i => bm L k i
def bput : List Bl → Nat → Nat → Value → List Bl
  | [], _, _, _ => []
  | b :: L, 0, i, v => b.put i v :: L
  | b :: L, k + 1, i, v => b :: bput L k i v
/-- All of L lies in the world, in different blocks. -/
def Mm : List Bl → World → Prop
  | [], _ => True
  | b :: L, W => b.In W ∧ (∀ c ∈ L, c.g ≠ b.g) ∧ Mm L W
theorem Bl.In.cell {b : Bl} {W : World} (h : b.In W) (i : Nat) (hi : i < b.n) : W.cell? ⟨b.g, i, none⟩ = some (b.m i) := by
  obtain ⟨cs, h1, h2, h3⟩ := h
  rw [blk_cell h1]
  exact h3 i hi
theorem Bl.In.free {b : Bl} {W : World} (h : b.In W) (i : Nat) : W.frozen? ⟨b.g, i, none⟩ = false := by
  obtain ⟨cs, h1, h2, h3⟩ := h
  exact blk_frozen h1 i
theorem Bl.In.lt {b : Bl} {W : World} (h : b.In W) : b.g < W.heap.size := by
  obtain ⟨cs, h1, h2, h3⟩ := h
  exact blk_lt h1
theorem Bl.In.on {b : Bl} {S : List Nat} {W W' : World} (h : b.In W) (h' : Fr S W W') (hs : b.g ∉ S) : b.In W' := by
  obtain ⟨cs, h1, h2⟩ := h
  exact ⟨cs, h'.block h1 hs, h2⟩
theorem Bl.In.put {b : Bl} {W : World} (h : b.In W) (i : Nat) (hi : i < b.n) (v : Value) : (b.put i v).In (W.setCell ⟨b.g, i, none⟩ v) := by
  obtain ⟨cs, h1, h2, h3⟩ := h
  refine ⟨_, blk_set h1 i v, by rw [Array.size_setIfInBounds]; exact h2, fun j hj => ?_⟩
  show _ = some (upm b.m i v j)
  unfold upm
  by_cases e : j = i
  · subst e
    rw [if_pos rfl, Array.getElem?_setIfInBounds_self_of_lt (by rw [h2]; exact hi)]
  · rw [if_neg e, Array.getElem?_setIfInBounds_ne (Ne.symm e)]
    exact h3 j hj
theorem Mm.on {S : List Nat} {W W' : World} (h' : Fr S W W') : ∀ {L : List Bl}, Mm L W → (∀ b ∈ L, b.g ∉ S) → Mm L W'
  | [], _, _ => trivial
  | b :: L, h, hs => ⟨h.1.on h' (hs b (by simp)), h.2.1, Mm.on h' h.2.2 (fun c hc => hs c (by simp [hc]))⟩
theorem Mm.onB {L : List Bl} {W W' : World} (h : Mm L W) (h' : Below W.heap.size W W') : Mm L W' := Mm.on (Fr.ofBelow [] h') h (by simp)
theorem Mm.drew {W : World} : ∀ {L : List Bl}, Mm L W → Mm L W.drew
  | [], _ => trivial
  | b :: L, h => ⟨h.1, h.2.1, Mm.drew h.2.2⟩
theorem Mm.at {W : World} : ∀ {L : List Bl} {k i : Nat} {v : Value}, Mm L W → bm L k i = some v → W.cell? ⟨bg L k, i, none⟩ = some v ∧ W.frozen? ⟨bg L k, i, none⟩ = false
  | b :: L, 0, i, v, h, hv => by
    unfold bm at hv
    split at hv
    · next hi =>
      obtain rfl := Option.some.inj hv
      exact ⟨h.1.cell i (Eq.mp Nat.blt_eq hi), h.1.free i⟩
    · cases hv
  | b :: L, k + 1, i, v, h, hv => Mm.at (L := L) (k := k) h.2.2 hv
theorem bput_g : ∀ {L : List Bl} {k i : Nat} {v : Value} {c : Bl}, c ∈ bput L k i v → ∃ b ∈ L, c.g = b.g
  | b :: L, 0, i, v, c, h => by
    rcases List.mem_cons.1 h with rfl | h
    · exact ⟨b, by simp, rfl⟩
    · exact ⟨c, by simp [h], rfl⟩
  | b :: L, k + 1, i, v, c, h => by
    rcases List.mem_cons.1 h with rfl | h
    · exact ⟨c, by simp, rfl⟩
    · obtain ⟨d, hd, e⟩ := bput_g h
      exact ⟨d, by simp [hd], e⟩
theorem bm_mem : ∀ {L : List Bl} {k i : Nat} {v : Value}, bm L k i = some v → ∃ b ∈ L, b.g = bg L k
  | b :: L, 0, i, v, h => ⟨b, by simp, rfl⟩
  | b :: L, k + 1, i, v, h => by
    obtain ⟨c, hc, e⟩ := bm_mem (L := L) (k := k) h
    exact ⟨c, by simp [hc], e⟩
theorem far_set {W : World} (p : Addr) (v : Value) : Fr [p.block] W (W.setCell p v) := (Fr.refl _ _).set p (by simp) v
theorem Mm.set {W : World} : ∀ {L : List Bl} {k i : Nat} {v0 : Value} (v : Value), Mm L W → bm L k i = some v0 → Mm (bput L k i v) (W.setCell ⟨bg L k, i, none⟩ v)
  | b :: L, 0, i, v0, v, h, hv => by
    unfold bm at hv
    split at hv
    · next hi =>
      refine ⟨h.1.put i (Eq.mp Nat.blt_eq hi) v, h.2.1, Mm.on (far_set _ v) h.2.2 (fun c hc => ?_)⟩
      have := h.2.1 c hc
      show c.g ∉ [b.g]
      simpa using this
    · cases hv
  | b :: L, k + 1, i, v0, v, h, hv => by
    obtain ⟨c, hc, e⟩ := bm_mem (L := L) (k := k) hv
    refine ⟨h.1.on (far_set _ v) ?_, fun d hd => ?_, Mm.set v h.2.2 hv⟩
    · have := h.2.1 c hc
      show b.g ∉ [bg L k]
      rw [← e]
      simpa using Ne.symm this
    · obtain ⟨d', hd', e'⟩ := bput_g hd
      rw [e']
      exact h.2.1 d' hd'
/-- A block of the world at hand is told on. -/
theorem Mm.cons {L : List Bl} {W : World} {b : Bl} (h : Mm L W) (hb : b.In W) (hne : ∀ c ∈ L, c.g ≠ b.g) : Mm (b :: L) W := ⟨hb, hne, h⟩
theorem Mm.lt {W : World} : ∀ {L : List Bl}, Mm L W → ∀ c ∈ L, c.g < W.heap.size
  | b :: L, h, c, hc => by
    rcases List.mem_cons.1 hc with rfl | hc
    · exact h.1.lt
    · exact Mm.lt h.2.2 c hc
theorem bl_new (W : World) (cs : Array Value) (T : TypeId) (m : Nat → Value) (hm : ∀ i, i < cs.size → cs[i]? = some (m i)) : (⟨W.heap.size, T, cs.size, m⟩ : Bl).In (W.alloc (.cells cs T)) := ⟨cs, (MapKept.heap_alloc W _).1, rfl, hm⟩
theorem Mm.alloc {L : List Bl} {W : World} (h : Mm L W) (cs : Array Value) (T : TypeId) (m : Nat → Value) (hm : ∀ i, i < cs.size → cs[i]? = some (m i)) : Mm (⟨W.heap.size, T, cs.size, m⟩ :: L) (W.alloc (.cells cs T)) :=
  ⟨bl_new W cs T m hm, fun c hc => Nat.ne_of_lt (Mm.lt h c hc), Mm.onB h ((Below.refl _ _).alloc (Nat.le_refl _) _)⟩
def AllV (β : Nat → Nat) (a : Act) : List (Nat × SV) → Prop
  | [] => True
  | (t, x) :: E => a.eval (.tmp t) = x.den β ∧ AllV β a E
theorem has_list {N : Nat} {β : Nat → Nat} {a : Act} (hn : a.tmps.size = N) : ∀ {E : List (Nat × SV)}, AllV β a E → Has N β E a
  | [], _ => ⟨hn, fun t x hx => by cases hx⟩
  | (k, y) :: E, hs => by
    have ih := has_list (β := β) hn (E := E) hs.2
    refine ⟨hn, fun t x hx => ?_⟩
    unfold look at hx
    split at hx
    · next e =>
      obtain rfl := Nat.eq_of_beq_eq_true e
      obtain rfl := Option.some.inj hx
      exact hs.1
    · exact ih.2 t x hx
def bset : List Bl → Nat → (Nat → Value) → List Bl
  | [], _, _ => []
  | b :: L, 0, m => ⟨b.g, b.T, b.n, m⟩ :: L
  | b :: L, k + 1, m => b :: bset L k m
/-- The known blocks, their numbers told by β. -/
def Mw (β : Nat → Nat) (L : List Bl) (W : World) : Prop := bg L = β ∧ Mm L W
theorem Mw.drew {β : Nat → Nat} {L : List Bl} {W : World} (h : Mw β L W) : Mw β L W.drew := ⟨h.1, h.2.drew⟩
theorem Mw.onB {β : Nat → Nat} {L : List Bl} {W W' : World} (h : Mw β L W) (h' : Below W.heap.size W W') : Mw β L W' := ⟨h.1, h.2.onB h'⟩
section
variable {P : Program} {ops : Array Oper} {Q : Exit → Act → World → Prop} {N : Nat} {β : Nat → Nat} {T : TypeId → Option Ty}
end
def cpB (m : Nat → Value) (o k : Nat) (f : Nat → Value) : Nat → Value := fun i => if o ≤ i ∧ i < o + k then f (i - o) else m i
section
variable {P : Program} {ops : Array Oper} {Q : Exit → Act → World → Prop} {N : Nat} {β : Nat → Nat} {T : TypeId → Option Ty} {M : Nat → Nat → Option Value}
section
variable {ρ : Operand → Value} {o : Oper} {W : World}
end
theorem new_ops {i d : Nat} {o : Oper} {v : Value} {l : List Nat} {a : Act} {w w1 : World} {E : List (Nat × SV)} (ho : ops[i]? = some o) (hg : o.guard = none) (hd : o.dst = some d) (hN : d < N) (hA : Has N β E a) (hrun : (execOp a.eval o).run P w = .ok (.value v) w1)
    (h : ∀ a', Has N β ((d, .v v) :: E) a' → a'.defers = a.defers → wpOps P ops Q l a' w1) : wpOps P ops Q (i :: l) a w := by
  unfold wpOps
  simp only [ho]
  rw [if_pos (want_ hg)]
  refine Or.inl ?_
  unfold Oper.wp
  rw [hrun, Oper.upon_value, hd]
  exact h _ (hA.put d hN (.v v)) rfl
theorem opsP (hT : TabOk P T) {w : World} (hM : MemOk β M w) (l2 l : List Nat) (E2 : List (Nat × SV)) {E : List (Nat × SV)} {a : Act} (hA : Has N β E a) (hs : (evs N T M ops l E).isSome = true) (hsub : Sub (evs N T M ops l E) E2)
    (h : ∀ a', Has N β E2 a' → a'.defers = a.defers → wpOps P ops Q l2 a' w) : wpOps P ops Q (l ++ l2) a w := by
  obtain ⟨E', he⟩ := Option.isSome_iff_exists.1 hs
  rw [he] at hsub
  exact ops_ hT hM l2 l he hA (fun a' h1 h2 => h a' (sub_ok h1 hsub) h2)
theorem want_g {o : Oper} {a : Act} {E : List (Nat × SV)} {j d : Nat} {b : Bool} (hA : Has N β E a) (hg : o.guard = some (j, b)) (hj : (ops[j]?).bind (·.dst) = some d) (hd : look E d = some (.v (.bool b))) : Region.wanted o (yielded ops a.tmps) = true := by
  have h1 : a.eval (.tmp d) = .bool b := hA.2 d _ hd
  have h2 : a.tmps[d]? = some (.bool b) := by
    simp only [Act.eval] at h1
    rw [Array.getD_eq_getD_getElem?] at h1
    cases h3 : a.tmps[d]? with
    | none =>
      rw [h3] at h1
      cases h1
    | some v =>
      rw [h3] at h1
      exact congrArg some h1
  unfold Region.wanted yielded
  simp [hg, hj, h2]
theorem givenW_ops {i d : Nat} {o : Oper} {s : SV} {l : List Nat} {a : Act} {w : World} {E : List (Nat × SV)} (ho : ops[i]? = some o) (hw : Region.wanted o (yielded ops a.tmps) = true) (hd : o.dst = some d) (hN : d < N) (hA : Has N β E a) (hrun : (execOp a.eval o).run P w = .ok (.value (s.den β)) w)
    (h : ∀ a', Has N β ((d, s) :: E) a' → a'.defers = a.defers → wpOps P ops Q l a' w) : wpOps P ops Q (i :: l) a w := by
  unfold wpOps
  simp only [ho]
  rw [if_pos hw]
  refine Or.inl ?_
  unfold Oper.wp
  rw [hrun, Oper.upon_value, hd]
  exact h _ (hA.put d hN s) rfl
/-- A pure operation whose guard is met. -/
theorem guard_ops (hT : TabOk P T) {i d j dj : Nat} {b : Bool} {o : Oper} {s : SV} {l : List Nat} {a : Act} {w : World} {E : List (Nat × SV)} (hM : MemOk β M w) (ho : ops[i]? = some o) (hg : o.guard = some (j, b)) (hj : (ops[j]?).bind (·.dst) = some dj) (hb : look E dj = some (.v (.bool b))) (hd : o.dst = some d) (hN : d < N) (hA : Has N β E a) (hs : ev T M E o = some s)
    (h : ∀ a', Has N β ((d, s) :: E) a' → a'.defers = a.defers → wpOps P ops Q l a' w) : wpOps P ops Q (i :: l) a w :=
  givenW_ops ho (want_g hA hg hj hb) hd hN hA (ev_ok hT hA hM hs) h
section
variable {S : World → Prop} {ds : List Nat}
theorem stepR {j d f fuel : Nat} {args : List SV} {fn : Func} {L : Array Bool} {E : List (Nat × SV)} {a : Act} {w : World} (hA : Has N β E a)
    (hB : (readyB .any ops L (L.setIfInBounds j true) j && !(ds.contains j)) = true) (hcl : clV N ops j (some E) = some (f, d, args)) (hf : P.funcs[f]? = some fn) (hname : (fn.name == "runtime.NumGoroutine") = false) (hb : fn.body.isSome = true)
    (R : Value → World → Prop) (hS : ∀ v W', R v W' → S W') (hC : Calls P f (args.map (SV.den β)).toArray w fun e W' => ∃ v, e = .returned v ∧ R v W')
    (h : ∀ a' v W, Has N β ((d, .v v) :: E) a' → a'.defers = a.defers → R v W → wpAnyLast P .any ops Q S ds fuel (L.setIfInBounds j true) a' W) : wpAnyLast P .any ops Q S ds (fuel + 1) L a w := by
  simp only [Bool.and_eq_true, Bool.not_eq_true', List.contains_eq_mem, decide_eq_false_iff_not] at hB
  obtain ⟨hB2, hB6⟩ := hB
  obtain ⟨E1, o1, he1, ho1, hg1, hd1, hN1, xs0, ts, hop1, hargs⟩ := clV_ok hcl
  obtain rfl := Option.some.inj he1
  refine one_ (i := j) (N := some d) _ ho1 hd1 hB2 hB6 (fun K hK => ?_)
  exact call_if hg1 hd1 hN1 hA hf hname hb hop1 hargs R hC (fun v' W' a2 hR h3 h4 => hK.out _ _ (hS _ _ hR) (fun _ => h a2 v' W' h3 h4 hR))
end
section
variable {ρ : Operand → Value} {o : Oper} {W : World}
theorem op_pickT {c x y : Operand} {v : Value} (ho : o.op = .pick c x y) (hc : ρ c = .bool true) (hx : ρ x = v) : (execOp ρ o).run P W = .ok (.value v) W := by
  unfold execOp
  rw [ho]
  simp [go_sem, hc, hx]
theorem op_pickF {c x y : Operand} {v : Value} (ho : o.op = .pick c x y) (hc : ρ c = .bool false) (hy : ρ y = v) : (execOp ρ o).run P W = .ok (.value v) W := by
  unfold execOp
  rw [ho]
  simp [go_sem, hc, hy]
end
theorem skip_ops {i d j dj : Nat} {b b' : Bool} {o : Oper} {l : List Nat} {a : Act} {w : World} {E : List (Nat × SV)} (ho : ops[i]? = some o) (hg : o.guard = some (j, b)) (hj : (ops[j]?).bind (·.dst) = some dj) (hb : look E dj = some (.v (.bool b'))) (hne : b' ≠ b) (hd : o.dst = some d) (hN : d < N) (hA : Has N β E a)
    (h : ∀ a', Has N β ((d, .v undef) :: E) a' → a'.defers = a.defers → wpOps P ops Q l a' w) : wpOps P ops Q (i :: l) a w := by
  have h1 : a.eval (.tmp dj) = .bool b' := hA.2 dj _ hb
  have h2 : a.tmps[dj]? = some (.bool b') := by
    simp only [Act.eval] at h1
    rw [Array.getD_eq_getD_getElem?] at h1
    cases h3 : a.tmps[dj]? with
    | none =>
      rw [h3] at h1
      cases h1
    | some v =>
      rw [h3] at h1
      exact congrArg some h1
  have hw : Region.wanted o (yielded ops a.tmps) = false := by
    unfold Region.wanted yielded
    simp [hg, hj, h2, hne]
  unfold wpOps
  simp only [ho]
  rw [if_neg (by rw [hw]; decide), hd]
  exact h _ (hA.put d hN (.v undef)) rfl
/-- A call whose guard is met. -/
theorem callW_ops {i d f : Nat} {o : Oper} {fn : Func} {xs0 : Array Operand} {ts : Array TypeId} {args : List SV} {l : List Nat} {a : Act} {w : World} {E : List (Nat × SV)} (ho : ops[i]? = some o) (hw : Region.wanted o (yielded ops a.tmps) = true) (hd : o.dst = some d) (hN : d < N) (hA : Has N β E a) (hf : P.funcs[f]? = some fn) (hname : (fn.name == "runtime.NumGoroutine") = false) (hb : fn.body.isSome = true)
    (hop : o.op = .call { callee := .value (.func f), args := xs0, argTypes := ts }) (hargs : argL E xs0.toList = some args) (R : Value → World → Prop) (hC : Calls P f (args.map (SV.den β)).toArray w fun e w' => ∃ v, e = .returned v ∧ R v w')
    (h : ∀ v w' a', R v w' → Has N β ((d, .v v) :: E) a' → a'.defers = a.defers → wpOps P ops Q l a' w') : wpOps P ops Q (i :: l) a w := by
  have key := goes_ (P := P) (ops := ops) (Q := Q) (K := wpOps P ops Q l) (N := some d) (a := a) (w := w) hf hname hb (args.map (SV.den β)).toArray hw hd hop (by rw [← argL_ok hA hargs, ← Array.toList_map, Array.toArray_toList]) (hC.mono fun e w' hh => by
    obtain ⟨v, rfl, hr⟩ := hh
    exact ⟨v, rfl, h v w' _ hr (hA.put d hN (.v v)) rfl⟩)
  unfold wpOps
  simp only [ho]
  rw [if_pos hw] at key ⊢
  exact Or.inl key
end
theorem addr_add (b i k : Nat) : (Addr.add ⟨b, i, none⟩ k) = ⟨b, i + k, none⟩ := by
  unfold Addr.add
  by_cases h : k = 0
  · simp [h]
  · simp [h]
def bn : List Nat → Nat → Nat
  | [], _ => 0
  | g :: _, 0 => g
  | _ :: l, k + 1 => bn l k
end Go.Proofs.Ytjmgiodkfgdgnaa.PAll
namespace Go.Proofs.Ytjmgiodkfgdgnaa.PAll
open Go.RowKit Go.Proofs.YtjmgiodkfgdgnaaW.PrintWords Go.Proofs.YtjmgiodkfgdgnaaW.PrintLast Go.Proofs.YtjmgiodkfgdgnaaW.PrintMore
set_option linter.unusedVariables false
set_option linter.unusedSimpArgs false
def TT (t : TypeId) : Option Ty :=
  match t with
  | 22 => some (.int .u64)
  | 81 => some (.int .u32)
  | 5 => some (.int .u8)
  | 3 => some (.int .i64)
  | 42 => some (.int .u64)
  | 70 => some (.int .u64)
  | 2 => some (.int .i64)
  | 12 => some (.int .u64)
  | 4 => some .bool
  | _ => none
set_option maxHeartbeats 4000000 in
set_option maxRecDepth 100000 in
theorem tabOk : TabOk Try.prog TT := by
  intro t y h
  unfold TT at h
  split at h
  · obtain rfl := Option.some.inj h
    exact ⟨Try.underlying22, Try.isAgg22, Try.sizeOf22⟩
  · obtain rfl := Option.some.inj h
    exact ⟨Try.underlying81, Try.isAgg81, Try.sizeOf81⟩
  · obtain rfl := Option.some.inj h
    exact ⟨Try.underlying5, Try.isAgg5, Try.sizeOf5⟩
  · obtain rfl := Option.some.inj h
    exact ⟨Try.underlying3, Try.isAgg3, Try.sizeOf3⟩
  · obtain rfl := Option.some.inj h
    exact ⟨Try.underlying42, Try.isAgg42, Try.sizeOf42⟩
  · obtain rfl := Option.some.inj h
    exact ⟨Try.underlying70, Try.isAgg70, Try.sizeOf70⟩
  · obtain rfl := Option.some.inj h
    exact ⟨Try.underlying2, Try.isAgg2, Try.sizeOf2⟩
  · obtain rfl := Option.some.inj h
    exact ⟨Try.underlying12, Try.isAgg12, Try.sizeOf12⟩
  · obtain rfl := Option.some.inj h
    exact ⟨Try.underlying4, Try.isAgg4, Try.sizeOf4⟩
  · cases h
theorem has_one {β : Nat → Nat} (x0 : SV) (k : Nat) : Has (1 + k) β [(0, x0)] ⟨#[x0.den β] ++ Array.replicate k undef, []⟩ := by
  refine has_list (by simp) ⟨?_, trivial⟩
  · show ((#[x0.den β] ++ Array.replicate k undef).getD 0 undef) = _
    rw [Array.getD_eq_getD_getElem?, Array.getElem?_append_left (by simp)]
    rfl
theorem has_three {β : Nat → Nat} (x0 : SV) (x1 : SV) (x2 : SV) (k : Nat) : Has (3 + k) β [(0, x0), (1, x1), (2, x2)] ⟨#[x0.den β, x1.den β, x2.den β] ++ Array.replicate k undef, []⟩ := by
  refine has_list (by simp) ⟨?_, ?_, ?_, trivial⟩
  · show ((#[x0.den β, x1.den β, x2.den β] ++ Array.replicate k undef).getD 0 undef) = _
    rw [Array.getD_eq_getD_getElem?, Array.getElem?_append_left (by simp)]
    rfl
  · show ((#[x0.den β, x1.den β, x2.den β] ++ Array.replicate k undef).getD 1 undef) = _
    rw [Array.getD_eq_getD_getElem?, Array.getElem?_append_left (by simp)]
    rfl
  · show ((#[x0.den β, x1.den β, x2.den β] ++ Array.replicate k undef).getD 2 undef) = _
    rw [Array.getD_eq_getD_getElem?, Array.getElem?_append_left (by simp)]
    rfl
theorem sE0 {r : Option (List (Nat × SV))} : ∀ {E : List (Nat × SV)}, (E.map fun p => r.bind (look · p.1)) = (E.map fun p => some p.2) → Sub r E
  | [], _ => trivial
  | (k, y) :: E, h => by
    simp only [List.map_cons, List.cons.injEq] at h
    exact ⟨h.1, sE0 h.2⟩
theorem sE {r : Option (List (Nat × SV))} {E : List (Nat × SV)} (h : (E.map fun p => r.bind (look · p.1)) = (E.map fun p => some p.2) := by kernel_rfl) : Sub r E := sE0 h
abbrev vi (n : Int) : SV := .v (.int .i64 n)
abbrev vu (n : Int) : SV := .v (.int .u64 n)
abbrev vw (n : Int) : SV := .v (.int .u32 n)
abbrev vo (n : Int) : SV := .v (.int .u8 n)
abbrev vb (b : Bool) : SV := .v (.bool b)
abbrev vp (b : Nat) : SV := .v (.pointer (some ⟨b, 0, none⟩))
section
variable {P : Program} {ops : Array Oper} {Q : Exit → Act → World → Prop} {N : Nat} {β : Nat → Nat}
end
section
variable {P : Program} {ops : Array Oper} {Q : Exit → Act → World → Prop} {S : World → Prop} {ds : List Nat} {N : Nat} {β : Nat → Nat} {ρ : Operand → Value} {o : Oper} {W : World}
theorem op_indexA {t e : TypeId} {x ix : Operand} {A : Addr} {n c j : Nat} (ho : o.op = .indexAddr t x ix) (hx : ρ x = .slice (some A) n c) (hi : ρ ix = .int .i64 (j : Int)) (ht : P.underlying t = some (.slice e)) (hs : ∀ w, (Go.sizeOf e).run P w = .ok 1 w) (hj : j < n) :
    (execOp ρ o).run P W = .ok (.value (.pointer (some (A.add j)))) W := by
  unfold execOp
  rw [ho]
  simp [go_sem, Instr.indexAt, hx, hi, und ht, hs, hj]
/-- A step whose value is shown by hand. -/
theorem segV {i d fuel : Nat} {s : SV} {L : Array Bool} {E : List (Nat × SV)} {a : Act} {w : World} (hQ : ∀ c (a a' : Act) w, a'.defers = a.defers → Q (.panic c) a w → Q (.panic c) a' w) (hS : S w) (hA : Has N β E a)
    (ho : ops[i]? = some o) (hg : o.guard = none) (hd : o.dst = some d) (hN : d < N) (hc : takeB .any ops ds L (L.setIfInBounds i true) i = true) (hrun : ∀ W, S W → (execOp a.eval o).run P W = .ok (.value (s.den β)) W)
    (h : ∀ a', Has N β ((d, s) :: E) a' → a'.defers = a.defers → wpAnyLast P .any ops Q S ds fuel (L.setIfInBounds i true) a' w) : wpAnyLast P .any ops Q S ds (fuel + 1) L a w :=
  take_ (i := i) (N := some d) (v := s.den β) (a' := a.put (some d) (s.den β)) _ ho hd hc (fun c a w h => hQ c _ _ w (put_defs _ _ _).symm h) (Or.inl ⟨want_ hg, hrun⟩) hS rfl (h _ (hA.put d hN s) (put_defs _ _ _))
theorem segP {M : Nat → Nat → Option Value} {T : TypeId → Option Ty} (hT : TabOk P T) (hM : ∀ W, S W → MemOk β M W) (hQ : ∀ c (a a' : Act) w, a'.defers = a.defers → Q (.panic c) a w → Q (.panic c) a' w) {w : World} (hS : S w) (l : List Nat) (fuel : Nat) (E2 : List (Nat × SV)) {L : Array Bool} {E : List (Nat × SV)} {a : Act} (hA : Has N β E a)
    (hB : schedB ops ds l L = true) (hs : (evs N T M ops l E).isSome = true) (hsub : Sub (evs N T M ops l E) E2)
    (h : ∀ a', Has N β E2 a' → a'.defers = a.defers → wpAnyLast P .any ops Q S ds fuel (marks l L) a' w) : wpAnyLast P .any ops Q S ds (fuel + l.length) L a w := by
  obtain ⟨E', he⟩ := Option.isSome_iff_exists.1 hs
  rw [he] at hsub
  exact seg_ hT hM hQ hS l hB he hA (fun a' h1 h2 => h a' (sub_ok h1 hsub) h2)
/-- A store into a box. -/
theorem store_cell {t : TypeId} {x y : Operand} {A : Addr} {B : Option Addr} {n c : Nat} {v0 : Value} (ho : o.op = .store t x y) (hx : ρ x = .pointer (some A)) (hy : ρ y = .slice B n c) (hs : ∀ w, (Go.sizeOf t).run P w = .ok 1 w) (hf : W.frozen? A = false) (hc : W.cell? A = some v0) : (execOp ρ o).run P W = .ok .skip (W.setCell A (.slice B n c)) := by
  unfold execOp
  rw [ho]
  simp [go_sem, hx, hy, hs, hc, hf]
end
section
variable {P : Program} {ops : Array Oper} {Q : Exit → Act → World → Prop} {N : Nat} {β : Nat → Nat}
/-- A store, what it leaves shown by hand. -/
theorem st_ops {i : Nat} {o : Oper} {l : List Nat} {a : Act} {w w1 : World} (ho : ops[i]? = some o) (hg : o.guard = none) (hd : o.dst = none) (hrun : (execOp a.eval o).run P w = .ok .skip w1) (h : wpOps P ops Q l a w1) : wpOps P ops Q (i :: l) a w := by
  unfold wpOps
  simp only [ho]
  rw [if_pos (want_ hg)]
  refine Or.inl ?_
  unfold Oper.wp
  rw [hrun, Oper.upon_skip, hd]
  exact h
end
section
variable {P : Program} {ρ : Operand → Value} {o : Oper} {W : World}
end
end Go.Proofs.Ytjmgiodkfgdgnaa.PAll
namespace Go.Proofs.Ytjmgiodkfgdgnaa.PAll
open Go.RowKit Go.Proofs.YtjmgiodkfgdgnaaW.PrintWords Go.Proofs.YtjmgiodkfgdgnaaW.PrintLast Go.Proofs.YtjmgiodkfgdgnaaW.PrintMore
set_option linter.unusedVariables false
set_option linter.unusedSimpArgs false
/-- The block g holds the words l. -/
def Wd (W : World) (g : Nat) (l : List Int) : Prop := W.heap[g]? = some (.cells (l.map (Value.int .u64)).toArray 70 (0, 0))
theorem Wd.lt {W : World} {g : Nat} {l : List Int} (h : Wd W g l) : g < W.heap.size := (Array.getElem?_eq_some_iff.1 h).1
theorem Wd.cell {W : World} {g : Nat} {l : List Int} (h : Wd W g l) {i : Nat} (hi : i < l.length) : W.cell? ⟨g, i, none⟩ = some (.int .u64 (l.getD i 0)) := by
  unfold Wd at h
  simp [World.cell?, h, hi, List.getD_eq_getElem?_getD]
theorem Wd.frozen {W : World} {g : Nat} {l : List Int} (h : Wd W g l) (i : Nat) : W.frozen? ⟨g, i, none⟩ = false := by
  unfold Wd at h
  simp [World.frozen?, h]
theorem Wd.set {W : World} {g : Nat} {l : List Int} (h : Wd W g l) (i : Nat) (x : Int) : Wd (W.setCell ⟨g, i, none⟩ (.int .u64 x)) g (l.set i x) := by
  have := heap_setCell_same W g i _ _ (.int .u64 x) h
  unfold Wd
  rw [this]
  simp
theorem Wd.on {W W' : World} {g : Nat} {l : List Int} {S : List Nat} (h : Wd W g l) (hF : Fr S W W') (hg : g ∉ S) : Wd W' g l := (hF.2.2.2.2 g h.lt hg).trans h
theorem Wd.below {W W' : World} {g : Nat} {l : List Int} (h : Wd W g l) (hb : Below W.heap.size W W') : Wd W' g l := (hb.block g h.lt).trans h
theorem Fr.setc {W : World} (g i : Nat) (v : Value) : Fr [g] W (W.setCell ⟨g, i, none⟩ v) :=
  ⟨rfl, rfl, rfl, by simp, fun k _ hk => Below.heap_setCell W ⟨g, i, none⟩ v k (by simpa using hk)⟩
/-- The block p holds a number's sign and its words' slice. -/
def IB (W : World) (p : Nat) (neg : Bool) (v : Value) : Prop := W.heap[p]? = some (.cells #[.bool neg, v] 49 (0, 0))
theorem IB.lt {W : World} {p : Nat} {neg : Bool} {v : Value} (h : IB W p neg v) : p < W.heap.size := (Array.getElem?_eq_some_iff.1 h).1
theorem IB.neg {W : World} {p : Nat} {neg : Bool} {v : Value} (h : IB W p neg v) : W.cell? ⟨p, 0, none⟩ = some (.bool neg) := by
  unfold IB at h
  simp [World.cell?, h]
theorem IB.abs {W : World} {p : Nat} {neg : Bool} {v : Value} (h : IB W p neg v) : W.cell? ⟨p, 1, none⟩ = some v := by
  unfold IB at h
  simp [World.cell?, h]
theorem IB.frozen {W : World} {p : Nat} {neg : Bool} {v : Value} (h : IB W p neg v) (i : Nat) : W.frozen? ⟨p, i, none⟩ = false := by
  unfold IB at h
  simp [World.frozen?, h]
theorem IB.setNeg {W : World} {p : Nat} {neg : Bool} {v : Value} (h : IB W p neg v) (b : Bool) : IB (W.setCell ⟨p, 0, none⟩ (.bool b)) p b v := by
  have := heap_setCell_same W p 0 _ _ (.bool b) h
  unfold IB
  rw [this]
  simp
theorem IB.setAbs {W : World} {p : Nat} {neg : Bool} {v : Value} (h : IB W p neg v) (u : Value) : IB (W.setCell ⟨p, 1, none⟩ u) p neg u := by
  have := heap_setCell_same W p 1 _ _ u h
  unfold IB
  rw [this]
  simp
theorem IB.on {W W' : World} {p : Nat} {neg : Bool} {v : Value} {S : List Nat} (h : IB W p neg v) (hF : Fr S W W') (hg : p ∉ S) : IB W' p neg v := (hF.2.2.2.2 p h.lt hg).trans h
theorem IB.below {W W' : World} {p : Nat} {neg : Bool} {v : Value} (h : IB W p neg v) (hb : Below W.heap.size W W') : IB W' p neg v := (hb.block p h.lt).trans h
section
variable {P : Program} {ρ : Operand → Value} {o : Oper} {W : World}
theorem op_cap {x : Operand} {t e : TypeId} {p : Option Addr} {n c : Nat} (ho : o.op = .call { callee := .builtin .cap, args := #[x], argTypes := #[t] }) (ht : P.underlying t = some (.slice e)) (hx : ρ x = .slice p n c) : (execOp ρ o).run P W = .ok (.value (.int .i64 (c : Int))) W := by
  unfold execOp
  rw [ho]
  simp [go_sem, resolve, invoke, builtin, Builtin.cap_, hx, und ht, goInt]
theorem op_mk {t e : TypeId} {x y : Operand} {n c : Nat} {i : TypeInfo} {z : Value} (ho : o.op = .makeSlice t x y) (hx : ρ x = .int .i64 (n : Int)) (hy : ρ y = .int .i64 (c : Int)) (hn : n ≤ c) (ht : P.underlying t = some (.slice e)) (hi : P.info? e = some i) (hz : i.zero = some z) (hb : (i.bytes : Int) * (c : Int) ≤ 281474976710656) (h63 : (c : Int) ≤ 9223372036854775807) :
    (execOp ρ o).run P W = .ok (.value (.slice (some ⟨W.heap.size, 0, none⟩) n c)) (W.alloc (.cells (madeCells z.cells (c * i.size)) e)) := by
  have hr := run_make (P := P) (w := W) t e i z ht hi hz .i64 .i64 (n : Int) (c : Int) (by omega) (by omega) hb h63
  rw [Int.toNat_natCast, Int.toNat_natCast] at hr
  unfold execOp
  rw [ho]
  simp only [hx, hy, Sem.run_bind, hr, Result.andThen_ok]
  rfl
end
theorem made_words (W : World) (c : Nat) : Wd (W.alloc (.cells (madeCells #[.int .u64 0] c) 70)) W.heap.size (List.replicate c 0) := by
  unfold Wd
  rw [(MapKept.heap_alloc W _).1]
  congr 2
  apply Array.ext (by simp [size_madeCells])
  intro i h1 h2
  simp [madeCells, Nat.mod_one]
/-- A new row of words. -/
theorem mk_words (W : World) (ρ : Operand → Value) (o : Oper) (x y : Operand) (n c : Nat) (hn : n ≤ c) (hc : c < 1000000) (ho : o.op = .makeSlice 47 x y) (hx : ρ x = .int .i64 (n : Int)) (hy : ρ y = .int .i64 (c : Int)) :
    (execOp ρ o).run Try.prog W = .ok (.value (.slice (some ⟨W.heap.size, 0, none⟩) n c)) (W.alloc (.cells (madeCells #[.int .u64 0] c) 70)) := by
  cases hq : Try.prog.info? 70 with
  | none => exact absurd (show (Try.prog.info? 70).isSome = true by kernel_rfl) (by simp [hq])
  | some ie =>
    have h1 : (Try.prog.info? 70).map (fun i => (i.zero, i.size, i.bytes)) = some (some (.int .u64 0), 1, 8) := by kernel_rfl
    rw [hq] at h1
    simp only [Option.map_some, Option.some.injEq, Prod.mk.injEq] at h1
    obtain ⟨hz, hs, hb⟩ := h1
    have := op_mk (P := Try.prog) (W := W) ho hx hy hn Try.underlying47 hq hz (by rw [hb]; omega) (by omega)
    rw [hs, Nat.mul_one] at this
    exact this
/-- The slice types of words. -/
def SlT (t e : TypeId) : Prop := Try.prog.underlying t = some (.slice e) ∧ ∀ w, (Go.sizeOf e).run Try.prog w = .ok 1 w
theorem sltNat : SlT 47 70 := ⟨Try.underlying47, Try.sizeOf70⟩
theorem sltBytes : SlT 25 5 := ⟨Try.underlying25, Try.sizeOf5⟩
section
variable {ρ : Operand → Value} {o : Oper} {W : World} {t e : TypeId} {x y z : Operand} {A : Option Addr} {n c l h : Nat}
/-- Where a slice begins when it is cut at l. -/
def cutA (A : Option Addr) (c l : Nat) : Option Addr := if c = l then A else A.map (·.add (l * 1))
theorem cutA_zero : cutA A c 0 = A := by
  unfold cutA
  split
  · rfl
  · cases A <;> simp [Addr.add]
theorem cutA_some (g i : Nat) (hl : l < c) : cutA (some ⟨g, i, none⟩) c l = some ⟨g, i + l, none⟩ := by
  unfold cutA
  rw [if_neg (by omega)]
  simp [addr_add]
theorem op_slh (ho : o.op = .slice t x none (some y) none) (hT : SlT t e) (hx : ρ x = .slice A n c) (hy : ρ y = .int .i64 (h : Int)) (hc : h ≤ c) : (execOp ρ o).run Try.prog W = .ok (.value (.slice A h c)) W := by
  have ht' : Try.prog.underlying t = some (.slice (Try.prog.elem t)) := by simp [Program.elem, hT.1]
  have he' : Try.prog.elem t = e := by simp [Program.elem, hT.1]
  refine op_slice ho ?_
  simp only [Option.map_none, Option.map_some, hx, hy]
  rw [run_sliceAt_slice _ _ _ _ _ _ ht', run_slice_h W _ _ _ _ ht' .i64 _ (by omega) (by omega), he', hT.2]
  have := cutA_zero (A := A) (c := c)
  unfold cutA at this
  simp only [Result.andThen, sliced, Int.toNat_natCast, Nat.sub_zero]
  rw [this]
theorem op_sllh (ho : o.op = .slice t x (some y) (some z) none) (hT : SlT t e) (hx : ρ x = .slice A n c) (hy : ρ y = .int .i64 (l : Int)) (hz : ρ z = .int .i64 (h : Int)) (hl : l ≤ h) (hc : h ≤ c) : (execOp ρ o).run Try.prog W = .ok (.value (.slice (cutA A c l) (h - l) (c - l))) W := by
  have ht' : Try.prog.underlying t = some (.slice (Try.prog.elem t)) := by simp [Program.elem, hT.1]
  have he' : Try.prog.elem t = e := by simp [Program.elem, hT.1]
  refine op_slice ho ?_
  simp only [Option.map_some, hx, hy, hz]
  rw [run_sliceAt_slice _ _ _ _ _ _ ht', run_slice_lh W _ _ _ _ ht' .i64 .i64 _ _ (by omega) (by omega) (by omega), he', hT.2]
  simp only [Result.andThen, sliced, Int.toNat_natCast]
  rfl
theorem op_sll (ho : o.op = .slice t x (some y) none none) (hT : SlT t e) (hx : ρ x = .slice A n c) (hy : ρ y = .int .i64 (l : Int)) (hl : l ≤ n) : (execOp ρ o).run Try.prog W = .ok (.value (.slice (cutA A c l) (n - l) (c - l))) W := by
  have ht' : Try.prog.underlying t = some (.slice (Try.prog.elem t)) := by simp [Program.elem, hT.1]
  have he' : Try.prog.elem t = e := by simp [Program.elem, hT.1]
  refine op_slice ho ?_
  simp only [Option.map_none, Option.map_some, hx, hy]
  rw [run_sliceAt_slice _ _ _ _ _ _ ht', run_slice_l W _ _ _ _ ht' .i64 _ (by omega) (by omega), he', hT.2]
  simp only [Result.andThen, sliced, Int.toNat_natCast]
  rfl
end
end Go.Proofs.Ytjmgiodkfgdgnaa.PAll
namespace Go.Proofs.Ytjmgiodkfgdgnaa.PAll
open Go.RowKit Go.Proofs.YtjmgiodkfgdgnaaW.PrintWords Go.Proofs.YtjmgiodkfgdgnaaW.PrintLast Go.Proofs.YtjmgiodkfgdgnaaW.PrintMore
set_option linter.unusedVariables false
set_option linter.unusedSimpArgs false
set_option maxHeartbeats 8000000 in
set_option maxRecDepth 100000 in
theorem make_keep (A : Option Addr) (m n c : Nat) (hc : n ≤ c) (w : World) :
    Calls Try.prog 44 #[.slice A m c, .int .i64 ((n : Nat) : Int)] w fun e w' => e = .returned (.slice A n c) ∧ w' = w := by
  refine calls_of_wp Try.func44 rfl ?_
  have h0 := has_two (β := bn []) (.v (.slice A m c)) (.v (.int .i64 ((n : Nat) : Int))) 17
  have d0 : (⟨#[.slice A m c, .int .i64 ((n : Nat) : Int)] ++ Array.replicate 17 undef, []⟩ : Act).defers = [] := rfl
  refine wp_seq ?_
  refine wp_region ?_
  refine opsP (N := 19) (T := TT) (M := (fun _ _ => none)) tabOk (fun _ _ _ h => by cases h) [] [0] [(0, .v (.slice A m c)), (1, .v (.int .i64 ((n : Nat) : Int))), (4, .v (Value.slice none 0 0))] h0 (by kernel_rfl) ⟨by kernel_rfl, by kernel_rfl, by kernel_rfl, trivial⟩ (fun a1 h1 d1 => ?_)
  replace d1 := d1.trans d0
  clear h0 d0
  show Code.wp _ _ _ _ _
  refine wp_seq ?_
  refine wp_seq ?_
  refine wp_region ?_
  refine opsP (N := 19) (T := TT) (M := (fun _ _ => none)) tabOk (fun _ _ _ h => by cases h) [2, 3] [0, 1] [(0, .v (.slice A m c)), (1, .v (.int .i64 ((n : Nat) : Int))), (4, .v (Value.slice none 0 0)), (5, .v (.int .i64 ((n : Nat) : Int))), (6, .v (.slice A m c))] h1 (by kernel_rfl) ⟨by kernel_rfl, by kernel_rfl, by kernel_rfl, by kernel_rfl, by kernel_rfl, trivial⟩ (fun a2 h2 d2 => ?_)
  replace d2 := d2.trans d1
  clear h1 d1
  refine givenW_ops (N := 19) (i := 2) (d := 7) (s := .v (.int .i64 ((c : Nat) : Int))) (l := [3]) rfl (want_ rfl) rfl (by decide) h2 (op_cap rfl Try.underlying47 (h2.2 6 _ rfl)) (fun a3 h3 d3 => ?_)
  replace d3 := d3.trans d2
  clear h2 d2
  refine opsP (N := 19) (T := TT) (M := (fun _ _ => none)) tabOk (fun _ _ _ h => by cases h) [] [3] [(0, .v (.slice A m c)), (1, .v (.int .i64 ((n : Nat) : Int))), (4, .v (Value.slice none 0 0)), (8, .v (.bool (decide ((((n : Nat) : Int) : Int) ≤ ((c : Nat) : Int)))))] h3 (by kernel_rfl) ⟨by kernel_rfl, by kernel_rfl, by kernel_rfl, by kernel_rfl, trivial⟩ (fun a4 h4 d4 => ?_)
  replace d4 := d4.trans d3
  clear h3 d3
  rw [show (decide ((((n : Nat) : Int) : Int) ≤ ((c : Nat) : Int))) = true from decide_eq_true (by omega)] at h4
  show Code.wp _ _ _ _ _
  refine wp_cond_true (h4.2 8 _ rfl) ?_
  refine wp_seq ?_
  refine wp_region ?_
  refine opsP (N := 19) (T := TT) (M := (fun _ _ => none)) tabOk (fun _ _ _ h => by cases h) [2, 3] [0, 1] [(0, .v (.slice A m c)), (1, .v (.int .i64 ((n : Nat) : Int))), (4, .v (Value.slice none 0 0)), (8, .v (.bool true)), (9, .v (.slice A m c)), (10, .v (.int .i64 ((n : Nat) : Int)))] h4 (by kernel_rfl) ⟨by kernel_rfl, by kernel_rfl, by kernel_rfl, by kernel_rfl, by kernel_rfl, by kernel_rfl, trivial⟩ (fun a5 h5 d5 => ?_)
  replace d5 := d5.trans d4
  clear h4 d4
  refine givenW_ops (N := 19) (i := 2) (d := 11) (s := .v (.slice A n c)) (l := [3]) rfl (want_ rfl) rfl (by decide) h5 (op_slh rfl sltNat (h5.2 9 _ rfl) (h5.2 10 _ rfl) hc) (fun a6 h6 d6 => ?_)
  replace d6 := d6.trans d5
  clear h5 d5
  refine opsP (N := 19) (T := TT) (M := (fun _ _ => none)) tabOk (fun _ _ _ h => by cases h) [] [3] [(0, .v (.slice A m c)), (1, .v (.int .i64 ((n : Nat) : Int))), (4, .v (.slice A n c)), (8, .v (.bool true))] h6 (by kernel_rfl) ⟨by kernel_rfl, by kernel_rfl, by kernel_rfl, by kernel_rfl, trivial⟩ (fun a7 h7 d7 => ?_)
  replace d7 := d7.trans d6
  clear h6 d6
  show Code.wp _ _ _ _ _
  refine wp_ret ?_
  exact ⟨d7, _, results_tmp rfl _ _ _, congrArg Ending.returned (h7.2 4 _ rfl), rfl⟩
theorem i_add4 (n : Nat) (h : n < 1000) : IntKind.i64.wrap (((n : Nat) : Int) + 4) = ((n + 4 : Nat) : Int) := by
  rw [IntKind.wrap_i64]
  omega
set_option maxHeartbeats 8000000 in
set_option maxRecDepth 100000 in
theorem make_one (A : Option Addr) (m c : Nat) (hc : c < 1) (w : World) :
    Calls Try.prog 44 #[.slice A m c, .int .i64 1] w fun e w' => e = .returned (.slice (some ⟨w.heap.size, 0, none⟩) 1 1) ∧ Wd w' w.heap.size (List.replicate 1 0) ∧ Below w.heap.size w w' := by
  refine calls_of_wp Try.func44 rfl ?_
  have h0 := has_two (β := bn []) (.v (.slice A m c)) (.v (.int .i64 1)) 17
  have d0 : (⟨#[.slice A m c, .int .i64 1] ++ Array.replicate 17 undef, []⟩ : Act).defers = [] := rfl
  refine wp_seq ?_
  refine wp_region ?_
  refine opsP (N := 19) (T := TT) (M := (fun _ _ => none)) tabOk (fun _ _ _ h => by cases h) [] [0] [(0, .v (.slice A m c)), (1, .v (.int .i64 1)), (4, .v (Value.slice none 0 0))] h0 (by kernel_rfl) ⟨by kernel_rfl, by kernel_rfl, by kernel_rfl, trivial⟩ (fun a1 h1 d1 => ?_)
  replace d1 := d1.trans d0
  clear h0 d0
  show Code.wp _ _ _ _ _
  refine wp_seq ?_
  refine wp_seq ?_
  refine wp_region ?_
  refine opsP (N := 19) (T := TT) (M := (fun _ _ => none)) tabOk (fun _ _ _ h => by cases h) [2, 3] [0, 1] [(0, .v (.slice A m c)), (1, .v (.int .i64 1)), (4, .v (Value.slice none 0 0)), (5, .v (.int .i64 1)), (6, .v (.slice A m c))] h1 (by kernel_rfl) ⟨by kernel_rfl, by kernel_rfl, by kernel_rfl, by kernel_rfl, by kernel_rfl, trivial⟩ (fun a2 h2 d2 => ?_)
  replace d2 := d2.trans d1
  clear h1 d1
  refine givenW_ops (N := 19) (i := 2) (d := 7) (s := .v (.int .i64 ((c : Nat) : Int))) (l := [3]) rfl (want_ rfl) rfl (by decide) h2 (op_cap rfl Try.underlying47 (h2.2 6 _ rfl)) (fun a3 h3 d3 => ?_)
  replace d3 := d3.trans d2
  clear h2 d2
  refine opsP (N := 19) (T := TT) (M := (fun _ _ => none)) tabOk (fun _ _ _ h => by cases h) [] [3] [(0, .v (.slice A m c)), (1, .v (.int .i64 1)), (4, .v (Value.slice none 0 0)), (8, .v (.bool (decide ((1 : Int) ≤ ((c : Nat) : Int)))))] h3 (by kernel_rfl) ⟨by kernel_rfl, by kernel_rfl, by kernel_rfl, by kernel_rfl, trivial⟩ (fun a4 h4 d4 => ?_)
  replace d4 := d4.trans d3
  clear h3 d3
  rw [show (decide ((1 : Int) ≤ ((c : Nat) : Int))) = false from decide_eq_false (by omega)] at h4
  show Code.wp _ _ _ _ _
  refine wp_cond_false (h4.2 8 _ rfl) ?_
  refine wp_skip ?_
  show Code.wp _ _ _ _ _
  refine wp_seq ?_
  refine wp_seq ?_
  refine wp_region ?_
  refine opsP (N := 19) (T := TT) (M := (fun _ _ => none)) tabOk (fun _ _ _ h => by cases h) [] [0, 1] [(0, .v (.slice A m c)), (1, .v (.int .i64 1)), (4, .v (Value.slice none 0 0)), (8, .v (.bool false)), (13, .v (.bool true))] h4 (by kernel_rfl) ⟨by kernel_rfl, by kernel_rfl, by kernel_rfl, by kernel_rfl, by kernel_rfl, trivial⟩ (fun a5 h5 d5 => ?_)
  replace d5 := d5.trans d4
  clear h4 d4
  show Code.wp _ _ _ _ _
  refine wp_cond_true (h5.2 13 _ rfl) ?_
  refine wp_seq ?_
  refine wp_region ?_
  refine new_ops (N := 19) (i := 0) (d := 14) (l := [1]) rfl rfl rfl (by decide) h5 (mk_words w _ _ _ _ 1 1 (by decide) (by decide) rfl rfl rfl) (fun a6 h6 d6 => ?_)
  replace d6 := d6.trans d5
  clear h5 d5
  refine opsP (N := 19) (T := TT) (M := (fun _ _ => none)) tabOk (fun _ _ _ h => by cases h) [] [1] [(0, .v (.slice A m c)), (1, .v (.int .i64 1)), (4, .v (.slice (some ⟨w.heap.size, 0, none⟩) 1 1)), (8, .v (.bool false)), (13, .v (.bool true))] h6 (by kernel_rfl) ⟨by kernel_rfl, by kernel_rfl, by kernel_rfl, by kernel_rfl, by kernel_rfl, trivial⟩ (fun a7 h7 d7 => ?_)
  replace d7 := d7.trans d6
  clear h6 d6
  show Code.wp _ _ _ _ _
  refine wp_ret ?_
  exact ⟨d7, _, results_tmp rfl _ _ _, congrArg Ending.returned (h7.2 4 _ rfl), made_words w 1, (Below.refl w.heap.size w).alloc (Nat.le_refl _) _⟩
set_option maxHeartbeats 8000000 in
set_option maxRecDepth 100000 in
theorem make_more (A : Option Addr) (m n c : Nat) (hc : c < n) (h1 : n ≠ 1) (hn : n < 1000) (w : World) :
    Calls Try.prog 44 #[.slice A m c, .int .i64 ((n : Nat) : Int)] w fun e w' => e = .returned (.slice (some ⟨w.heap.size, 0, none⟩) n (n + 4)) ∧ Wd w' w.heap.size (List.replicate (n + 4) 0) ∧ Below w.heap.size w w' := by
  refine calls_of_wp Try.func44 rfl ?_
  have h0 := has_two (β := bn []) (.v (.slice A m c)) (.v (.int .i64 ((n : Nat) : Int))) 17
  have d0 : (⟨#[.slice A m c, .int .i64 ((n : Nat) : Int)] ++ Array.replicate 17 undef, []⟩ : Act).defers = [] := rfl
  refine wp_seq ?_
  refine wp_region ?_
  refine opsP (N := 19) (T := TT) (M := (fun _ _ => none)) tabOk (fun _ _ _ h => by cases h) [] [0] [(0, .v (.slice A m c)), (1, .v (.int .i64 ((n : Nat) : Int))), (4, .v (Value.slice none 0 0))] h0 (by kernel_rfl) ⟨by kernel_rfl, by kernel_rfl, by kernel_rfl, trivial⟩ (fun a1 h1 d1 => ?_)
  replace d1 := d1.trans d0
  clear h0 d0
  show Code.wp _ _ _ _ _
  refine wp_seq ?_
  refine wp_seq ?_
  refine wp_region ?_
  refine opsP (N := 19) (T := TT) (M := (fun _ _ => none)) tabOk (fun _ _ _ h => by cases h) [2, 3] [0, 1] [(0, .v (.slice A m c)), (1, .v (.int .i64 ((n : Nat) : Int))), (4, .v (Value.slice none 0 0)), (5, .v (.int .i64 ((n : Nat) : Int))), (6, .v (.slice A m c))] h1 (by kernel_rfl) ⟨by kernel_rfl, by kernel_rfl, by kernel_rfl, by kernel_rfl, by kernel_rfl, trivial⟩ (fun a2 h2 d2 => ?_)
  replace d2 := d2.trans d1
  clear h1 d1
  refine givenW_ops (N := 19) (i := 2) (d := 7) (s := .v (.int .i64 ((c : Nat) : Int))) (l := [3]) rfl (want_ rfl) rfl (by decide) h2 (op_cap rfl Try.underlying47 (h2.2 6 _ rfl)) (fun a3 h3 d3 => ?_)
  replace d3 := d3.trans d2
  clear h2 d2
  refine opsP (N := 19) (T := TT) (M := (fun _ _ => none)) tabOk (fun _ _ _ h => by cases h) [] [3] [(0, .v (.slice A m c)), (1, .v (.int .i64 ((n : Nat) : Int))), (4, .v (Value.slice none 0 0)), (8, .v (.bool (decide ((((n : Nat) : Int) : Int) ≤ ((c : Nat) : Int)))))] h3 (by kernel_rfl) ⟨by kernel_rfl, by kernel_rfl, by kernel_rfl, by kernel_rfl, trivial⟩ (fun a4 h4 d4 => ?_)
  replace d4 := d4.trans d3
  clear h3 d3
  rw [show (decide ((((n : Nat) : Int) : Int) ≤ ((c : Nat) : Int))) = false from decide_eq_false (by omega)] at h4
  show Code.wp _ _ _ _ _
  refine wp_cond_false (h4.2 8 _ rfl) ?_
  refine wp_skip ?_
  show Code.wp _ _ _ _ _
  refine wp_seq ?_
  refine wp_seq ?_
  refine wp_region ?_
  refine opsP (N := 19) (T := TT) (M := (fun _ _ => none)) tabOk (fun _ _ _ h => by cases h) [] [0, 1] [(0, .v (.slice A m c)), (1, .v (.int .i64 ((n : Nat) : Int))), (4, .v (Value.slice none 0 0)), (8, .v (.bool false)), (13, .v (.bool ((((n : Nat) : Int) : Int) == 1)))] h4 (by kernel_rfl) ⟨by kernel_rfl, by kernel_rfl, by kernel_rfl, by kernel_rfl, by kernel_rfl, trivial⟩ (fun a5 h5 d5 => ?_)
  replace d5 := d5.trans d4
  clear h4 d4
  rw [show ((((n : Nat) : Int) : Int) == 1) = false from beq_eq_false_iff_ne.mpr (by omega)] at h5
  show Code.wp _ _ _ _ _
  refine wp_cond_false (h5.2 13 _ rfl) ?_
  refine wp_skip ?_
  show Code.wp _ _ _ _ _
  refine wp_seq ?_
  refine wp_region ?_
  refine opsP (N := 19) (T := TT) (M := (fun _ _ => none)) tabOk (fun _ _ _ h => by cases h) [3, 4] [0, 1, 2] [(0, .v (.slice A m c)), (1, .v (.int .i64 ((n : Nat) : Int))), (4, .v (Value.slice none 0 0)), (8, .v (.bool false)), (13, .v (.bool false)), (15, .v (.int .i64 ((n : Nat) : Int))), (16, .v (.int .i64 ((n : Nat) : Int))), (17, .v (.int .i64 (IntKind.i64.wrap (((n : Nat) : Int) + 4))))] h5 (by kernel_rfl) ⟨by kernel_rfl, by kernel_rfl, by kernel_rfl, by kernel_rfl, by kernel_rfl, by kernel_rfl, by kernel_rfl, by kernel_rfl, trivial⟩ (fun a6 h6 d6 => ?_)
  replace d6 := d6.trans d5
  clear h5 d5
  rw [show (IntKind.i64.wrap (((n : Nat) : Int) + 4)) = ((n + 4 : Nat) : Int) from i_add4 n (by omega)] at h6
  refine new_ops (N := 19) (i := 3) (d := 18) (l := [4]) rfl rfl rfl (by decide) h6 (mk_words w _ _ _ _ n (n + 4) (by omega) (by omega) rfl (h6.2 15 _ rfl) (h6.2 17 _ rfl)) (fun a7 h7 d7 => ?_)
  replace d7 := d7.trans d6
  clear h6 d6
  refine opsP (N := 19) (T := TT) (M := (fun _ _ => none)) tabOk (fun _ _ _ h => by cases h) [] [4] [(0, .v (.slice A m c)), (1, .v (.int .i64 ((n : Nat) : Int))), (4, .v (.slice (some ⟨w.heap.size, 0, none⟩) n (n + 4))), (8, .v (.bool false)), (13, .v (.bool false))] h7 (by kernel_rfl) ⟨by kernel_rfl, by kernel_rfl, by kernel_rfl, by kernel_rfl, by kernel_rfl, trivial⟩ (fun a8 h8 d8 => ?_)
  replace d8 := d8.trans d7
  clear h7 d7
  show Code.wp _ _ _ _ _
  refine wp_ret ?_
  exact ⟨d8, _, results_tmp rfl _ _ _, congrArg Ending.returned (h8.2 4 _ rfl), made_words w (n + 4), (Below.refl w.heap.size w).alloc (Nat.le_refl _) _⟩
set_option maxHeartbeats 8000000 in
set_option maxRecDepth 100000 in
theorem setWord_zero (w : World) :
    Calls Try.prog 51 #[.slice none 0 0, .int .u64 0] w fun e w' => e = .returned (.slice none 0 0) ∧ w' = w := by
  refine calls_of_wp Try.func51 rfl ?_
  have h0 := has_two (β := bn []) (.v (.slice none 0 0)) (.v (.int .u64 0)) 13
  have d0 : (⟨#[.slice none 0 0, .int .u64 0] ++ Array.replicate 13 undef, []⟩ : Act).defers = [] := rfl
  refine wp_seq ?_
  refine wp_region ?_
  refine opsP (N := 15) (T := TT) (M := (fun _ _ => none)) tabOk (fun _ _ _ h => by cases h) [] [0] [(0, .v (.slice none 0 0)), (1, .v (.int .u64 0)), (4, .v (Value.slice none 0 0))] h0 (by kernel_rfl) ⟨by kernel_rfl, by kernel_rfl, by kernel_rfl, trivial⟩ (fun a1 h1 d1 => ?_)
  replace d1 := d1.trans d0
  clear h0 d0
  show Code.wp _ _ _ _ _
  refine wp_seq ?_
  refine wp_seq ?_
  refine wp_region ?_
  refine opsP (N := 15) (T := TT) (M := (fun _ _ => none)) tabOk (fun _ _ _ h => by cases h) [] [0, 1] [(0, .v (.slice none 0 0)), (1, .v (.int .u64 0)), (4, .v (Value.slice none 0 0)), (6, .v (.bool true))] h1 (by kernel_rfl) ⟨by kernel_rfl, by kernel_rfl, by kernel_rfl, by kernel_rfl, trivial⟩ (fun a2 h2 d2 => ?_)
  replace d2 := d2.trans d1
  clear h1 d1
  show Code.wp _ _ _ _ _
  refine wp_cond_true (h2.2 6 _ rfl) ?_
  refine wp_seq ?_
  refine wp_region ?_
  refine opsP (N := 15) (T := TT) (M := (fun _ _ => none)) tabOk (fun _ _ _ h => by cases h) [1, 2] [0] [(0, .v (.slice none 0 0)), (1, .v (.int .u64 0)), (4, .v (Value.slice none 0 0)), (6, .v (.bool true)), (7, .v (.slice none 0 0))] h2 (by kernel_rfl) ⟨by kernel_rfl, by kernel_rfl, by kernel_rfl, by kernel_rfl, by kernel_rfl, trivial⟩ (fun a3 h3 d3 => ?_)
  replace d3 := d3.trans d2
  clear h2 d2
  refine givenW_ops (N := 15) (i := 1) (d := 8) (s := .v (.slice none 0 0)) (l := [2]) rfl (want_ rfl) rfl (by decide) h3 (op_slh (h := 0) rfl sltNat (h3.2 7 _ rfl) rfl (by decide)) (fun a4 h4 d4 => ?_)
  replace d4 := d4.trans d3
  clear h3 d3
  refine opsP (N := 15) (T := TT) (M := (fun _ _ => none)) tabOk (fun _ _ _ h => by cases h) [] [2] [(0, .v (.slice none 0 0)), (1, .v (.int .u64 0)), (4, .v (.slice none 0 0)), (6, .v (.bool true))] h4 (by kernel_rfl) ⟨by kernel_rfl, by kernel_rfl, by kernel_rfl, by kernel_rfl, trivial⟩ (fun a5 h5 d5 => ?_)
  replace d5 := d5.trans d4
  clear h4 d4
  show Code.wp _ _ _ _ _
  refine wp_ret ?_
  exact ⟨d5, _, results_tmp rfl _ _ _, congrArg Ending.returned (h5.2 4 _ rfl), rfl⟩
set_option maxHeartbeats 8000000 in
set_option maxRecDepth 100000 in
theorem setWord_nil (x : Int) (hx : x ≠ 0) (w : World) :
    Calls Try.prog 51 #[.slice none 0 0, .int .u64 x] w fun e w' => e = .returned (.slice (some ⟨w.heap.size, 0, none⟩) 1 1) ∧ Wd w' w.heap.size [x] ∧ Below w.heap.size w w' := by
  refine calls_of_wp Try.func51 rfl ?_
  have h0 := has_two (β := bn []) (.v (.slice none 0 0)) (.v (.int .u64 x)) 13
  have d0 : (⟨#[.slice none 0 0, .int .u64 x] ++ Array.replicate 13 undef, []⟩ : Act).defers = [] := rfl
  refine wp_seq ?_
  refine wp_region ?_
  refine opsP (N := 15) (T := TT) (M := (fun _ _ => none)) tabOk (fun _ _ _ h => by cases h) [] [0] [(0, .v (.slice none 0 0)), (1, .v (.int .u64 x)), (4, .v (Value.slice none 0 0))] h0 (by kernel_rfl) ⟨by kernel_rfl, by kernel_rfl, by kernel_rfl, trivial⟩ (fun a1 h1 d1 => ?_)
  replace d1 := d1.trans d0
  clear h0 d0
  show Code.wp _ _ _ _ _
  refine wp_seq ?_
  refine wp_seq ?_
  refine wp_region ?_
  refine opsP (N := 15) (T := TT) (M := (fun _ _ => none)) tabOk (fun _ _ _ h => by cases h) [] [0, 1] [(0, .v (.slice none 0 0)), (1, .v (.int .u64 x)), (4, .v (Value.slice none 0 0)), (6, .v (.bool ((x : Int) == 0)))] h1 (by kernel_rfl) ⟨by kernel_rfl, by kernel_rfl, by kernel_rfl, by kernel_rfl, trivial⟩ (fun a2 h2 d2 => ?_)
  replace d2 := d2.trans d1
  clear h1 d1
  rw [show ((x : Int) == 0) = false from beq_eq_false_iff_ne.mpr hx] at h2
  show Code.wp _ _ _ _ _
  refine wp_cond_false (h2.2 6 _ rfl) ?_
  refine wp_skip ?_
  show Code.wp _ _ _ _ _
  refine wp_seq ?_
  refine wp_region ?_
  refine opsP (N := 15) (T := TT) (M := (fun _ _ => none)) tabOk (fun _ _ _ h => by cases h) [1, 2] [0] [(0, .v (.slice none 0 0)), (1, .v (.int .u64 x)), (4, .v (Value.slice none 0 0)), (6, .v (.bool false)), (9, .v (.slice none 0 0))] h2 (by kernel_rfl) ⟨by kernel_rfl, by kernel_rfl, by kernel_rfl, by kernel_rfl, by kernel_rfl, trivial⟩ (fun a3 h3 d3 => ?_)
  replace d3 := d3.trans d2
  clear h2 d2
  refine callW_ops (N := 15) (i := 1) (d := 10) (f := 44) (args := [.v (.slice none 0 0), .v (.int .i64 1)]) (l := [2]) rfl (want_ rfl) rfl (by decide) h3 Try.func44 rfl rfl rfl (by kernel_rfl) (fun v W' => v = .slice (some ⟨w.heap.size, 0, none⟩) 1 1 ∧ Wd W' w.heap.size [0] ∧ Below w.heap.size w W') ((make_one none 0 0 (by decide) w).mono fun e w' hh => ⟨_, hh.1, rfl, hh.2⟩) (fun v4 W4 a4 hR4 h4 d4 => ?_)
  replace d4 := d4.trans d3
  clear h3 d3
  obtain ⟨rfl, hw4, B4⟩ := hR4
  refine opsP (N := 15) (T := TT) (M := (fun _ _ => none)) tabOk (fun _ _ _ h => by cases h) [] [2] [(0, .v (.slice (some ⟨w.heap.size, 0, none⟩) 1 1)), (1, .v (.int .u64 x)), (4, .v (Value.slice none 0 0)), (6, .v (.bool false))] h4 (by kernel_rfl) ⟨by kernel_rfl, by kernel_rfl, by kernel_rfl, by kernel_rfl, trivial⟩ (fun a5 h5 d5 => ?_)
  replace d5 := d5.trans d4
  clear h4 d4
  show Code.wp _ _ _ _ _
  have hst := hw4.set 0 x
  have hfr := (Fr.ofBelow [w.heap.size] B4).trans (Fr.setc w.heap.size 0 (.int .u64 x))
  refine wp_seq ?_
  refine wp_region ?_
  refine opsP (N := 15) (T := TT) (M := (fun _ _ => none)) tabOk (fun _ _ _ h => by cases h) [2, 3] [0, 1] [(0, .v (.slice (some ⟨w.heap.size, 0, none⟩) 1 1)), (1, .v (.int .u64 x)), (4, .v (Value.slice none 0 0)), (6, .v (.bool false)), (11, .v (.slice (some ⟨w.heap.size, 0, none⟩) 1 1)), (12, .v (.int .u64 x))] h5 (by kernel_rfl) ⟨by kernel_rfl, by kernel_rfl, by kernel_rfl, by kernel_rfl, by kernel_rfl, by kernel_rfl, trivial⟩ (fun a6 h6 d6 => ?_)
  replace d6 := d6.trans d5
  clear h5 d5
  refine givenW_ops (N := 15) (i := 2) (d := 13) (s := .v (.pointer (some ⟨w.heap.size, 0, none⟩))) (l := [3]) rfl (want_ rfl) rfl (by decide) h6 ((op_indexE (j := 0) rfl (h6.2 11 _ rfl) rfl Try.underlying47 Try.sizeOf70 (by decide)).trans rfl) (fun a7 h7 d7 => ?_)
  replace d7 := d7.trans d6
  clear h6 d6
  refine st_ops (i := 3) (l := []) rfl rfl rfl (op_store rfl (h7.2 13 _ rfl) (h7.2 12 _ rfl) (Or.inl ⟨_, _, rfl⟩) Try.sizeOf70 (hw4.cell (i := 0) (by decide)) (hw4.frozen 0)) ?_
  show Code.wp _ _ _ _ _
  refine wp_seq ?_
  refine wp_region ?_
  refine opsP (N := 15) (T := TT) (M := (fun _ _ => none)) tabOk (fun _ _ _ h => by cases h) [] [0, 1] [(0, .v (.slice (some ⟨w.heap.size, 0, none⟩) 1 1)), (1, .v (.int .u64 x)), (4, .v (.slice (some ⟨w.heap.size, 0, none⟩) 1 1)), (6, .v (.bool false)), (11, .v (.slice (some ⟨w.heap.size, 0, none⟩) 1 1)), (12, .v (.int .u64 x)), (13, .v (.pointer (some ⟨w.heap.size, 0, none⟩)))] h7 (by kernel_rfl) ⟨by kernel_rfl, by kernel_rfl, by kernel_rfl, by kernel_rfl, by kernel_rfl, by kernel_rfl, by kernel_rfl, trivial⟩ (fun a8 h8 d8 => ?_)
  replace d8 := d8.trans d7
  clear h7 d7
  show Code.wp _ _ _ _ _
  refine wp_ret ?_
  exact ⟨d8, _, results_tmp rfl _ _ _, congrArg Ending.returned (h8.2 4 _ rfl), hst, hfr.below _ (Nat.le_refl _) (by simp)⟩
end Go.Proofs.Ytjmgiodkfgdgnaa.PAll
namespace Go.Proofs.Ytjmgiodkfgdgnaa.PAll
open Go.RowKit Go.Proofs.YtjmgiodkfgdgnaaW.PrintWords Go.Proofs.YtjmgiodkfgdgnaaW.PrintLast Go.Proofs.YtjmgiodkfgdgnaaW.PrintMore
set_option linter.unusedVariables false
set_option linter.unusedSimpArgs false
theorem op_fAbs {ρ : Operand → Value} {o : Oper} {W : World} {x : Operand} {p : Nat} (ho : o.op = .fieldAddr 49 x 1) (hx : ρ x = .pointer (some ⟨p, 0, none⟩)) : (execOp ρ o).run Try.prog W = .ok (.value (.pointer (some ⟨p, 1, none⟩))) W :=
  (op_field (n := 0) ho hx Try.underlying49 rfl Try.sizeOf47).trans rfl
theorem op_fNeg {ρ : Operand → Value} {o : Oper} {W : World} {x : Operand} {p : Nat} (ho : o.op = .fieldAddr 49 x 0) (hx : ρ x = .pointer (some ⟨p, 0, none⟩)) : (execOp ρ o).run Try.prog W = .ok (.value (.pointer (some ⟨p, 0, none⟩))) W :=
  (op_field (n := 0) ho hx Try.underlying49 rfl Try.sizeOf4).trans rfl
theorem self_eq (x : Int) : ((x : Int) == x) = true := beq_self_eq_true x
set_option maxHeartbeats 8000000 in
set_option maxRecDepth 100000 in
theorem setU_zero (w : World) :
    Calls Try.prog 38 #[.slice none 0 0, .int .u64 0] w fun e w' => e = .returned (.slice none 0 0) ∧ w' = w := by
  refine calls_of_wp Try.func38 rfl ?_
  have h0 := has_two (β := bn []) (.v (.slice none 0 0)) (.v (.int .u64 0)) 21
  have d0 : (⟨#[.slice none 0 0, .int .u64 0] ++ Array.replicate 21 undef, []⟩ : Act).defers = [] := rfl
  refine wp_seq ?_
  refine wp_region ?_
  refine opsP (N := 23) (T := TT) (M := (fun _ _ => none)) tabOk (fun _ _ _ h => by cases h) [] [0] [(0, .v (.slice none 0 0)), (1, .v (.int .u64 0)), (4, .v (Value.slice none 0 0))] h0 (by kernel_rfl) ⟨by kernel_rfl, by kernel_rfl, by kernel_rfl, trivial⟩ (fun a1 h1 d1 => ?_)
  replace d1 := d1.trans d0
  clear h0 d0
  show Code.wp _ _ _ _ _
  refine wp_seq ?_
  refine wp_seq ?_
  refine wp_region ?_
  refine opsP (N := 23) (T := TT) (M := (fun _ _ => none)) tabOk (fun _ _ _ h => by cases h) [] [0, 1] [(0, .v (.slice none 0 0)), (1, .v (.int .u64 0)), (4, .v (Value.slice none 0 0)), (5, .v (.int .u64 0))] h1 (by kernel_rfl) ⟨by kernel_rfl, by kernel_rfl, by kernel_rfl, by kernel_rfl, trivial⟩ (fun a2 h2 d2 => ?_)
  replace d2 := d2.trans d1
  clear h1 d1
  show Code.wp _ _ _ _ _
  refine wp_seq ?_
  refine wp_region ?_
  refine opsP (N := 23) (T := TT) (M := (fun _ _ => none)) tabOk (fun _ _ _ h => by cases h) [] [0, 1, 2] [(0, .v (.slice none 0 0)), (1, .v (.int .u64 0)), (4, .v (Value.slice none 0 0)), (5, .v (.int .u64 0)), (9, .v (.bool true))] h2 (by kernel_rfl) ⟨by kernel_rfl, by kernel_rfl, by kernel_rfl, by kernel_rfl, by kernel_rfl, trivial⟩ (fun a3 h3 d3 => ?_)
  replace d3 := d3.trans d2
  clear h2 d2
  show Code.wp _ _ _ _ _
  refine wp_cond_true (h3.2 9 _ rfl) ?_
  refine wp_seq ?_
  refine wp_region ?_
  refine opsP (N := 23) (T := TT) (M := (fun _ _ => none)) tabOk (fun _ _ _ h => by cases h) [2, 3] [0, 1] [(0, .v (.slice none 0 0)), (1, .v (.int .u64 0)), (4, .v (Value.slice none 0 0)), (5, .v (.int .u64 0)), (9, .v (.bool true)), (10, .v (.slice none 0 0)), (11, .v (.int .u64 0))] h3 (by kernel_rfl) ⟨by kernel_rfl, by kernel_rfl, by kernel_rfl, by kernel_rfl, by kernel_rfl, by kernel_rfl, by kernel_rfl, trivial⟩ (fun a4 h4 d4 => ?_)
  replace d4 := d4.trans d3
  clear h3 d3
  refine callW_ops (N := 23) (i := 2) (d := 12) (f := 51) (args := [.v (.slice none 0 0), .v (.int .u64 0)]) (l := [3]) rfl (want_ rfl) rfl (by decide) h4 Try.func51 rfl rfl rfl (by kernel_rfl) (fun v W' => v = .slice none 0 0 ∧ W' = w) ((setWord_zero w).mono fun e w' hh => ⟨_, hh.1, rfl, hh.2⟩) (fun v5 W5 a5 hR5 h5 d5 => ?_)
  replace d5 := d5.trans d4
  clear h4 d4
  obtain ⟨rfl, rfl⟩ := hR5
  refine opsP (N := 23) (T := TT) (M := (fun _ _ => none)) tabOk (fun _ _ _ h => by cases h) [] [3] [(0, .v (.slice none 0 0)), (1, .v (.int .u64 0)), (4, .v (.slice none 0 0)), (5, .v (.int .u64 0)), (9, .v (.bool true))] h5 (by kernel_rfl) ⟨by kernel_rfl, by kernel_rfl, by kernel_rfl, by kernel_rfl, by kernel_rfl, trivial⟩ (fun a6 h6 d6 => ?_)
  replace d6 := d6.trans d5
  clear h5 d5
  show Code.wp _ _ _ _ _
  refine wp_ret ?_
  exact ⟨d6, _, results_tmp rfl _ _ _, congrArg Ending.returned (h6.2 4 _ rfl), rfl⟩
set_option maxHeartbeats 8000000 in
set_option maxRecDepth 100000 in
theorem setU_nil (x : Int) (hx : x ≠ 0) (w : World) :
    Calls Try.prog 38 #[.slice none 0 0, .int .u64 x] w fun e w' => e = .returned (.slice (some ⟨w.heap.size, 0, none⟩) 1 1) ∧ Wd w' w.heap.size [x] ∧ Below w.heap.size w w' := by
  refine calls_of_wp Try.func38 rfl ?_
  have h0 := has_two (β := bn []) (.v (.slice none 0 0)) (.v (.int .u64 x)) 21
  have d0 : (⟨#[.slice none 0 0, .int .u64 x] ++ Array.replicate 21 undef, []⟩ : Act).defers = [] := rfl
  refine wp_seq ?_
  refine wp_region ?_
  refine opsP (N := 23) (T := TT) (M := (fun _ _ => none)) tabOk (fun _ _ _ h => by cases h) [] [0] [(0, .v (.slice none 0 0)), (1, .v (.int .u64 x)), (4, .v (Value.slice none 0 0))] h0 (by kernel_rfl) ⟨by kernel_rfl, by kernel_rfl, by kernel_rfl, trivial⟩ (fun a1 h1 d1 => ?_)
  replace d1 := d1.trans d0
  clear h0 d0
  show Code.wp _ _ _ _ _
  refine wp_seq ?_
  refine wp_seq ?_
  refine wp_region ?_
  refine opsP (N := 23) (T := TT) (M := (fun _ _ => none)) tabOk (fun _ _ _ h => by cases h) [] [0, 1] [(0, .v (.slice none 0 0)), (1, .v (.int .u64 x)), (4, .v (Value.slice none 0 0)), (5, .v (.int .u64 x))] h1 (by kernel_rfl) ⟨by kernel_rfl, by kernel_rfl, by kernel_rfl, by kernel_rfl, trivial⟩ (fun a2 h2 d2 => ?_)
  replace d2 := d2.trans d1
  clear h1 d1
  show Code.wp _ _ _ _ _
  refine wp_seq ?_
  refine wp_region ?_
  refine opsP (N := 23) (T := TT) (M := (fun _ _ => none)) tabOk (fun _ _ _ h => by cases h) [] [0, 1, 2] [(0, .v (.slice none 0 0)), (1, .v (.int .u64 x)), (4, .v (Value.slice none 0 0)), (5, .v (.int .u64 x)), (9, .v (.bool ((x : Int) == x)))] h2 (by kernel_rfl) ⟨by kernel_rfl, by kernel_rfl, by kernel_rfl, by kernel_rfl, by kernel_rfl, trivial⟩ (fun a3 h3 d3 => ?_)
  replace d3 := d3.trans d2
  clear h2 d2
  rw [show ((x : Int) == x) = true from self_eq x] at h3
  show Code.wp _ _ _ _ _
  refine wp_cond_true (h3.2 9 _ rfl) ?_
  refine wp_seq ?_
  refine wp_region ?_
  refine opsP (N := 23) (T := TT) (M := (fun _ _ => none)) tabOk (fun _ _ _ h => by cases h) [2, 3] [0, 1] [(0, .v (.slice none 0 0)), (1, .v (.int .u64 x)), (4, .v (Value.slice none 0 0)), (5, .v (.int .u64 x)), (9, .v (.bool true)), (10, .v (.slice none 0 0)), (11, .v (.int .u64 x))] h3 (by kernel_rfl) ⟨by kernel_rfl, by kernel_rfl, by kernel_rfl, by kernel_rfl, by kernel_rfl, by kernel_rfl, by kernel_rfl, trivial⟩ (fun a4 h4 d4 => ?_)
  replace d4 := d4.trans d3
  clear h3 d3
  refine callW_ops (N := 23) (i := 2) (d := 12) (f := 51) (args := [.v (.slice none 0 0), .v (.int .u64 x)]) (l := [3]) rfl (want_ rfl) rfl (by decide) h4 Try.func51 rfl rfl rfl (by kernel_rfl) (fun v W' => v = .slice (some ⟨w.heap.size, 0, none⟩) 1 1 ∧ Wd W' w.heap.size [x] ∧ Below w.heap.size w W') ((setWord_nil x hx w).mono fun e w' hh => ⟨_, hh.1, rfl, hh.2⟩) (fun v5 W5 a5 hR5 h5 d5 => ?_)
  replace d5 := d5.trans d4
  clear h4 d4
  obtain ⟨rfl, hw, hB⟩ := hR5
  refine opsP (N := 23) (T := TT) (M := (fun _ _ => none)) tabOk (fun _ _ _ h => by cases h) [] [3] [(0, .v (.slice none 0 0)), (1, .v (.int .u64 x)), (4, .v (.slice (some ⟨w.heap.size, 0, none⟩) 1 1)), (5, .v (.int .u64 x)), (9, .v (.bool true))] h5 (by kernel_rfl) ⟨by kernel_rfl, by kernel_rfl, by kernel_rfl, by kernel_rfl, by kernel_rfl, trivial⟩ (fun a6 h6 d6 => ?_)
  replace d6 := d6.trans d5
  clear h5 d5
  show Code.wp _ _ _ _ _
  refine wp_ret ?_
  exact ⟨d6, _, results_tmp rfl _ _ _, congrArg Ending.returned (h6.2 4 _ rfl), hw, hB⟩
set_option maxHeartbeats 8000000 in
set_option maxRecDepth 100000 in
theorem SetU_zero (p : Nat) (b : Bool) (w : World) (hI : IB w p b (.slice none 0 0)) :
    Calls Try.prog 24 #[.pointer (some ⟨p, 0, none⟩), .int .u64 0] w fun e w' => e = .returned (.pointer (some ⟨p, 0, none⟩)) ∧ IB w' p false (.slice none 0 0) ∧ Fr [p] w w' := by
  refine calls_of_wp Try.func24 rfl ?_
  have h0 := has_two (β := bn []) (.v (.pointer (some ⟨p, 0, none⟩))) (.v (.int .u64 0)) 16
  have d0 : (⟨#[.pointer (some ⟨p, 0, none⟩), .int .u64 0] ++ Array.replicate 16 undef, []⟩ : Act).defers = [] := rfl
  refine wp_seq ?_
  refine wp_region ?_
  refine opsP (N := 18) (T := TT) (M := (fun _ _ => none)) tabOk (fun _ _ _ h => by cases h) [] [0] [(0, .v (.pointer (some ⟨p, 0, none⟩))), (1, .v (.int .u64 0)), (4, .v (Value.pointer none))] h0 (by kernel_rfl) ⟨by kernel_rfl, by kernel_rfl, by kernel_rfl, trivial⟩ (fun a1 h1 d1 => ?_)
  replace d1 := d1.trans d0
  clear h0 d0
  show Code.wp _ _ _ _ _
  refine wp_seq ?_
  refine wp_region ?_
  refine opsP (N := 18) (T := TT) (M := (fun _ _ => none)) tabOk (fun _ _ _ h => by cases h) [2, 3, 4, 5, 6, 7, 8, 9] [0, 1] [(0, .v (.pointer (some ⟨p, 0, none⟩))), (1, .v (.int .u64 0)), (4, .v (Value.pointer none)), (5, .v (.pointer (some ⟨p, 0, none⟩))), (6, .v (.pointer (some ⟨p, 0, none⟩)))] h1 (by kernel_rfl) ⟨by kernel_rfl, by kernel_rfl, by kernel_rfl, by kernel_rfl, by kernel_rfl, trivial⟩ (fun a2 h2 d2 => ?_)
  replace d2 := d2.trans d1
  clear h1 d1
  refine givenW_ops (N := 18) (i := 2) (d := 7) (s := .v (.pointer (some ⟨p, 0, none⟩))) (l := [3, 4, 5, 6, 7, 8, 9]) rfl (want_ rfl) rfl (by decide) h2 (op_nilCheck rfl (h2.2 6 _ rfl)) (fun a3 h3 d3 => ?_)
  replace d3 := d3.trans d2
  clear h2 d2
  refine givenW_ops (N := 18) (i := 3) (d := 8) (s := .v (.pointer (some ⟨p, 1, none⟩))) (l := [4, 5, 6, 7, 8, 9]) rfl (want_ rfl) rfl (by decide) h3 (op_fAbs rfl (h3.2 7 _ rfl)) (fun a4 h4 d4 => ?_)
  replace d4 := d4.trans d3
  clear h3 d3
  refine givenW_ops (N := 18) (i := 4) (d := 9) (s := .v (.slice none 0 0)) (l := [5, 6, 7, 8, 9]) rfl (want_ rfl) rfl (by decide) h4 (op_load rfl (h4.2 8 _ rfl) Try.isAgg47 hI.abs) (fun a5 h5 d5 => ?_)
  replace d5 := d5.trans d4
  clear h4 d4
  refine opsP (N := 18) (T := TT) (M := (fun _ _ => none)) tabOk (fun _ _ _ h => by cases h) [6, 7, 8, 9] [5] [(0, .v (.pointer (some ⟨p, 0, none⟩))), (1, .v (.int .u64 0)), (4, .v (Value.pointer none)), (5, .v (.pointer (some ⟨p, 0, none⟩))), (6, .v (.pointer (some ⟨p, 0, none⟩))), (7, .v (.pointer (some ⟨p, 0, none⟩))), (8, .v (.pointer (some ⟨p, 1, none⟩))), (9, .v (.slice none 0 0)), (10, .v (.int .u64 0))] h5 (by kernel_rfl) ⟨by kernel_rfl, by kernel_rfl, by kernel_rfl, by kernel_rfl, by kernel_rfl, by kernel_rfl, by kernel_rfl, by kernel_rfl, by kernel_rfl, trivial⟩ (fun a6 h6 d6 => ?_)
  replace d6 := d6.trans d5
  clear h5 d5
  refine callW_ops (N := 18) (i := 6) (d := 11) (f := 38) (args := [.v (.slice none 0 0), .v (.int .u64 0)]) (l := [7, 8, 9]) rfl (want_ rfl) rfl (by decide) h6 Try.func38 rfl rfl rfl (by kernel_rfl) (fun v W' => v = .slice none 0 0 ∧ W' = w) ((setU_zero w).mono fun e w' hh => ⟨_, hh.1, rfl, hh.2⟩) (fun v7 W7 a7 hR7 h7 d7 => ?_)
  replace d7 := d7.trans d6
  clear h6 d6
  obtain ⟨rfl, e1⟩ := hR7
  subst e1
  have hI1 := hI
  have hF1 := Fr.refl [p] W7
  refine givenW_ops (N := 18) (i := 7) (d := 12) (s := .v (.pointer (some ⟨p, 0, none⟩))) (l := [8, 9]) rfl (want_ rfl) rfl (by decide) h7 (op_nilCheck rfl (h7.2 5 _ rfl)) (fun a8 h8 d8 => ?_)
  replace d8 := d8.trans d7
  clear h7 d7
  refine givenW_ops (N := 18) (i := 8) (d := 13) (s := .v (.pointer (some ⟨p, 1, none⟩))) (l := [9]) rfl (want_ rfl) rfl (by decide) h8 (op_fAbs rfl (h8.2 12 _ rfl)) (fun a9 h9 d9 => ?_)
  replace d9 := d9.trans d8
  clear h8 d8
  have hI2 := hI1.setAbs (.slice none 0 0)
  have hF2 := hF1.trans (Fr.setc p 1 (.slice none 0 0))
  refine st_ops (i := 9) (l := []) rfl rfl rfl (store_cell rfl (h9.2 13 _ rfl) (h9.2 11 _ rfl) Try.sizeOf47 (hI1.frozen 1) hI1.abs) ?_
  show Code.wp _ _ _ _ _
  refine wp_seq ?_
  refine wp_region ?_
  refine opsP (N := 18) (T := TT) (M := (fun _ _ => none)) tabOk (fun _ _ _ h => by cases h) [1, 2, 3] [0] [(0, .v (.pointer (some ⟨p, 0, none⟩))), (4, .v (Value.pointer none)), (14, .v (.pointer (some ⟨p, 0, none⟩)))] h9 (by kernel_rfl) ⟨by kernel_rfl, by kernel_rfl, by kernel_rfl, trivial⟩ (fun a10 h10 d10 => ?_)
  replace d10 := d10.trans d9
  clear h9 d9
  refine givenW_ops (N := 18) (i := 1) (d := 15) (s := .v (.pointer (some ⟨p, 0, none⟩))) (l := [2, 3]) rfl (want_ rfl) rfl (by decide) h10 (op_nilCheck rfl (h10.2 14 _ rfl)) (fun a11 h11 d11 => ?_)
  replace d11 := d11.trans d10
  clear h10 d10
  refine givenW_ops (N := 18) (i := 2) (d := 16) (s := .v (.pointer (some ⟨p, 0, none⟩))) (l := [3]) rfl (want_ rfl) rfl (by decide) h11 (op_fNeg rfl (h11.2 15 _ rfl)) (fun a12 h12 d12 => ?_)
  replace d12 := d12.trans d11
  clear h11 d11
  have hI3 := hI2.setNeg false
  have hF3 := hF2.trans (Fr.setc p 0 (.bool false))
  refine st_ops (i := 3) (l := []) rfl rfl rfl (op_store rfl (h12.2 16 _ rfl) rfl (Or.inr ⟨_, rfl⟩) Try.sizeOf4 hI2.neg (hI2.frozen 0)) ?_
  show Code.wp _ _ _ _ _
  refine wp_seq ?_
  refine wp_region ?_
  refine opsP (N := 18) (T := TT) (M := (fun _ _ => none)) tabOk (fun _ _ _ h => by cases h) [] [0, 1] [(0, .v (.pointer (some ⟨p, 0, none⟩))), (4, .v (.pointer (some ⟨p, 0, none⟩))), (14, .v (.pointer (some ⟨p, 0, none⟩))), (15, .v (.pointer (some ⟨p, 0, none⟩))), (16, .v (.pointer (some ⟨p, 0, none⟩)))] h12 (by kernel_rfl) ⟨by kernel_rfl, by kernel_rfl, by kernel_rfl, by kernel_rfl, by kernel_rfl, trivial⟩ (fun a13 h13 d13 => ?_)
  replace d13 := d13.trans d12
  clear h12 d12
  show Code.wp _ _ _ _ _
  refine wp_ret ?_
  exact ⟨d13, _, results_tmp rfl _ _ _, congrArg Ending.returned (h13.2 4 _ rfl), hI3, hF3⟩
set_option maxHeartbeats 8000000 in
set_option maxRecDepth 100000 in
theorem SetU_word (p : Nat) (b : Bool) (x : Int) (hx : x ≠ 0) (w : World) (hI : IB w p b (.slice none 0 0)) :
    Calls Try.prog 24 #[.pointer (some ⟨p, 0, none⟩), .int .u64 x] w fun e w' => e = .returned (.pointer (some ⟨p, 0, none⟩)) ∧ IB w' p false (.slice (some ⟨w.heap.size, 0, none⟩) 1 1) ∧ Wd w' w.heap.size [x] ∧ Fr [p] w w' := by
  refine calls_of_wp Try.func24 rfl ?_
  have h0 := has_two (β := bn []) (.v (.pointer (some ⟨p, 0, none⟩))) (.v (.int .u64 x)) 16
  have d0 : (⟨#[.pointer (some ⟨p, 0, none⟩), .int .u64 x] ++ Array.replicate 16 undef, []⟩ : Act).defers = [] := rfl
  refine wp_seq ?_
  refine wp_region ?_
  refine opsP (N := 18) (T := TT) (M := (fun _ _ => none)) tabOk (fun _ _ _ h => by cases h) [] [0] [(0, .v (.pointer (some ⟨p, 0, none⟩))), (1, .v (.int .u64 x)), (4, .v (Value.pointer none))] h0 (by kernel_rfl) ⟨by kernel_rfl, by kernel_rfl, by kernel_rfl, trivial⟩ (fun a1 h1 d1 => ?_)
  replace d1 := d1.trans d0
  clear h0 d0
  show Code.wp _ _ _ _ _
  refine wp_seq ?_
  refine wp_region ?_
  refine opsP (N := 18) (T := TT) (M := (fun _ _ => none)) tabOk (fun _ _ _ h => by cases h) [2, 3, 4, 5, 6, 7, 8, 9] [0, 1] [(0, .v (.pointer (some ⟨p, 0, none⟩))), (1, .v (.int .u64 x)), (4, .v (Value.pointer none)), (5, .v (.pointer (some ⟨p, 0, none⟩))), (6, .v (.pointer (some ⟨p, 0, none⟩)))] h1 (by kernel_rfl) ⟨by kernel_rfl, by kernel_rfl, by kernel_rfl, by kernel_rfl, by kernel_rfl, trivial⟩ (fun a2 h2 d2 => ?_)
  replace d2 := d2.trans d1
  clear h1 d1
  refine givenW_ops (N := 18) (i := 2) (d := 7) (s := .v (.pointer (some ⟨p, 0, none⟩))) (l := [3, 4, 5, 6, 7, 8, 9]) rfl (want_ rfl) rfl (by decide) h2 (op_nilCheck rfl (h2.2 6 _ rfl)) (fun a3 h3 d3 => ?_)
  replace d3 := d3.trans d2
  clear h2 d2
  refine givenW_ops (N := 18) (i := 3) (d := 8) (s := .v (.pointer (some ⟨p, 1, none⟩))) (l := [4, 5, 6, 7, 8, 9]) rfl (want_ rfl) rfl (by decide) h3 (op_fAbs rfl (h3.2 7 _ rfl)) (fun a4 h4 d4 => ?_)
  replace d4 := d4.trans d3
  clear h3 d3
  refine givenW_ops (N := 18) (i := 4) (d := 9) (s := .v (.slice none 0 0)) (l := [5, 6, 7, 8, 9]) rfl (want_ rfl) rfl (by decide) h4 (op_load rfl (h4.2 8 _ rfl) Try.isAgg47 hI.abs) (fun a5 h5 d5 => ?_)
  replace d5 := d5.trans d4
  clear h4 d4
  refine opsP (N := 18) (T := TT) (M := (fun _ _ => none)) tabOk (fun _ _ _ h => by cases h) [6, 7, 8, 9] [5] [(0, .v (.pointer (some ⟨p, 0, none⟩))), (1, .v (.int .u64 x)), (4, .v (Value.pointer none)), (5, .v (.pointer (some ⟨p, 0, none⟩))), (6, .v (.pointer (some ⟨p, 0, none⟩))), (7, .v (.pointer (some ⟨p, 0, none⟩))), (8, .v (.pointer (some ⟨p, 1, none⟩))), (9, .v (.slice none 0 0)), (10, .v (.int .u64 x))] h5 (by kernel_rfl) ⟨by kernel_rfl, by kernel_rfl, by kernel_rfl, by kernel_rfl, by kernel_rfl, by kernel_rfl, by kernel_rfl, by kernel_rfl, by kernel_rfl, trivial⟩ (fun a6 h6 d6 => ?_)
  replace d6 := d6.trans d5
  clear h5 d5
  refine callW_ops (N := 18) (i := 6) (d := 11) (f := 38) (args := [.v (.slice none 0 0), .v (.int .u64 x)]) (l := [7, 8, 9]) rfl (want_ rfl) rfl (by decide) h6 Try.func38 rfl rfl rfl (by kernel_rfl) (fun v W' => v = .slice (some ⟨w.heap.size, 0, none⟩) 1 1 ∧ Wd W' w.heap.size [x] ∧ Below w.heap.size w W') ((setU_nil x hx w).mono fun e w' hh => ⟨_, hh.1, rfl, hh.2⟩) (fun v7 W7 a7 hR7 h7 d7 => ?_)
  replace d7 := d7.trans d6
  clear h6 d6
  obtain ⟨rfl, hw, hB⟩ := hR7
  have hI1 := hI.below hB
  have hF1 := Fr.ofBelow [p] hB
  have hne : w.heap.size ≠ p := fun e => by have := hI.lt; omega
  refine givenW_ops (N := 18) (i := 7) (d := 12) (s := .v (.pointer (some ⟨p, 0, none⟩))) (l := [8, 9]) rfl (want_ rfl) rfl (by decide) h7 (op_nilCheck rfl (h7.2 5 _ rfl)) (fun a8 h8 d8 => ?_)
  replace d8 := d8.trans d7
  clear h7 d7
  refine givenW_ops (N := 18) (i := 8) (d := 13) (s := .v (.pointer (some ⟨p, 1, none⟩))) (l := [9]) rfl (want_ rfl) rfl (by decide) h8 (op_fAbs rfl (h8.2 12 _ rfl)) (fun a9 h9 d9 => ?_)
  replace d9 := d9.trans d8
  clear h8 d8
  have hI2 := hI1.setAbs (.slice (some ⟨w.heap.size, 0, none⟩) 1 1)
  have hF2 := hF1.trans (Fr.setc p 1 (.slice (some ⟨w.heap.size, 0, none⟩) 1 1))
  have hw2 := hw.on (Fr.setc p 1 (.slice (some ⟨w.heap.size, 0, none⟩) 1 1)) (by simpa using hne)
  refine st_ops (i := 9) (l := []) rfl rfl rfl (store_cell rfl (h9.2 13 _ rfl) (h9.2 11 _ rfl) Try.sizeOf47 (hI1.frozen 1) hI1.abs) ?_
  show Code.wp _ _ _ _ _
  refine wp_seq ?_
  refine wp_region ?_
  refine opsP (N := 18) (T := TT) (M := (fun _ _ => none)) tabOk (fun _ _ _ h => by cases h) [1, 2, 3] [0] [(0, .v (.pointer (some ⟨p, 0, none⟩))), (4, .v (Value.pointer none)), (14, .v (.pointer (some ⟨p, 0, none⟩)))] h9 (by kernel_rfl) ⟨by kernel_rfl, by kernel_rfl, by kernel_rfl, trivial⟩ (fun a10 h10 d10 => ?_)
  replace d10 := d10.trans d9
  clear h9 d9
  refine givenW_ops (N := 18) (i := 1) (d := 15) (s := .v (.pointer (some ⟨p, 0, none⟩))) (l := [2, 3]) rfl (want_ rfl) rfl (by decide) h10 (op_nilCheck rfl (h10.2 14 _ rfl)) (fun a11 h11 d11 => ?_)
  replace d11 := d11.trans d10
  clear h10 d10
  refine givenW_ops (N := 18) (i := 2) (d := 16) (s := .v (.pointer (some ⟨p, 0, none⟩))) (l := [3]) rfl (want_ rfl) rfl (by decide) h11 (op_fNeg rfl (h11.2 15 _ rfl)) (fun a12 h12 d12 => ?_)
  replace d12 := d12.trans d11
  clear h11 d11
  have hI3 := hI2.setNeg false
  have hF3 := hF2.trans (Fr.setc p 0 (.bool false))
  have hw3 := hw2.on (Fr.setc p 0 (.bool false)) (by simpa using hne)
  refine st_ops (i := 3) (l := []) rfl rfl rfl (op_store rfl (h12.2 16 _ rfl) rfl (Or.inr ⟨_, rfl⟩) Try.sizeOf4 hI2.neg (hI2.frozen 0)) ?_
  show Code.wp _ _ _ _ _
  refine wp_seq ?_
  refine wp_region ?_
  refine opsP (N := 18) (T := TT) (M := (fun _ _ => none)) tabOk (fun _ _ _ h => by cases h) [] [0, 1] [(0, .v (.pointer (some ⟨p, 0, none⟩))), (4, .v (.pointer (some ⟨p, 0, none⟩))), (14, .v (.pointer (some ⟨p, 0, none⟩))), (15, .v (.pointer (some ⟨p, 0, none⟩))), (16, .v (.pointer (some ⟨p, 0, none⟩)))] h12 (by kernel_rfl) ⟨by kernel_rfl, by kernel_rfl, by kernel_rfl, by kernel_rfl, by kernel_rfl, trivial⟩ (fun a13 h13 d13 => ?_)
  replace d13 := d13.trans d12
  clear h12 d12
  show Code.wp _ _ _ _ _
  refine wp_ret ?_
  exact ⟨d13, _, results_tmp rfl _ _ _, congrArg Ending.returned (h13.2 4 _ rfl), hI3, hw3, hF3⟩
end Go.Proofs.Ytjmgiodkfgdgnaa.PAll
namespace Go.Proofs.Ytjmgiodkfgdgnaa.PAll
open Go.RowKit Go.Proofs.YtjmgiodkfgdgnaaW.PrintWords Go.Proofs.YtjmgiodkfgdgnaaW.PrintLast Go.Proofs.YtjmgiodkfgdgnaaW.PrintMore
set_option linter.unusedVariables false
set_option linter.unusedSimpArgs false
/-- How many words are left without the noughts at the end. -/
def topN (l : List Int) : Nat → Nat
  | 0 => 0
  | k + 1 => if l.getD k 0 = 0 then topN l k else k + 1
theorem topN_le (l : List Int) : ∀ n, topN l n ≤ n
  | 0 => Nat.le_refl _
  | k + 1 => by
    unfold topN
    split
    · exact Nat.le_succ_of_le (topN_le l k)
    · exact Nat.le_refl _
theorem i_pred (k : Nat) (h : k < 100000) : IntKind.i64.wrap (((k + 1 : Nat) : Int) - 1) = ((k : Nat) : Int) := by
  rw [IntKind.wrap_i64]
  omega
noncomputable def nmL : Code := match Try.f46.body with
  | some (.seq _ (.seq _ (.seq (.block _ (.loop c)) _))) => c
  | _ => .skip
set_option maxHeartbeats 8000000 in
set_option maxRecDepth 100000 in
theorem nm_loop {Q : Exit → Act → World → Prop} (g n c : Nat) (l : List Int) (w : World) (hw : Wd w g l) (hn : n ≤ l.length) (hN : n < 100000) : ∀ k, k ≤ n → ∀ a0, Has 21 (bn []) [(0, .v (.slice (some ⟨g, 0, none⟩) n c)), (3, .v (.int .i64 ((k : Nat) : Int)))] a0 → a0.defers = [] →
    (∀ a', Has 21 (bn []) [(0, .v (.slice (some ⟨g, 0, none⟩) n c)), (3, .v (.int .i64 ((topN l k : Nat) : Int)))] a' → a'.defers = [] → Q (.exit 0) a' w) → Code.rounds Try.prog nmL Q (k + 1) a0 w := by
  intro k
  induction k with
  | zero =>
    intro hk a0 h0 d0 hex
    rw [rounds_succ]
    refine wp_seq ?_
    refine wp_seq ?_
    refine wp_region ?_
    refine opsP (N := 21) (T := TT) (M := (fun _ _ => none)) tabOk (fun _ _ _ h => by cases h) [2, 3, 4, 5, 6, 7, 8, 9] [0, 1] [(0, .v (.slice (some ⟨g, 0, none⟩) n c)), (3, .v (.int .i64 ((0 : Nat) : Int))), (6, .v (.int .i64 ((0 : Nat) : Int))), (7, .v (.bool (decide ((((0 : Nat) : Int) : Int) > 0))))] h0 (by kernel_rfl) ⟨by kernel_rfl, by kernel_rfl, by kernel_rfl, by kernel_rfl, trivial⟩ (fun a1 h1 d1 => ?_)
    replace d1 := d1.trans d0
    clear h0 d0
    rw [show (decide ((((0 : Nat) : Int) : Int) > 0)) = false from rfl] at h1
    refine opsP (N := 21) (T := TT) (M := (fun _ _ => none)) tabOk (fun _ _ _ h => by cases h) [3, 4, 5, 6, 7, 8, 9] [2] [(0, .v (.slice (some ⟨g, 0, none⟩) n c)), (3, .v (.int .i64 ((0 : Nat) : Int))), (6, .v (.int .i64 ((0 : Nat) : Int))), (7, .v (.bool false)), (8, .v (.bool false))] h1 (by kernel_rfl) ⟨by kernel_rfl, by kernel_rfl, by kernel_rfl, by kernel_rfl, by kernel_rfl, trivial⟩ (fun a2 h2 d2 => ?_)
    replace d2 := d2.trans d1
    clear h1 d1
    refine skip_ops (N := 21) (i := 3) (d := 9) (j := 2) (dj := 8) (b := true) (b' := false) (l := [4, 5, 6, 7, 8, 9]) rfl rfl rfl rfl (by decide) rfl (by decide) h2 (fun a3 h3 d3 => ?_)
    replace d3 := d3.trans d2
    clear h2 d2
    refine skip_ops (N := 21) (i := 4) (d := 10) (j := 2) (dj := 8) (b := true) (b' := false) (l := [5, 6, 7, 8, 9]) rfl rfl rfl rfl (by decide) rfl (by decide) h3 (fun a4 h4 d4 => ?_)
    replace d4 := d4.trans d3
    clear h3 d3
    refine skip_ops (N := 21) (i := 5) (d := 11) (j := 2) (dj := 8) (b := true) (b' := false) (l := [6, 7, 8, 9]) rfl rfl rfl rfl (by decide) rfl (by decide) h4 (fun a5 h5 d5 => ?_)
    replace d5 := d5.trans d4
    clear h4 d4
    refine skip_ops (N := 21) (i := 6) (d := 12) (j := 2) (dj := 8) (b := true) (b' := false) (l := [7, 8, 9]) rfl rfl rfl rfl (by decide) rfl (by decide) h5 (fun a6 h6 d6 => ?_)
    replace d6 := d6.trans d5
    clear h5 d5
    refine skip_ops (N := 21) (i := 7) (d := 13) (j := 2) (dj := 8) (b := true) (b' := false) (l := [8, 9]) rfl rfl rfl rfl (by decide) rfl (by decide) h6 (fun a7 h7 d7 => ?_)
    replace d7 := d7.trans d6
    clear h6 d6
    refine skip_ops (N := 21) (i := 8) (d := 14) (j := 2) (dj := 8) (b := true) (b' := false) (l := [9]) rfl rfl rfl rfl (by decide) rfl (by decide) h7 (fun a8 h8 d8 => ?_)
    replace d8 := d8.trans d7
    clear h7 d7
    refine givenW_ops (N := 21) (i := 9) (d := 15) (s := .v (Value.bool false)) (l := []) rfl (want_ rfl) rfl (by decide) h8 (op_pickF rfl (h8.2 8 _ rfl) rfl) (fun a9 h9 d9 => ?_)
    replace d9 := d9.trans d8
    clear h8 d8
    show Code.wp _ _ _ _ _
    refine wp_cond_false (h9.2 15 _ rfl) ?_
    refine wp_exit ?_
    refine then_exit (then_exit ?_)
    exact hex a9 (sub_ok (E := [(0, .v (.slice (some ⟨g, 0, none⟩) n c)), (3, .v (.int .i64 ((0 : Nat) : Int)))]) h9 sE) d9
  | succ k ih =>
    intro hk a0 h0 d0 hex
    by_cases hz : l.getD k 0 = 0
    · rw [rounds_succ]
      refine wp_seq ?_
      refine wp_seq ?_
      refine wp_region ?_
      refine opsP (N := 21) (T := TT) (M := (fun _ _ => none)) tabOk (fun _ _ _ h => by cases h) [2, 3, 4, 5, 6, 7, 8, 9] [0, 1] [(0, .v (.slice (some ⟨g, 0, none⟩) n c)), (3, .v (.int .i64 ((k + 1 : Nat) : Int))), (6, .v (.int .i64 ((k + 1 : Nat) : Int))), (7, .v (.bool (decide ((((k + 1 : Nat) : Int) : Int) > 0))))] h0 (by kernel_rfl) ⟨by kernel_rfl, by kernel_rfl, by kernel_rfl, by kernel_rfl, trivial⟩ (fun a1 h1 d1 => ?_)
      replace d1 := d1.trans d0
      clear h0 d0
      rw [show (decide ((((k + 1 : Nat) : Int) : Int) > 0)) = true from decide_eq_true (by omega)] at h1
      refine opsP (N := 21) (T := TT) (M := (fun _ _ => none)) tabOk (fun _ _ _ h => by cases h) [3, 4, 5, 6, 7, 8, 9] [2] [(0, .v (.slice (some ⟨g, 0, none⟩) n c)), (3, .v (.int .i64 ((k + 1 : Nat) : Int))), (6, .v (.int .i64 ((k + 1 : Nat) : Int))), (7, .v (.bool true)), (8, .v (.bool true))] h1 (by kernel_rfl) ⟨by kernel_rfl, by kernel_rfl, by kernel_rfl, by kernel_rfl, by kernel_rfl, trivial⟩ (fun a2 h2 d2 => ?_)
      replace d2 := d2.trans d1
      clear h1 d1
      refine guard_ops (N := 21) (T := TT) (M := (fun _ _ => none)) tabOk (i := 3) (d := 9) (j := 2) (dj := 8) (b := true) (s := .v (.slice (some ⟨g, 0, none⟩) n c)) (l := [4, 5, 6, 7, 8, 9]) (fun _ _ _ h => by cases h) rfl rfl rfl rfl rfl (by decide) h2 (by kernel_rfl) (fun a3 h3 d3 => ?_)
      replace d3 := d3.trans d2
      clear h2 d2
      refine guard_ops (N := 21) (T := TT) (M := (fun _ _ => none)) tabOk (i := 4) (d := 10) (j := 2) (dj := 8) (b := true) (s := .v (.int .i64 ((k + 1 : Nat) : Int))) (l := [5, 6, 7, 8, 9]) (fun _ _ _ h => by cases h) rfl rfl rfl rfl rfl (by decide) h3 (by kernel_rfl) (fun a4 h4 d4 => ?_)
      replace d4 := d4.trans d3
      clear h3 d3
      refine guard_ops (N := 21) (T := TT) (M := (fun _ _ => none)) tabOk (i := 5) (d := 11) (j := 2) (dj := 8) (b := true) (s := .v (.int .i64 (IntKind.i64.wrap (((k + 1 : Nat) : Int) - 1)))) (l := [6, 7, 8, 9]) (fun _ _ _ h => by cases h) rfl rfl rfl rfl rfl (by decide) h4 (by kernel_rfl) (fun a5 h5 d5 => ?_)
      replace d5 := d5.trans d4
      clear h4 d4
      rw [show (IntKind.i64.wrap (((k + 1 : Nat) : Int) - 1)) = ((k : Nat) : Int) from i_pred k (by omega)] at h5
      refine givenW_ops (N := 21) (i := 6) (d := 12) (s := .v (.pointer (some ⟨g, 0 + k, none⟩))) (l := [7, 8, 9]) rfl (want_g h5 (j := 2) (d := 8) (b := true) rfl rfl rfl) rfl (by decide) h5 (op_indexE (j := k) rfl (h5.2 9 _ rfl) (h5.2 11 _ rfl) Try.underlying47 Try.sizeOf70 (by omega)) (fun a6 h6 d6 => ?_)
      replace d6 := d6.trans d5
      clear h5 d5
      refine givenW_ops (N := 21) (i := 7) (d := 13) (s := .v (.int .u64 (l.getD k 0))) (l := [8, 9]) rfl (want_g h6 (j := 2) (d := 8) (b := true) rfl rfl rfl) rfl (by decide) h6 (op_load rfl (h6.2 12 _ rfl) Try.isAgg70 ((Nat.zero_add k).symm ▸ hw.cell (i := k) (by omega))) (fun a7 h7 d7 => ?_)
      replace d7 := d7.trans d6
      clear h6 d6
      refine guard_ops (N := 21) (T := TT) (M := (fun _ _ => none)) tabOk (i := 8) (d := 14) (j := 2) (dj := 8) (b := true) (s := .v (.bool (((l.getD k 0) : Int) == 0))) (l := [9]) (fun _ _ _ h => by cases h) rfl rfl rfl rfl rfl (by decide) h7 (by kernel_rfl) (fun a8 h8 d8 => ?_)
      replace d8 := d8.trans d7
      clear h7 d7
      rw [show (((l.getD k 0) : Int) == 0) = true from beq_iff_eq.mpr hz] at h8
      refine givenW_ops (N := 21) (i := 9) (d := 15) (s := .v (.bool true)) (l := []) rfl (want_ rfl) rfl (by decide) h8 (op_pickT rfl (h8.2 8 _ rfl) (h8.2 14 _ rfl)) (fun a9 h9 d9 => ?_)
      replace d9 := d9.trans d8
      clear h8 d8
      show Code.wp _ _ _ _ _
      refine wp_cond_true (h9.2 15 _ rfl) ?_
      refine wp_skip ?_
      show Code.wp _ _ _ _ _
      refine wp_block ?_
      refine wp_region ?_
      refine opsP (N := 21) (T := TT) (M := (fun _ _ => none)) tabOk (fun _ _ _ h => by cases h) [2] [0, 1] [(0, .v (.slice (some ⟨g, 0, none⟩) n c)), (3, .v (.int .i64 ((k + 1 : Nat) : Int))), (15, .v (.bool true)), (16, .v (.int .i64 ((k + 1 : Nat) : Int))), (17, .v (.int .i64 (IntKind.i64.wrap (((k + 1 : Nat) : Int) - 1))))] h9 (by kernel_rfl) ⟨by kernel_rfl, by kernel_rfl, by kernel_rfl, by kernel_rfl, by kernel_rfl, trivial⟩ (fun a10 h10 d10 => ?_)
      replace d10 := d10.trans d9
      clear h9 d9
      rw [show (IntKind.i64.wrap (((k + 1 : Nat) : Int) - 1)) = ((k : Nat) : Int) from i_pred k (by omega)] at h10
      refine opsP (N := 21) (T := TT) (M := (fun _ _ => none)) tabOk (fun _ _ _ h => by cases h) [] [2] [(0, .v (.slice (some ⟨g, 0, none⟩) n c)), (3, .v (.int .i64 ((k : Nat) : Int))), (15, .v (.bool true))] h10 (by kernel_rfl) ⟨by kernel_rfl, by kernel_rfl, by kernel_rfl, trivial⟩ (fun a11 h11 d11 => ?_)
      replace d11 := d11.trans d10
      clear h10 d10
      show Code.rounds _ _ _ _ _ _
      have e : topN l (k + 1) = topN l k := if_pos hz
      rw [e] at hex
      exact ih (by omega) a11 (sub_ok (E := [(0, .v (.slice (some ⟨g, 0, none⟩) n c)), (3, .v (.int .i64 ((k : Nat) : Int)))]) h11 sE) d11 hex
    · rw [rounds_succ]
      refine wp_seq ?_
      refine wp_seq ?_
      refine wp_region ?_
      refine opsP (N := 21) (T := TT) (M := (fun _ _ => none)) tabOk (fun _ _ _ h => by cases h) [2, 3, 4, 5, 6, 7, 8, 9] [0, 1] [(0, .v (.slice (some ⟨g, 0, none⟩) n c)), (3, .v (.int .i64 ((k + 1 : Nat) : Int))), (6, .v (.int .i64 ((k + 1 : Nat) : Int))), (7, .v (.bool (decide ((((k + 1 : Nat) : Int) : Int) > 0))))] h0 (by kernel_rfl) ⟨by kernel_rfl, by kernel_rfl, by kernel_rfl, by kernel_rfl, trivial⟩ (fun a1 h1 d1 => ?_)
      replace d1 := d1.trans d0
      clear h0 d0
      rw [show (decide ((((k + 1 : Nat) : Int) : Int) > 0)) = true from decide_eq_true (by omega)] at h1
      refine opsP (N := 21) (T := TT) (M := (fun _ _ => none)) tabOk (fun _ _ _ h => by cases h) [3, 4, 5, 6, 7, 8, 9] [2] [(0, .v (.slice (some ⟨g, 0, none⟩) n c)), (3, .v (.int .i64 ((k + 1 : Nat) : Int))), (6, .v (.int .i64 ((k + 1 : Nat) : Int))), (7, .v (.bool true)), (8, .v (.bool true))] h1 (by kernel_rfl) ⟨by kernel_rfl, by kernel_rfl, by kernel_rfl, by kernel_rfl, by kernel_rfl, trivial⟩ (fun a2 h2 d2 => ?_)
      replace d2 := d2.trans d1
      clear h1 d1
      refine guard_ops (N := 21) (T := TT) (M := (fun _ _ => none)) tabOk (i := 3) (d := 9) (j := 2) (dj := 8) (b := true) (s := .v (.slice (some ⟨g, 0, none⟩) n c)) (l := [4, 5, 6, 7, 8, 9]) (fun _ _ _ h => by cases h) rfl rfl rfl rfl rfl (by decide) h2 (by kernel_rfl) (fun a3 h3 d3 => ?_)
      replace d3 := d3.trans d2
      clear h2 d2
      refine guard_ops (N := 21) (T := TT) (M := (fun _ _ => none)) tabOk (i := 4) (d := 10) (j := 2) (dj := 8) (b := true) (s := .v (.int .i64 ((k + 1 : Nat) : Int))) (l := [5, 6, 7, 8, 9]) (fun _ _ _ h => by cases h) rfl rfl rfl rfl rfl (by decide) h3 (by kernel_rfl) (fun a4 h4 d4 => ?_)
      replace d4 := d4.trans d3
      clear h3 d3
      refine guard_ops (N := 21) (T := TT) (M := (fun _ _ => none)) tabOk (i := 5) (d := 11) (j := 2) (dj := 8) (b := true) (s := .v (.int .i64 (IntKind.i64.wrap (((k + 1 : Nat) : Int) - 1)))) (l := [6, 7, 8, 9]) (fun _ _ _ h => by cases h) rfl rfl rfl rfl rfl (by decide) h4 (by kernel_rfl) (fun a5 h5 d5 => ?_)
      replace d5 := d5.trans d4
      clear h4 d4
      rw [show (IntKind.i64.wrap (((k + 1 : Nat) : Int) - 1)) = ((k : Nat) : Int) from i_pred k (by omega)] at h5
      refine givenW_ops (N := 21) (i := 6) (d := 12) (s := .v (.pointer (some ⟨g, 0 + k, none⟩))) (l := [7, 8, 9]) rfl (want_g h5 (j := 2) (d := 8) (b := true) rfl rfl rfl) rfl (by decide) h5 (op_indexE (j := k) rfl (h5.2 9 _ rfl) (h5.2 11 _ rfl) Try.underlying47 Try.sizeOf70 (by omega)) (fun a6 h6 d6 => ?_)
      replace d6 := d6.trans d5
      clear h5 d5
      refine givenW_ops (N := 21) (i := 7) (d := 13) (s := .v (.int .u64 (l.getD k 0))) (l := [8, 9]) rfl (want_g h6 (j := 2) (d := 8) (b := true) rfl rfl rfl) rfl (by decide) h6 (op_load rfl (h6.2 12 _ rfl) Try.isAgg70 ((Nat.zero_add k).symm ▸ hw.cell (i := k) (by omega))) (fun a7 h7 d7 => ?_)
      replace d7 := d7.trans d6
      clear h6 d6
      refine guard_ops (N := 21) (T := TT) (M := (fun _ _ => none)) tabOk (i := 8) (d := 14) (j := 2) (dj := 8) (b := true) (s := .v (.bool (((l.getD k 0) : Int) == 0))) (l := [9]) (fun _ _ _ h => by cases h) rfl rfl rfl rfl rfl (by decide) h7 (by kernel_rfl) (fun a8 h8 d8 => ?_)
      replace d8 := d8.trans d7
      clear h7 d7
      rw [show (((l.getD k 0) : Int) == 0) = false from beq_eq_false_iff_ne.mpr hz] at h8
      refine givenW_ops (N := 21) (i := 9) (d := 15) (s := .v (.bool false)) (l := []) rfl (want_ rfl) rfl (by decide) h8 (op_pickT rfl (h8.2 8 _ rfl) (h8.2 14 _ rfl)) (fun a9 h9 d9 => ?_)
      replace d9 := d9.trans d8
      clear h8 d8
      show Code.wp _ _ _ _ _
      refine wp_cond_false (h9.2 15 _ rfl) ?_
      refine wp_exit ?_
      refine then_exit (then_exit ?_)
      have e : topN l (k + 1) = k + 1 := if_neg hz
      rw [e] at hex
      exact hex a9 (sub_ok (E := [(0, .v (.slice (some ⟨g, 0, none⟩) n c)), (3, .v (.int .i64 ((k + 1 : Nat) : Int)))]) h9 sE) d9
set_option maxHeartbeats 8000000 in
set_option maxRecDepth 100000 in
theorem norm_walk (g n c : Nat) (l : List Int) (w : World) (hw : Wd w g l) (hn : n ≤ l.length) (hN : n < 100000) (hc : n ≤ c) :
    Calls Try.prog 46 #[.slice (some ⟨g, 0, none⟩) n c] w fun e w' => e = .returned (.slice (some ⟨g, 0, none⟩) (topN l n) c) ∧ w' = w := by
  refine calls_of_wp Try.func46 rfl ?_
  have h0 := has_one (β := bn []) (.v (.slice (some ⟨g, 0, none⟩) n c)) 20
  have d0 : (⟨#[.slice (some ⟨g, 0, none⟩) n c] ++ Array.replicate 20 undef, []⟩ : Act).defers = [] := rfl
  refine wp_seq ?_
  refine wp_region ?_
  refine opsP (N := 21) (T := TT) (M := (fun _ _ => none)) tabOk (fun _ _ _ h => by cases h) [] [0] [(0, .v (.slice (some ⟨g, 0, none⟩) n c)), (2, .v (Value.slice none 0 0))] h0 (by kernel_rfl) ⟨by kernel_rfl, by kernel_rfl, trivial⟩ (fun a1 h1 d1 => ?_)
  replace d1 := d1.trans d0
  clear h0 d0
  show Code.wp _ _ _ _ _
  refine wp_seq ?_
  refine wp_region ?_
  refine opsP (N := 21) (T := TT) (M := (fun _ _ => none)) tabOk (fun _ _ _ h => by cases h) [1, 2] [0] [(0, .v (.slice (some ⟨g, 0, none⟩) n c)), (2, .v (Value.slice none 0 0)), (4, .v (.slice (some ⟨g, 0, none⟩) n c))] h1 (by kernel_rfl) ⟨by kernel_rfl, by kernel_rfl, by kernel_rfl, trivial⟩ (fun a2 h2 d2 => ?_)
  replace d2 := d2.trans d1
  clear h1 d1
  refine givenW_ops (N := 21) (i := 1) (d := 5) (s := .v (.int .i64 ((n : Nat) : Int))) (l := [2]) rfl (want_ rfl) rfl (by decide) h2 (op_len rfl Try.underlying47 (h2.2 4 _ rfl)) (fun a3 h3 d3 => ?_)
  replace d3 := d3.trans d2
  clear h2 d2
  refine opsP (N := 21) (T := TT) (M := (fun _ _ => none)) tabOk (fun _ _ _ h => by cases h) [] [2] [(0, .v (.slice (some ⟨g, 0, none⟩) n c)), (2, .v (Value.slice none 0 0)), (3, .v (.int .i64 ((n : Nat) : Int)))] h3 (by kernel_rfl) ⟨by kernel_rfl, by kernel_rfl, by kernel_rfl, trivial⟩ (fun a4 h4 d4 => ?_)
  replace d4 := d4.trans d3
  clear h3 d3
  show Code.wp _ _ _ _ _
  refine wp_seq ?_
  refine wp_block ?_
  refine wp_loop_rounds (n + 1) ?_
  refine nm_loop g n c l w hw hn hN n (Nat.le_refl _) a4 (sub_ok (E := [(0, .v (.slice (some ⟨g, 0, none⟩) n c)), (3, .v (.int .i64 ((n : Nat) : Int)))]) h4 sE) d4 (fun a5 h5 d5 => ?_)
  refine exit_in ?_
  show Code.wp _ _ _ _ _
  refine wp_seq ?_
  refine wp_region ?_
  refine opsP (N := 21) (T := TT) (M := (fun _ _ => none)) tabOk (fun _ _ _ h => by cases h) [2, 3] [0, 1] [(0, .v (.slice (some ⟨g, 0, none⟩) n c)), (3, .v (.int .i64 ((topN l n : Nat) : Int))), (18, .v (.slice (some ⟨g, 0, none⟩) n c)), (19, .v (.int .i64 ((topN l n : Nat) : Int)))] h5 (by kernel_rfl) ⟨by kernel_rfl, by kernel_rfl, by kernel_rfl, by kernel_rfl, trivial⟩ (fun a6 h6 d6 => ?_)
  replace d6 := d6.trans d5
  clear h5 d5
  refine givenW_ops (N := 21) (i := 2) (d := 20) (s := .v (.slice (cutA (some ⟨g, 0, none⟩) c 0) (topN l n - 0) (c - 0))) (l := [3]) rfl (want_ rfl) rfl (by decide) h6 (op_sllh (l := 0) rfl sltNat (h6.2 18 _ rfl) rfl (h6.2 19 _ rfl) (Nat.zero_le _) (Nat.le_trans (topN_le l n) hc)) (fun a7 h7 d7 => ?_)
  replace d7 := d7.trans d6
  clear h6 d6
  refine opsP (N := 21) (T := TT) (M := (fun _ _ => none)) tabOk (fun _ _ _ h => by cases h) [] [3] [(0, .v (.slice (some ⟨g, 0, none⟩) n c)), (2, .v (.slice (cutA (some ⟨g, 0, none⟩) c 0) (topN l n - 0) (c - 0))), (3, .v (.int .i64 ((topN l n : Nat) : Int)))] h7 (by kernel_rfl) ⟨by kernel_rfl, by kernel_rfl, by kernel_rfl, trivial⟩ (fun a8 h8 d8 => ?_)
  replace d8 := d8.trans d7
  clear h7 d7
  show Code.wp _ _ _ _ _
  rw [cutA_zero, Nat.sub_zero, Nat.sub_zero] at h8
  refine wp_ret ?_
  exact ⟨d8, _, results_tmp rfl _ _ _, congrArg Ending.returned (h8.2 2 _ rfl), rfl⟩
set_option maxHeartbeats 8000000 in
set_option maxRecDepth 100000 in
theorem norm_nil (w : World) :
    Calls Try.prog 46 #[.slice none 0 0] w fun e w' => e = .returned (.slice none 0 0) ∧ w' = w := by
  refine calls_of_wp Try.func46 rfl ?_
  have h0 := has_one (β := bn []) (.v (.slice none 0 0)) 20
  have d0 : (⟨#[.slice none 0 0] ++ Array.replicate 20 undef, []⟩ : Act).defers = [] := rfl
  refine wp_seq ?_
  refine wp_region ?_
  refine opsP (N := 21) (T := TT) (M := (fun _ _ => none)) tabOk (fun _ _ _ h => by cases h) [] [0] [(0, .v (.slice none 0 0)), (2, .v (Value.slice none 0 0))] h0 (by kernel_rfl) ⟨by kernel_rfl, by kernel_rfl, trivial⟩ (fun a1 h1 d1 => ?_)
  replace d1 := d1.trans d0
  clear h0 d0
  show Code.wp _ _ _ _ _
  refine wp_seq ?_
  refine wp_region ?_
  refine opsP (N := 21) (T := TT) (M := (fun _ _ => none)) tabOk (fun _ _ _ h => by cases h) [1, 2] [0] [(0, .v (.slice none 0 0)), (2, .v (Value.slice none 0 0)), (4, .v (.slice none 0 0))] h1 (by kernel_rfl) ⟨by kernel_rfl, by kernel_rfl, by kernel_rfl, trivial⟩ (fun a2 h2 d2 => ?_)
  replace d2 := d2.trans d1
  clear h1 d1
  refine givenW_ops (N := 21) (i := 1) (d := 5) (s := .v (.int .i64 ((0 : Nat) : Int))) (l := [2]) rfl (want_ rfl) rfl (by decide) h2 (op_len rfl Try.underlying47 (h2.2 4 _ rfl)) (fun a3 h3 d3 => ?_)
  replace d3 := d3.trans d2
  clear h2 d2
  refine opsP (N := 21) (T := TT) (M := (fun _ _ => none)) tabOk (fun _ _ _ h => by cases h) [] [2] [(0, .v (.slice none 0 0)), (2, .v (Value.slice none 0 0)), (3, .v (.int .i64 ((0 : Nat) : Int)))] h3 (by kernel_rfl) ⟨by kernel_rfl, by kernel_rfl, by kernel_rfl, trivial⟩ (fun a4 h4 d4 => ?_)
  replace d4 := d4.trans d3
  clear h3 d3
  show Code.wp _ _ _ _ _
  refine wp_seq ?_
  refine wp_block ?_
  refine wp_loop_rounds 1 ?_
  rw [rounds_succ]
  refine wp_seq ?_
  refine wp_seq ?_
  refine wp_region ?_
  refine opsP (N := 21) (T := TT) (M := (fun _ _ => none)) tabOk (fun _ _ _ h => by cases h) [2, 3, 4, 5, 6, 7, 8, 9] [0, 1] [(0, .v (.slice none 0 0)), (2, .v (Value.slice none 0 0)), (3, .v (.int .i64 ((0 : Nat) : Int))), (6, .v (.int .i64 ((0 : Nat) : Int))), (7, .v (.bool (decide ((((0 : Nat) : Int) : Int) > 0))))] h4 (by kernel_rfl) ⟨by kernel_rfl, by kernel_rfl, by kernel_rfl, by kernel_rfl, by kernel_rfl, trivial⟩ (fun a5 h5 d5 => ?_)
  replace d5 := d5.trans d4
  clear h4 d4
  rw [show (decide ((((0 : Nat) : Int) : Int) > 0)) = false from rfl] at h5
  refine opsP (N := 21) (T := TT) (M := (fun _ _ => none)) tabOk (fun _ _ _ h => by cases h) [3, 4, 5, 6, 7, 8, 9] [2] [(0, .v (.slice none 0 0)), (2, .v (Value.slice none 0 0)), (3, .v (.int .i64 ((0 : Nat) : Int))), (6, .v (.int .i64 ((0 : Nat) : Int))), (7, .v (.bool false)), (8, .v (.bool false))] h5 (by kernel_rfl) ⟨by kernel_rfl, by kernel_rfl, by kernel_rfl, by kernel_rfl, by kernel_rfl, by kernel_rfl, trivial⟩ (fun a6 h6 d6 => ?_)
  replace d6 := d6.trans d5
  clear h5 d5
  refine skip_ops (N := 21) (i := 3) (d := 9) (j := 2) (dj := 8) (b := true) (b' := false) (l := [4, 5, 6, 7, 8, 9]) rfl rfl rfl rfl (by decide) rfl (by decide) h6 (fun a7 h7 d7 => ?_)
  replace d7 := d7.trans d6
  clear h6 d6
  refine skip_ops (N := 21) (i := 4) (d := 10) (j := 2) (dj := 8) (b := true) (b' := false) (l := [5, 6, 7, 8, 9]) rfl rfl rfl rfl (by decide) rfl (by decide) h7 (fun a8 h8 d8 => ?_)
  replace d8 := d8.trans d7
  clear h7 d7
  refine skip_ops (N := 21) (i := 5) (d := 11) (j := 2) (dj := 8) (b := true) (b' := false) (l := [6, 7, 8, 9]) rfl rfl rfl rfl (by decide) rfl (by decide) h8 (fun a9 h9 d9 => ?_)
  replace d9 := d9.trans d8
  clear h8 d8
  refine skip_ops (N := 21) (i := 6) (d := 12) (j := 2) (dj := 8) (b := true) (b' := false) (l := [7, 8, 9]) rfl rfl rfl rfl (by decide) rfl (by decide) h9 (fun a10 h10 d10 => ?_)
  replace d10 := d10.trans d9
  clear h9 d9
  refine skip_ops (N := 21) (i := 7) (d := 13) (j := 2) (dj := 8) (b := true) (b' := false) (l := [8, 9]) rfl rfl rfl rfl (by decide) rfl (by decide) h10 (fun a11 h11 d11 => ?_)
  replace d11 := d11.trans d10
  clear h10 d10
  refine skip_ops (N := 21) (i := 8) (d := 14) (j := 2) (dj := 8) (b := true) (b' := false) (l := [9]) rfl rfl rfl rfl (by decide) rfl (by decide) h11 (fun a12 h12 d12 => ?_)
  replace d12 := d12.trans d11
  clear h11 d11
  refine givenW_ops (N := 21) (i := 9) (d := 15) (s := .v (Value.bool false)) (l := []) rfl (want_ rfl) rfl (by decide) h12 (op_pickF rfl (h12.2 8 _ rfl) rfl) (fun a13 h13 d13 => ?_)
  replace d13 := d13.trans d12
  clear h12 d12
  show Code.wp _ _ _ _ _
  refine wp_cond_false (h13.2 15 _ rfl) ?_
  refine wp_exit ?_
  refine then_exit (then_exit ?_)
  refine exit_in ?_
  show Code.wp _ _ _ _ _
  refine wp_seq ?_
  refine wp_region ?_
  refine opsP (N := 21) (T := TT) (M := (fun _ _ => none)) tabOk (fun _ _ _ h => by cases h) [2, 3] [0, 1] [(0, .v (.slice none 0 0)), (2, .v (Value.slice none 0 0)), (3, .v (.int .i64 ((0 : Nat) : Int))), (6, .v (.int .i64 ((0 : Nat) : Int))), (7, .v (.bool false)), (8, .v (.bool false)), (9, .v undef), (10, .v undef), (11, .v undef), (12, .v undef), (13, .v undef), (14, .v undef), (15, .v (.bool false)), (18, .v (.slice none 0 0)), (19, .v (.int .i64 ((0 : Nat) : Int)))] h13 (by kernel_rfl) ⟨by kernel_rfl, by kernel_rfl, by kernel_rfl, by kernel_rfl, by kernel_rfl, by kernel_rfl, by kernel_rfl, by kernel_rfl, by kernel_rfl, by kernel_rfl, by kernel_rfl, by kernel_rfl, by kernel_rfl, by kernel_rfl, by kernel_rfl, trivial⟩ (fun a14 h14 d14 => ?_)
  replace d14 := d14.trans d13
  clear h13 d13
  refine givenW_ops (N := 21) (i := 2) (d := 20) (s := .v (.slice none 0 0)) (l := [3]) rfl (want_ rfl) rfl (by decide) h14 ((op_sllh (l := 0) (h := 0) rfl sltNat (h14.2 18 _ rfl) rfl (h14.2 19 _ rfl) (Nat.zero_le _) (Nat.zero_le _)).trans rfl) (fun a15 h15 d15 => ?_)
  replace d15 := d15.trans d14
  clear h14 d14
  refine opsP (N := 21) (T := TT) (M := (fun _ _ => none)) tabOk (fun _ _ _ h => by cases h) [] [3] [(0, .v (.slice none 0 0)), (2, .v (.slice none 0 0)), (3, .v (.int .i64 ((0 : Nat) : Int))), (6, .v (.int .i64 ((0 : Nat) : Int))), (7, .v (.bool false)), (8, .v (.bool false)), (9, .v undef), (10, .v undef), (11, .v undef), (12, .v undef), (13, .v undef), (14, .v undef), (15, .v (.bool false))] h15 (by kernel_rfl) ⟨by kernel_rfl, by kernel_rfl, by kernel_rfl, by kernel_rfl, by kernel_rfl, by kernel_rfl, by kernel_rfl, by kernel_rfl, by kernel_rfl, by kernel_rfl, by kernel_rfl, by kernel_rfl, by kernel_rfl, trivial⟩ (fun a16 h16 d16 => ?_)
  replace d16 := d16.trans d15
  clear h15 d15
  show Code.wp _ _ _ _ _
  refine wp_ret ?_
  exact ⟨d16, _, results_tmp rfl _ _ _, congrArg Ending.returned (h16.2 2 _ rfl), rfl⟩
end Go.Proofs.Ytjmgiodkfgdgnaa.PAll
namespace Go.Proofs.Ytjmgiodkfgdgnaa.PAll
open Go.RowKit Go.Proofs.YtjmgiodkfgdgnaaW.PrintWords Go.Proofs.YtjmgiodkfgdgnaaW.PrintLast Go.Proofs.YtjmgiodkfgdgnaaW.PrintMore
set_option linter.unusedVariables false
set_option linter.unusedSimpArgs false
/-- The world in which the words l of the block g are laid anew. -/
def wdW (W : World) (g : Nat) (l : List Int) : World := W.setRow g (l.map (Value.int .u64)).toArray
theorem wd_wdW {W : World} {g : Nat} {l0 : List Int} (h : Wd W g l0) (l : List Int) : Wd (wdW W g l) g l := by
  unfold Wd at h ⊢
  exact setRow_heap W g _ _ _ (0, 0) h
theorem fr_wdW (W : World) (g : Nat) (l : List Int) : Fr [g] W (wdW W g l) :=
  ⟨rfl, rfl, rfl, by simp [wdW, World.setRow], fun k _ hk => setRow_other W g k _ (by simpa using hk)⟩
/-- The words l with the words x laid over them from the place i on. -/
def layW (l : List Int) (i : Nat) (x : List Int) : List Int := l.take i ++ x ++ l.drop (i + x.length)
theorem Wd.src {W : World} {g : Nat} {l : List Int} (h : Wd W g l) (i n : Nat) : ∀ j, j < ((l.drop i).take n).length → W.cell? ((⟨g, i, none⟩ : Addr).add j) = some (.int .u64 (((l.drop i).take n).getD j 0)) := by
  intro j hj
  simp only [List.length_take, List.length_drop] at hj
  rw [addr_add, h.cell (by omega), List.getD_eq_getElem?_getD, List.getD_eq_getElem?_getD, List.getElem?_take, if_pos (by omega), List.getElem?_drop]
theorem infoWord : (Try.prog.info? 70).map (fun i => (i.zero, i.size)) = some (some (.int .u64 0), 1) := by kernel_rfl
section
variable {ρ : Operand → Value} {o : Oper} {W : World} {t t' : TypeId} {x y : Operand} {g i dn dc sn sc : Nat} {a : Addr} {l xs : List Int}
theorem op_cpw (ho : o.op = .call { callee := .builtin .copy, args := #[x, y], argTypes := #[t, t'] }) (hT : SlT t 70) (hx : ρ x = .slice (some ⟨g, i, none⟩) dn dc) (hy : ρ y = .slice (some a) sn sc) (hw : Wd W g l) (hn : xs.length = Nat.min sn dn)
    (hs : ∀ j, j < xs.length → W.cell? (a.add j) = some (.int .u64 (xs.getD j 0))) (hf : i + xs.length ≤ l.length) : (execOp ρ o).run Try.prog W = .ok (.value (.int .i64 (xs.length : Int))) (wdW W g (layW l i xs)) := by
  have hq : (Try.prog.info? 70).map (·.size) = some 1 := by
    have := congrArg (Option.map Prod.snd) infoWord
    rwa [Option.map_map] at this
  have hrun := run_copy_row (P := Try.prog) W t t' o.type 70 g i dn dc a sn sc _ _ (xs.map (Value.int .u64)) hT.1 hq hw (by simpa using hn) (by
    intro j v hv
    rw [List.getElem?_map] at hv
    cases hj : xs[j]? with
    | none => simp [hj] at hv
    | some z =>
      rw [hj] at hv
      obtain rfl := Option.some.inj hv
      have hlt := (List.getElem?_eq_some_iff.1 hj).1
      rw [hs j hlt, List.getD_eq_getElem?_getD, hj]
      rfl) (by simpa using hf) (by
    intro v hv
    obtain ⟨z, _, rfl⟩ := List.mem_map.1 hv
    rfl)
  unfold execOp
  rw [ho]
  simp [go_sem, resolve, invoke, builtin, hx, hy]
  rw [hrun]
  unfold wdW layW
  simp [Result.andThen, goInt]
theorem op_cp0 {A B : Option Addr} (ho : o.op = .call { callee := .builtin .copy, args := #[x, y], argTypes := #[t, t'] }) (hT : SlT t 70) (hx : ρ x = .slice A 0 dc) (hy : ρ y = .slice B sn sc) : (execOp ρ o).run Try.prog W = .ok (.value (.int .i64 0)) W := by
  have hq : (Try.prog.info? 70).map (·.size) = some 1 := by
    have := congrArg (Option.map Prod.snd) infoWord
    rwa [Option.map_map] at this
  have hrun := run_copy_none (P := Try.prog) W t t' o.type 70 A B 0 dc sn sc hT.1 hq (Nat.min_eq_right (Nat.zero_le _))
  unfold execOp
  rw [ho]
  simp [go_sem, resolve, invoke, builtin, hx, hy]
  rw [hrun]
  simp [Result.andThen, goInt]
theorem xor0 (y : Nat) (hy : y < 18446744073709551616) : Go.bits .xor .u64 0 (y : Int) = (y : Int) := by
  have := bits_xor_u64_nat 0 y (by decide) hy
  rw [Nat.zero_xor] at this
  exact this
theorem op_clw {n : Nat} (ho : o.op = .call { callee := .builtin .clear, args := #[x], argTypes := #[t] }) (hT : SlT t 70) (hx : ρ x = .slice (some ⟨g, i, none⟩) (n + 1) dc) (hw : Wd W g l) (hf : i + (n + 1) ≤ l.length) : (execOp ρ o).run Try.prog W = .ok (.value (.tuple #[])) (wdW W g (layW l i (List.replicate (n + 1) 0))) := by
  cases hq : Try.prog.info? 70 with
  | none => exact absurd infoWord (by simp [hq])
  | some ie =>
    have h1 := infoWord
    rw [hq] at h1
    simp only [Option.map_some, Option.some.injEq, Prod.mk.injEq] at h1
    have hrun := run_storeCells_at Try.prog g i 70 (List.replicate (n + 1) (.int .u64 0)) 0 _ W hw (by simpa using hf) (by
      intro v hv
      obtain ⟨_, rfl⟩ := List.mem_replicate.1 hv
      rfl)
    have hz : (Builtin.zeroCells #[.int .u64 0] (n + 1)).toList = List.replicate (n + 1) (Value.int .u64 0) := by
      simp [Builtin.zeroCells]
      apply List.ext_getElem
      · simp
      · intro i h1 h2
        simp [Nat.mod_one]
    unfold execOp
    rw [ho]
    simp [go_sem, resolve, invoke, builtin, hx, Builtin.clear_, run_underlying hT.1, zeroValue, typeInfo, hq, h1.1, Value.cells, hz, hrun]
    unfold wdW layW
    simp [Result.andThen]
end
section
variable {P : Program} {ops : Array Oper} {Q : Exit → Act → World → Prop}
theorem cl_ops {i : Nat} {o : Oper} {v : Value} {l : List Nat} {a : Act} {w w1 : World} (ho : ops[i]? = some o) (hg : o.guard = none) (hd : o.dst = none) (hrun : (execOp a.eval o).run P w = .ok (.value v) w1) (h : wpOps P ops Q l a w1) : wpOps P ops Q (i :: l) a w := by
  unfold wpOps
  simp only [ho]
  rw [if_pos (want_ hg)]
  refine Or.inl ?_
  unfold Oper.wp
  rw [hrun, Oper.upon_value, hd]
  exact h
end
section
variable {P : Program} {ops : Array Oper} {Q : Exit → Act → World → Prop} {S : World → Prop} {ds : List Nat} {N : Nat} {β : Nat → Nat}
/-- An operation, shown by hand, that makes something, keeps S and tells R. -/
theorem stepN {j d fuel : Nat} {o : Oper} {v : Value} {L : Array Bool} {E : List (Nat × SV)} {a : Act} {w w1 : World} (hA : Has N β E a) (ho : ops[j]? = some o) (hg : o.guard = none) (hd : o.dst = some d) (hN : d < N)
    (hB : (readyB .any ops L (L.setIfInBounds j true) j && !(ds.contains j)) = true) (hrun : (execOp a.eval o).run P w = .ok (.value v) w1) (hS : S w1)
    (h : ∀ a', Has N β ((d, .v v) :: E) a' → a'.defers = a.defers → wpAnyLast P .any ops Q S ds fuel (L.setIfInBounds j true) a' w1) : wpAnyLast P .any ops Q S ds (fuel + 1) L a w := by
  simp only [Bool.and_eq_true, Bool.not_eq_true', List.contains_eq_mem, decide_eq_false_iff_not] at hB
  obtain ⟨hB2, hB6⟩ := hB
  refine one_ (i := j) (N := some d) _ ho hd hB2 hB6 (fun K hK => ?_)
  refine value_ (want_ hg) hd hrun ?_
  exact hK.out _ _ hS (fun _ => h _ (hA.put d hN (.v v)) (put_defs _ _ _))
end
end Go.Proofs.Ytjmgiodkfgdgnaa.PAll
