/- SumA: HvBase, HvEng, HvRead, HvTab, HvUpd, HvLoop, HvMem. -/
import Derived.Test.YtnehminojlocoaaDoorPAllx0
import Derived.Test.YtnehminojlocoaaDoorPAllx1
import Derived.Test.YtnehminojlocoaaDoorPAllx2
import Derived.Deep.RegionWith
import Derived.Laws.CopyRow
import Derived.Laws.CopyOwn
import Derived.LoopN
namespace Go.Proofs.YtnehminojlocoaaDoor.PAll
open Go.RowKit Go.Proofs.YtnehminojlocoaaDoorW.PrintWords Go.Proofs.YtnehminojlocoaaDoorW.PrintLast Go.Proofs.YtnehminojlocoaaDoorW.PrintMore
set_option linter.unusedVariables false
set_option linter.unusedSimpArgs false
/-- What was there is as it was, but for the blocks S. -/
def Fr (S : List Nat) (w W : World) : Prop := W.os = w.os ∧ W.tape = w.tape ∧ W.output = w.output ∧ w.heap.size ≤ W.heap.size ∧ ∀ k, k < w.heap.size → k ∉ S → W.heap[k]? = w.heap[k]?
theorem Fr.refl (S : List Nat) (w : World) : Fr S w w := ⟨rfl, rfl, rfl, Nat.le_refl _, fun _ _ _ => rfl⟩
theorem Fr.trans {S : List Nat} {a b c : World} (h : Fr S a b) (k : Fr S b c) : Fr S a c :=
  ⟨k.1.trans h.1, k.2.1.trans h.2.1, k.2.2.1.trans h.2.2.1, Nat.le_trans h.2.2.2.1 k.2.2.2.1, fun i hi hs => (k.2.2.2.2 i (Nat.lt_of_lt_of_le hi h.2.2.2.1) hs).trans (h.2.2.2.2 i hi hs)⟩
theorem Fr.mono {S S' : List Nat} {a b : World} (h : Fr S a b) (hS : ∀ k, k ∈ S → k ∈ S') : Fr S' a b := ⟨h.1, h.2.1, h.2.2.1, h.2.2.2.1, fun i hi hs => h.2.2.2.2 i hi (fun hk => hs (hS i hk))⟩
theorem Fr.size {S : List Nat} {a b : World} (h : Fr S a b) : a.heap.size ≤ b.heap.size := h.2.2.2.1
theorem Fr.drew {S : List Nat} {a b : World} (h : Fr S a b) : Fr S a b.drew := h
theorem Fr.ofBelow {a b : World} (S : List Nat) (h : Below a.heap.size a b) : Fr S a b := ⟨h.os, h.tape, h.output, h.size, fun k hk _ => h.block k hk⟩
theorem Fr.alloc {S : List Nat} {a b : World} (h : Fr S a b) (o : Obj) : Fr S a (b.alloc o) := h.trans (Fr.ofBelow S ((Below.refl _ _).alloc (Nat.le_refl _) o))
theorem Fr.set {S : List Nat} {a b : World} (h : Fr S a b) (p : Addr) (hp : p.block ∈ S) (v : Value) : Fr S a (b.setCell p v) :=
  ⟨h.1, h.2.1, h.2.2.1, by have := h.2.2.2.1; simpa using this, fun k hk hs => (Below.heap_setCell b p v k (fun e => hs (e ▸ hp))).trans (h.2.2.2.2 k hk hs)⟩
theorem Fr.row {S : List Nat} {a b : World} (h : Fr S a b) (k : Nat) (hp : k ∈ S) (cs : Array Value) : Fr S a (b.setRow k cs) :=
  ⟨h.1, h.2.1, h.2.2.1, by have := h.2.2.2.1; simpa using this, fun i hi hs => (setRow_other b k i cs (fun e => hs (e ▸ hp))).trans (h.2.2.2.2 i hi hs)⟩
theorem Fr.below {S : List Nat} {a b : World} (h : Fr S a b) (B : Nat) (hB : B ≤ a.heap.size) (hS : ∀ k, k ∈ S → B ≤ k) : Below B a b :=
  ⟨h.1, h.2.1, h.2.2.1, h.2.2.2.1, fun k hk => h.2.2.2.2 k (Nat.lt_of_lt_of_le hk hB) (fun hs => Nat.not_lt.2 (hS k hs) hk)⟩
theorem Fr.block {S : List Nat} {a b : World} (h : Fr S a b) {k : Nat} {o : Obj} (hk : a.heap[k]? = some o) (hs : k ∉ S) : b.heap[k]? = some o := (h.2.2.2.2 k (blk_lt hk) hs).trans hk
theorem Fr.cell {S : List Nat} {a b : World} (h : Fr S a b) {p : Addr} {v : Value} (hk : a.cell? p = some v) (hs : p.block ∉ S) : b.cell? p = some v :=
  (World.cell?_of_block (h.2.2.2.2 p.block (World.block_lt_of_cell? a _ hk) hs)).trans hk
/-- A number put into its place. -/
def upd (s : Nat → Int) (i : Nat) (x : Int) : Nat → Int := fun j => if j = i then x else s j
/-- A block whose first sixteen cells are the numbers s; r: what lies behind them. -/
def St (g : Nat) (T : TypeId) (r : Nat → Option Value) (s : Nat → Int) (W : World) : Prop := ∃ cs, W.heap[g]? = some (.cells cs T (0, 0)) ∧ (∀ i, i < 16 → cs[i]? = some (.int .u64 (s i))) ∧ ∀ i, 16 ≤ i → cs[i]? = r i
section
variable {g : Nat} {T : TypeId} {r : Nat → Option Value} {s : Nat → Int} {W : World}
theorem St.drew (h : St g T r s W) : St g T r s W.drew := h
theorem St.lt (h : St g T r s W) : g < W.heap.size := by
  obtain ⟨cs, h1, _⟩ := h
  exact blk_lt h1
theorem St.cell (h : St g T r s W) (i : Nat) (hi : i < 16) : W.cell? ⟨g, i, none⟩ = some (.int .u64 (s i)) := by
  obtain ⟨cs, h1, h2, _⟩ := h
  rw [blk_cell h1]
  exact h2 i hi
theorem St.rest (h : St g T r s W) (i : Nat) (hi : 16 ≤ i) : W.cell? ⟨g, i, none⟩ = r i := by
  obtain ⟨cs, h1, _, h2⟩ := h
  rw [blk_cell h1]
  exact h2 i hi
theorem St.free (h : St g T r s W) (i : Nat) : W.frozen? ⟨g, i, none⟩ = false := by
  obtain ⟨cs, h1, _⟩ := h
  exact blk_frozen h1 i
theorem St.set (h : St g T r s W) (i : Nat) (hi : i < 16) (x : Int) : St g T r (upd s i x) (W.setCell ⟨g, i, none⟩ (.int .u64 x)) := by
  obtain ⟨cs, h1, h2, h3⟩ := h
  have hl : i < cs.size := (Array.getElem?_eq_some_iff.1 (h2 i hi)).1
  refine ⟨_, blk_set h1 i (.int .u64 x), fun j hj => ?_, fun j hj => ?_⟩
  · unfold upd
    by_cases e : j = i
    · subst e
      rw [if_pos rfl, Array.getElem?_setIfInBounds_self_of_lt hl]
    · rw [if_neg e, Array.getElem?_setIfInBounds_ne (Ne.symm e)]
      exact h2 j hj
  · rw [Array.getElem?_setIfInBounds_ne (by omega)]
    exact h3 j hj
theorem St.on {S : List Nat} {W' : World} (h : St g T r s W) (h' : Fr S W W') (hg : g ∉ S) : St g T r s W' := by
  obtain ⟨cs, h1, h2⟩ := h
  exact ⟨cs, h'.block h1 hg, h2⟩
theorem St.onB {W' : World} (h : St g T r s W) (h' : Below W.heap.size W W') : St g T r s W' := h.on (Fr.ofBelow [] h') (by simp)
theorem St.alloc (h : St g T r s W) (o : Obj) : St g T r s (W.alloc o) := by
  obtain ⟨cs, h1, h2⟩ := h
  exact ⟨cs, blk_alloc h1 _, h2⟩
theorem St.far (h : St g T r s W) (p : Addr) (hp : g ≠ p.block) (v : Value) : St g T r s (W.setCell p v) := by
  obtain ⟨cs, h1, h2⟩ := h
  exact ⟨cs, (Below.heap_setCell W p v g hp).trans h1, h2⟩
end
/-- Octets in a row of cells. -/
def Bts (b o n : Nat) (x : Nat → Int) (W : World) : Prop := ∀ i, i < n → W.cell? ⟨b, o + i, none⟩ = some (.int .u8 (x i))
theorem Bts.on {S : List Nat} {b o n : Nat} {x : Nat → Int} {W W' : World} (h : Bts b o n x W) (h' : Fr S W W') (hb : b ∉ S) : Bts b o n x W' := fun i hi => h'.cell (h i hi) hb
theorem Bts.onB {b o n : Nat} {x : Nat → Int} {W W' : World} (h : Bts b o n x W) (h' : Below W.heap.size W W') : Bts b o n x W' := h.on (Fr.ofBelow [] h') (by simp)
theorem Bts.from {b o n : Nat} {x : Nat → Int} {W : World} (h : Bts b o n x W) (k m : Nat) (hk : k + m ≤ n) : Bts b (o + k) m (fun i => x (k + i)) W := fun i hi => by
  have := h (k + i) (by omega)
  rwa [← Nat.add_assoc] at this
/-- Octets beside a state, in its own block or in another one, stay while the state is written. -/
theorem Bts.keep {b o n : Nat} {x : Nat → Int} {g : Nat} {T : TypeId} {r : Nat → Option Value} {s s' : Nat → Int} {W W' : World} (h : Bts b o n x W) (hb : b ≠ g ∨ 16 ≤ o) (h1 : St g T r s W) (h2 : St g T r s' W') (h' : Fr [g] W W') : Bts b o n x W' := fun i hi => by
  by_cases e : b = g
  · subst e
    have ho : 16 ≤ o := hb.resolve_left (fun h => h rfl)
    rw [h2.rest _ (by omega), ← h1.rest _ (by omega)]
    exact h i hi
  · exact h'.cell (h i hi) (by simpa using e)
end Go.Proofs.YtnehminojlocoaaDoor.PAll
namespace Go.Proofs.YtnehminojlocoaaDoor.PAll
open Go.RowKit Go.Proofs.YtnehminojlocoaaDoorW.PrintWords Go.Proofs.YtnehminojlocoaaDoorW.PrintLast Go.Proofs.YtnehminojlocoaaDoorW.PrintMore
set_option linter.unusedVariables false
set_option linter.unusedSimpArgs false
/-- A value as the walk knows it: plain, or a pointer to cell i of the known block k. -/
inductive SV where
  | v (x : Value)
  | p (k i : Nat)
  | s (k i n c : Nat)
def SV.den (β : Nat → Nat) : SV → Value
  | .v x => x
  | .p k i => .pointer (some ⟨β k, i, none⟩)
  | .s k i n c => .slice (some ⟨β k, i, none⟩) n c
def look : List (Nat × SV) → Nat → Option SV
  | [], _ => none
  | (k, x) :: E, t => match Nat.beq k t with
    | true => some x
    | false => look E t
/-- The frame has N slots, of which E tells some. -/
def Has (N : Nat) (β : Nat → Nat) (E : List (Nat × SV)) (a : Act) : Prop := a.tmps.size = N ∧ ∀ t x, look E t = some x → a.eval (.tmp t) = x.den β
theorem Has.put {N : Nat} {β : Nat → Nat} {E : List (Nat × SV)} {a : Act} (h : Has N β E a) (d : Nat) (hd : d < N) (x : SV) : Has N β ((d, x) :: E) (a.put (some d) (x.den β)) := by
  refine ⟨by simp [Act.put, h.1], fun t y hy => ?_⟩
  unfold look at hy
  split at hy
  · next e =>
    obtain rfl := Nat.eq_of_beq_eq_true e
    obtain rfl := Option.some.inj hy
    simp [Act.eval, Act.put, h.1, hd]
  · next e =>
    have hne : d ≠ t := Nat.ne_of_beq_eq_false e
    have := h.2 t y hy
    simp only [Act.eval, Act.put] at this ⊢
    rw [← this]
    simp [Array.getD_eq_getD_getElem?, Array.getElem?_setIfInBounds_ne hne]
def evO (E : List (Nat × SV)) : Operand → Option SV
  | .tmp t => look E t
  | .const v => some (.v v)
  | .func f => some (.v (.func (.func f) #[] #[]))
  | .global g => some (.v (.pointer (some ⟨g, 0, none⟩)))
theorem evO_ok {N : Nat} {β : Nat → Nat} {E : List (Nat × SV)} {a : Act} (h : Has N β E a) {x : Operand} {s : SV} (hs : evO E x = some s) : a.eval x = s.den β := by
  cases x with
  | tmp t => exact h.2 t s hs
  | const v => obtain rfl := Option.some.inj hs; rfl
  | func f => obtain rfl := Option.some.inj hs; rfl
  | global g => obtain rfl := Option.some.inj hs; rfl
/-- Types as the walk knows them. -/
inductive Ty where
  | int (k : IntKind)
  | bool
  | arr (n : Nat)
  | st (offs : List Nat)
  | unit
  | sl
def TyOk (P : Program) (t : TypeId) : Ty → Prop
  | .int k => P.underlying t = some (.int k) ∧ (∀ w, (isAgg t).run P w = .ok false w) ∧ ∀ w, (Go.sizeOf t).run P w = .ok 1 w
  | .bool => P.underlying t = some .bool ∧ (∀ w, (isAgg t).run P w = .ok false w) ∧ ∀ w, (Go.sizeOf t).run P w = .ok 1 w
  | .arr n => ∃ e, P.underlying t = some (.array n e) ∧ (∀ w, (Go.sizeOf e).run P w = .ok 1 w) ∧ (∀ w, (isAgg t).run P w = .ok true w) ∧ (∀ w, (Go.sizeOf t).run P w = .ok n w) ∧ (∀ w, (isAgg e).run P w = .ok false w)
  | .st offs => ∃ fs : Array Field, P.underlying t = some (.struct fs) ∧ ∀ (f o : Nat), offs[f]? = some o → ∃ fd : Field, fs[f]? = some fd ∧ fd.offset = o ∧ ∃ n : Nat, ∀ w, (Go.sizeOf fd.type).run P w = .ok (n + 1) w
  | .unit => (∀ w, (isAgg t).run P w = .ok true w) ∧ ∀ w, (Go.sizeOf t).run P w = .ok 0 w
  | .sl => ∃ e, P.underlying t = some (.slice e) ∧ ∀ w, (Go.sizeOf e).run P w = .ok 1 w
section
variable {P : Program} {ρ : Operand → Value} {o : Oper} {W : World}
theorem op_move {x : Operand} {v : Value} (ho : o.op = .move x) (hx : ρ x = v) : (execOp ρ o).run P W = .ok (.value v) W := by
  unfold execOp
  rw [ho, ← hx]
  rfl
theorem op_assign {x : Operand} {v : Value} (ho : o.op = .assign x) (hx : ρ x = v) : (execOp ρ o).run P W = .ok (.value v) W := by
  unfold execOp
  rw [ho, ← hx]
  rfl
theorem op_nilCheck {x : Operand} {A : Addr} (ho : o.op = .nilCheck x) (hx : ρ x = .pointer (some A)) : (execOp ρ o).run P W = .ok (.value (.pointer (some A))) W := by
  unfold execOp
  rw [ho]
  simp only [hx]
  rfl
theorem op_load {t : TypeId} {x : Operand} {A : Addr} {v : Value} (ho : o.op = .load t x) (hx : ρ x = .pointer (some A)) (hagg : ∀ w, (isAgg t).run P w = .ok false w) (hc : W.cell? A = some v) : (execOp ρ o).run P W = .ok (.value v) W := by
  unfold execOp
  rw [ho]
  simp [go_sem, hx, hagg, hc]
theorem und {t : TypeId} {d : TypeDesc} (h : P.underlying t = some d) (w : World) : (underlying t).run P w = .ok d w := by
  simp [go_sem, underlying, h]
theorem op_index {t e : TypeId} {n j : Nat} {x ix : Operand} {b i : Nat} (ho : o.op = .indexAddr t x ix) (hx : ρ x = .pointer (some ⟨b, i, none⟩)) (hi : ρ ix = .int .i64 (j : Int)) (ht : P.underlying t = some (.array n e)) (hs : ∀ w, (Go.sizeOf e).run P w = .ok 1 w) (hj : j < n) :
    (execOp ρ o).run P W = .ok (.value (.pointer (some ⟨b, i + j, none⟩))) W := by
  unfold execOp
  rw [ho]
  simp [go_sem, Instr.indexAt, hx, hi, und ht, hs, hj, Addr.add]
theorem op_field {t : TypeId} {fs : Array Field} {fd : Field} {x : Operand} {f b i n : Nat} (ho : o.op = .fieldAddr t x f) (hx : ρ x = .pointer (some ⟨b, i, none⟩)) (ht : P.underlying t = some (.struct fs)) (hf : fs[f]? = some fd) (hs : ∀ w, (Go.sizeOf fd.type).run P w = .ok (n + 1) w) :
    (execOp ρ o).run P W = .ok (.value (.pointer (some ⟨b, i + fd.offset, none⟩))) W := by
  unfold execOp
  rw [ho]
  simp [go_sem, Instr.fieldAt, fieldPlace, hx, und ht, hf, hs, Addr.add]
theorem op_bin {op : BinOp} {t t2 : TypeId} {x y : Operand} {k k' : IntKind} {p q : Int} {v : Value} (ho : o.op = .binOp op t x y t2) (hx : ρ x = .int k p) (hy : ρ y = .int k' q) (hb : ∀ w, (binOp op t (.int k p) (.int k' q)).run P w = .ok v w) :
    (execOp ρ o).run P W = .ok (.value v) W := by
  unfold execOp
  rw [ho]
  simp [go_sem, eqGuard, hx, hy, hb]
theorem op_conv {s d : TypeId} {k k' : IntKind} {x : Operand} {n : Int} (ho : o.op = .convert s d x) (hx : ρ x = .int k n) (hs : P.underlying s = some (.int k)) (hd : P.underlying d = some (.int k')) : (execOp ρ o).run P W = .ok (.value (.int k' (k'.wrap n))) W := by
  unfold execOp
  rw [ho]
  simp [go_sem, convert, hx, und hs, und hd, Conv.intToInt]
theorem op_extract {x : Operand} {vs : Array Value} {i : Nat} {v : Value} (ho : o.op = .extract x i) (hx : ρ x = .tuple vs) (hv : vs[i]? = some v) : (execOp ρ o).run P W = .ok (.value v) W := by
  unfold execOp
  rw [ho]
  simp [go_sem, Instr.extract, hx, hv]
theorem op_unit {t : TypeId} {x : Operand} {A : Addr} (ho : o.op = .load t x) (hx : ρ x = .pointer (some A)) (h1 : ∀ w, (isAgg t).run P w = .ok true w) (h2 : ∀ w, (Go.sizeOf t).run P w = .ok 0 w) : (execOp ρ o).run P W = .ok (.value (.agg #[])) W := by
  unfold execOp
  rw [ho]
  simp [go_sem, hx, h1, h2]
theorem op_len {x : Operand} {t e : TypeId} {p : Option Addr} {n c : Nat} (ho : o.op = .call { callee := .builtin .len, args := #[x], argTypes := #[t] }) (ht : P.underlying t = some (.slice e)) (hx : ρ x = .slice p n c) : (execOp ρ o).run P W = .ok (.value (.int .i64 (n : Int))) W := by
  unfold execOp
  rw [ho]
  simp [go_sem, resolve, invoke, builtin, Builtin.len_, hx, und ht, goInt]
theorem op_slice {t : TypeId} {x : Operand} {lo hi : Option Operand} {v : Value} (ho : o.op = .slice t x lo hi none) (h : (Instr.sliceAt t (ρ x) (lo.map ρ) (hi.map ρ) none).run P W = .ok v W) : (execOp ρ o).run P W = .ok (.value v) W := by
  unfold execOp
  rw [ho]
  simp [go_sem]
  show Result.andThen ((Instr.sliceAt t (ρ x) (lo.map ρ) (hi.map ρ) none).run P W) _ = _
  rw [h]
  rfl
theorem op_arr {t : TypeId} {x : Operand} {b i n : Nat} {f : Nat → Value} (ho : o.op = .load t x) (hx : ρ x = .pointer (some ⟨b, i, none⟩)) (h1 : ∀ w, (isAgg t).run P w = .ok true w) (h2 : ∀ w, (Go.sizeOf t).run P w = .ok n w) (hc : ∀ j, j < n → W.cell? ⟨b, i + j, none⟩ = some (f j)) :
    (execOp ρ o).run P W = .ok (.value (.agg ((List.range n).map f).toArray)) W := by
  have hl := run_loadCells (P := P) (w := W) ⟨b, i, none⟩ n f (fun j hj => by
    have e : (Addr.add ⟨b, i, none⟩ j) = ⟨b, i + j, none⟩ := by
      by_cases h0 : j = 0
      · simp [h0, Addr.add]
      · simp [h0, Addr.add]
    rw [e]
    exact hc j hj)
  unfold loadCells at hl
  unfold execOp
  rw [ho]
  simp [go_sem, hx, h1, h2, hl]
theorem op_sliceArr {t e : TypeId} {x : Operand} {b i n l h : Nat} {lo hi : Option Operand} (ho : o.op = .slice t x lo hi none) (hx : ρ x = .pointer (some ⟨b, i, none⟩)) (ht : P.underlying t = some (.array n e)) (hs : ∀ w, (Go.sizeOf e).run P w = .ok 1 w)
    (hlo : (lo = none ∧ l = 0) ∨ ∃ y, lo = some y ∧ ρ y = .int .i64 (l : Int)) (hhi : (hi = none ∧ h = n) ∨ ∃ y, hi = some y ∧ ρ y = .int .i64 (h : Int)) (hlh : l ≤ h) (hhn : h ≤ n) (hln : l < n) :
    (execOp ρ o).run P W = .ok (.value (.slice (some ⟨b, i + l, none⟩) (h - l) (n - l))) W := by
  have hne : ¬ n = l := by omega
  unfold execOp
  rw [ho]
  rcases hlo with ⟨rfl, rfl⟩ | ⟨y, rfl, hy⟩
  · rcases hhi with ⟨rfl, rfl⟩ | ⟨z, rfl, hz⟩
    · simp [go_sem, Instr.sliceAt, Instr.sliceBounds, hx, und ht, hs, Addr.add, hne]
    · simp [go_sem, Instr.sliceAt, Instr.sliceBounds, Instr.sliceBound, hx, hz, und ht, hs, Addr.add, hne, hhn]
  · rcases hhi with ⟨rfl, rfl⟩ | ⟨z, rfl, hz⟩
    · by_cases h0 : l = 0
      · subst h0
        simp [go_sem, Instr.sliceAt, Instr.sliceBounds, Instr.sliceBound, hx, hy, und ht, hs, Addr.add, hne]
      · simp [go_sem, Instr.sliceAt, Instr.sliceBounds, Instr.sliceBound, hx, hy, und ht, hs, Addr.add, hne, hlh, h0]
    · by_cases h0 : l = 0
      · subst h0
        simp [go_sem, Instr.sliceAt, Instr.sliceBounds, Instr.sliceBound, hx, hy, hz, und ht, hs, Addr.add, hne, hhn]
      · simp [go_sem, Instr.sliceAt, Instr.sliceBounds, Instr.sliceBound, hx, hy, hz, und ht, hs, Addr.add, hne, hlh, hhn, h0]
theorem op_sliceSl {t e : TypeId} {x : Operand} {b i n c l h : Nat} {lo hi : Option Operand} (ho : o.op = .slice t x lo hi none) (hx : ρ x = .slice (some ⟨b, i, none⟩) n c) (ht : P.underlying t = some (.slice e)) (hs : ∀ w, (Go.sizeOf e).run P w = .ok 1 w)
    (hlo : (lo = none ∧ l = 0) ∨ ∃ y, lo = some y ∧ ρ y = .int .i64 (l : Int)) (hhi : (hi = none ∧ h = n) ∨ ∃ y, hi = some y ∧ ρ y = .int .i64 (h : Int)) (hlh : l ≤ h) (hhn : h ≤ c) (hln : l < c) :
    (execOp ρ o).run P W = .ok (.value (.slice (some ⟨b, i + l, none⟩) (h - l) (c - l))) W := by
  have hne : ¬ c = l := by omega
  unfold execOp
  rw [ho]
  rcases hlo with ⟨rfl, rfl⟩ | ⟨y, rfl, hy⟩
  · rcases hhi with ⟨rfl, rfl⟩ | ⟨z, rfl, hz⟩
    · simp [go_sem, Instr.sliceAt, Instr.slice, Instr.sliceBounds, hx, und ht, hs, Addr.add, hne]
    · simp [go_sem, Instr.sliceAt, Instr.slice, Instr.sliceBounds, Instr.sliceBound, hx, hz, und ht, hs, Addr.add, hne, hhn]
  · rcases hhi with ⟨rfl, rfl⟩ | ⟨z, rfl, hz⟩
    · by_cases h0 : l = 0
      · subst h0
        simp [go_sem, Instr.sliceAt, Instr.slice, Instr.sliceBounds, Instr.sliceBound, hx, hy, und ht, hs, Addr.add, hne]
      · simp [go_sem, Instr.sliceAt, Instr.slice, Instr.sliceBounds, Instr.sliceBound, hx, hy, und ht, hs, Addr.add, hne, hlh, h0]
    · by_cases h0 : l = 0
      · subst h0
        simp [go_sem, Instr.sliceAt, Instr.slice, Instr.sliceBounds, Instr.sliceBound, hx, hy, hz, und ht, hs, Addr.add, hne, hhn]
      · simp [go_sem, Instr.sliceAt, Instr.slice, Instr.sliceBounds, Instr.sliceBound, hx, hy, hz, und ht, hs, Addr.add, hne, hlh, hhn, h0]
theorem op_indexAgg {t e : TypeId} {x ix : Operand} {n j : Nat} {cs : Array Value} {v : Value} (ho : o.op = .index t x ix) (hx : ρ x = .agg cs) (hi : ρ ix = .int .i64 (j : Int)) (ht : P.underlying t = some (.array n e)) (hs : ∀ w, (Go.sizeOf e).run P w = .ok 1 w) (ha : ∀ w, (isAgg e).run P w = .ok false w) (hj : j < n) (hv : cs[j]? = some v) :
    (execOp ρ o).run P W = .ok (.value v) W := by
  unfold execOp
  rw [ho]
  simp [go_sem, Instr.index, hx, hi, und ht, hs, ha, hj, hv, part]
theorem op_store {t : TypeId} {x y : Operand} {A : Addr} {v v0 : Value} (ho : o.op = .store t x y) (hx : ρ x = .pointer (some A)) (hy : ρ y = v) (hv : (∃ k n, v = .int k n) ∨ ∃ b, v = .bool b) (hs : ∀ w, (Go.sizeOf t).run P w = .ok 1 w) (hc : W.cell? A = some v0) (hf : W.frozen? A = false) :
    (execOp ρ o).run P W = .ok .skip (W.setCell A v) := by
  unfold execOp
  rw [ho]
  rcases hv with ⟨k, n, rfl⟩ | ⟨b, rfl⟩
  · simp [go_sem, hx, hy, hs, hc, hf]
  · simp [go_sem, hx, hy, hs, hc, hf]
end
def binV (op : BinOp) (k : IntKind) (p : Int) (k' : IntKind) (q : Int) : Option Value :=
  match op with
  | .add => if k = k' then some (.int k (k.wrap (p + q))) else none
  | .sub => if k = k' then some (.int k (k.wrap (p - q))) else none
  | .mul => if k = k' then some (.int k (k.wrap (p * q))) else none
  | .and => if k = k' then some (.int k (Go.bits .and k p q)) else none
  | .or => if k = k' then some (.int k (Go.bits .or k p q)) else none
  | .xor => if k = k' then some (.int k (Go.bits .xor k p q)) else none
  | .shl => match q with
    | .ofNat n => some (.int k (k.wrap (p * ((2 ^ (min n k.bits) : Nat) : Int))))
    | _ => none
  | .shr => match q with
    | .ofNat n => some (.int k (p / ((2 ^ (min n k.bits) : Nat) : Int)))
    | _ => none
  | .lss => if k = k' then some (.bool (decide (p < q))) else none
  | .geq => if k = k' then some (.bool (decide (p ≥ q))) else none
  | .gtr => if k = k' then some (.bool (decide (p > q))) else none
  | .eql => if k = k' then some (.bool (p == q)) else none
  | .neq => if k = k' then some (.bool (p != q)) else none
  | _ => none
theorem shr_nat (k yk : IntKind) (p : Int) (n : Nat) : Op.shift .shr k p yk (n : Int) = pure (.int k (p / ((2 ^ (min n k.bits) : Nat) : Int))) := by
  have hm : ¬ ((n : Int) < 0) := by omega
  have hp : (0 : Int) ≤ ((2 ^ (min n k.bits) : Nat) : Int) := Int.natCast_nonneg _
  unfold Op.shift
  rw [if_neg hm, ← Int.fdiv_eq_ediv_of_nonneg _ hp]
  simp only [Int.toNat_natCast, Int.natCast_pow]
  rfl
theorem shl_nat (k yk : IntKind) (p : Int) (n : Nat) : Op.shift .shl k p yk (n : Int) = pure (.int k (k.wrap (p * ((2 ^ (min n k.bits) : Nat) : Int)))) := by
  have hm : ¬ ((n : Int) < 0) := by omega
  unfold Op.shift
  rw [if_neg hm]
  simp only [Int.toNat_natCast, Int.natCast_pow]
  rfl
theorem binV_ok {P : Program} {op : BinOp} {t : TypeId} {k k' : IntKind} {p q : Int} {v : Value} (h : binV op k p k' q = some v) (w : World) : (binOp op t (.int k p) (.int k' q)).run P w = .ok v w := by
  cases op <;> simp only [binV] at h
  case shl =>
    cases q with
    | ofNat n =>
      obtain rfl := Option.some.inj h
      show (Op.shift .shl k p k' (n : Int)).run P w = _
      rw [shl_nat]
      rfl
    | negSucc n => cases h
  case shr =>
    cases q with
    | ofNat n =>
      obtain rfl := Option.some.inj h
      show (Op.shift .shr k p k' (n : Int)).run P w = _
      rw [shr_nat]
      rfl
    | negSucc n => cases h
  all_goals first
    | (cases h; done)
    | (split at h
       · next e =>
         subst e
         obtain rfl := Option.some.inj h
         simp [go_sem, binOp, Op.intArith, Op.intBits, Op.intCmp, Go.bits]
       · cases h)
/-- What cells of known blocks hold. -/
def MemOk (β : Nat → Nat) (M : Nat → Nat → Option Value) (W : World) : Prop := ∀ k i v, M k i = some v → W.cell? ⟨β k, i, none⟩ = some v
def TabOk (P : Program) (T : TypeId → Option Ty) : Prop := ∀ t y, T t = some y → TyOk P t y
/-- n cells in a row. -/
def ldL (M : Nat → Option Value) : Nat → Nat → Option (List Value)
  | _, 0 => some []
  | i, n + 1 => match M i, ldL M (i + 1) n with
    | some v, some l => some (v :: l)
    | _, _ => none
theorem ldL_ok {M : Nat → Option Value} : ∀ {n i : Nat} {l : List Value}, ldL M i n = some l → ∃ f : Nat → Value, l = (List.range n).map f ∧ ∀ j, j < n → M (i + j) = some (f j)
  | 0, i, l, h => by
    obtain rfl := Option.some.inj h
    exact ⟨fun _ => undef, rfl, fun j hj => absurd hj (by omega)⟩
  | n + 1, i, l, h => by
    unfold ldL at h
    split at h
    · next v l' h1 h2 =>
      obtain rfl := Option.some.inj h
      obtain ⟨f, rfl, hf⟩ := ldL_ok h2
      refine ⟨fun j => match j with | 0 => v | k + 1 => f k, ?_, fun j hj => ?_⟩
      · rw [List.range_succ_eq_map, List.map_cons, List.map_map]
        rfl
      · cases j with
        | zero => exact h1
        | succ k =>
          have := hf k (by omega)
          rw [show i + 1 + k = i + (k + 1) by omega] at this
          exact this
    · cases h
/-- A bound of a slice expression. -/
def boundV (E : List (Nat × SV)) (d : Nat) : Option Operand → Option Nat
  | none => some d
  | some y => match evO E y with
    | some (.v (.int .i64 (.ofNat l))) => some l
    | _ => none
theorem boundV_ok {N : Nat} {β : Nat → Nat} {E : List (Nat × SV)} {a : Act} (h : Has N β E a) {d l : Nat} {y : Option Operand} (hb : boundV E d y = some l) : (y = none ∧ l = d) ∨ ∃ z, y = some z ∧ a.eval z = .int .i64 (l : Int) := by
  cases y with
  | none =>
    obtain rfl := Option.some.inj hb
    exact Or.inl ⟨rfl, rfl⟩
  | some z =>
    unfold boundV at hb
    simp only at hb
    split at hb
    · next l' hz =>
      obtain rfl := Option.some.inj hb
      exact Or.inr ⟨z, rfl, evO_ok h hz⟩
    · cases hb
/-- What a pure operation yields. -/
def ev (T : TypeId → Option Ty) (M : Nat → Nat → Option Value) (E : List (Nat × SV)) (o : Oper) : Option SV :=
  match o.op with
  | .move x => evO E x
  | .assign x => evO E x
  | .nilCheck x => match evO E x with
    | some (.p k i) => some (.p k i)
    | _ => none
  | .load t x => match T t, evO E x with
    | some (.int _), some (.p k i) => (M k i).map .v
    | some .bool, some (.p k i) => (M k i).map .v
    | some .unit, some (.v (.pointer (some A))) => some (.v (.agg #[]))
    | some (.arr n), some (.p k i) => (ldL (M k) i n).map fun l => .v (.agg l.toArray)
    | _, _ => none
  | .slice t x lo hi none => match T t, evO E x with
    | some (.arr n), some (.p k i) => match boundV E 0 lo, boundV E n hi with
      | some l, some h => match Nat.ble l h, Nat.ble h n, Nat.blt l n with
        | true, true, true => some (.s k (i + l) (h - l) (n - l))
        | _, _, _ => none
      | _, _ => none
    | some .sl, some (.s k i n c) => match boundV E 0 lo, boundV E n hi with
      | some l, some h => match Nat.ble l h, Nat.ble h c, Nat.blt l c with
        | true, true, true => some (.s k (i + l) (h - l) (c - l))
        | _, _, _ => none
      | _, _ => none
    | _, _ => none
  | .index t x ix => match T t, evO E x, evO E ix with
    | some (.arr n), some (.v (.agg cs)), some (.v (.int .i64 (.ofNat j))) => match Nat.blt j n with
      | true => (cs[j]?).map .v
      | false => none
    | _, _, _ => none
  | .call c => match c.callee, c.args, c.argTypes with
    | .builtin .len, ⟨[x]⟩, ⟨[t]⟩ => match T t, evO E x with
      | some .sl, some (.v (.slice _ n _)) => some (.v (.int .i64 (n : Int)))
      | some .sl, some (.s _ _ n _) => some (.v (.int .i64 (n : Int)))
      | _, _ => none
    | _, _, _ => none
  | .indexAddr t x ix => match T t, evO E x, evO E ix with
    | some (.arr n), some (.p k i), some (.v (.int .i64 (.ofNat j))) => match Nat.blt j n with
      | true => some (.p k (i + j))
      | false => none
    | _, _, _ => none
  | .fieldAddr t x f => match T t, evO E x with
    | some (.st offs), some (.p k i) => match offs[f]? with
      | some d => some (.p k (i + d))
      | none => none
    | _, _ => none
  | .binOp op t x y _ => match evO E x, evO E y with
    | some (.v (.int k p)), some (.v (.int k' q)) => (binV op k p k' q).map .v
    | _, _ => none
  | .convert s d x => match T s, T d, evO E x with
    | some (.int ks), some (.int kd), some (.v (.int k n)) => if k = ks then some (.v (.int kd (kd.wrap n))) else none
    | _, _, _ => none
  | .extract x i => match evO E x with
    | some (.v (.tuple vs)) => (vs[i]?).map .v
    | _ => none
  | _ => none
theorem ev_ok {P : Program} {T : TypeId → Option Ty} {N : Nat} {β : Nat → Nat} {M : Nat → Nat → Option Value} {E : List (Nat × SV)} {a : Act} {W : World} {o : Oper} {s : SV} (hT : TabOk P T) (hA : Has N β E a) (hM : MemOk β M W) (h : ev T M E o = some s) :
    (execOp a.eval o).run P W = .ok (.value (s.den β)) W := by
  unfold ev at h
  split at h
  · next x ho => exact op_move ho (evO_ok hA h)
  · next x ho => exact op_assign ho (evO_ok hA h)
  · next x ho =>
    split at h
    · next k i hx =>
      obtain rfl := Option.some.inj h
      exact op_nilCheck ho (evO_ok hA hx)
    · cases h
  · next t x ho =>
    split at h
    · next k0 k i ht hx =>
      obtain ⟨v, hv, rfl⟩ := Option.map_eq_some_iff.1 h
      exact op_load ho (evO_ok hA hx) (hT _ _ ht).2.1 (hM _ _ _ hv)
    · next k i ht hx =>
      obtain ⟨v, hv, rfl⟩ := Option.map_eq_some_iff.1 h
      exact op_load ho (evO_ok hA hx) (hT _ _ ht).2.1 (hM _ _ _ hv)
    · next A ht hx =>
      obtain rfl := Option.some.inj h
      exact op_unit ho (evO_ok hA hx) (hT _ _ ht).1 (hT _ _ ht).2
    · next n k i ht hx =>
      obtain ⟨l, hl, rfl⟩ := Option.map_eq_some_iff.1 h
      obtain ⟨f, rfl, hf⟩ := ldL_ok hl
      obtain ⟨e, h1, h2, h3, h4, h5⟩ := hT _ _ ht
      exact op_arr ho (evO_ok hA hx) h3 h4 (fun j hj => hM _ _ _ (hf j hj))
    · cases h
  · next t x lo hi ho =>
    split at h
    · next n k i ht hx =>
      split at h
      · next l hh h1 h2 =>
        split at h
        · next h3 h4 h5 =>
          obtain rfl := Option.some.inj h
          obtain ⟨e, h6, h7, _⟩ := hT _ _ ht
          exact op_sliceArr ho (evO_ok hA hx) h6 h7 (boundV_ok hA h1) (boundV_ok hA h2) (Nat.ble_eq.mp h3) (Nat.ble_eq.mp h4) (Eq.mp Nat.blt_eq h5)
        · cases h
      · cases h
    · next k i n c ht hx =>
      split at h
      · next l hh h1 h2 =>
        split at h
        · next h3 h4 h5 =>
          obtain rfl := Option.some.inj h
          obtain ⟨e, h6, h7⟩ := hT _ _ ht
          exact op_sliceSl ho (evO_ok hA hx) h6 h7 (boundV_ok hA h1) (boundV_ok hA h2) (Nat.ble_eq.mp h3) (Nat.ble_eq.mp h4) (Eq.mp Nat.blt_eq h5)
        · cases h
      · cases h
    · cases h
  · next t x ix ho =>
    split at h
    · next n cs j ht hx hi =>
      split at h
      · next hj =>
        obtain ⟨v, hv, rfl⟩ := Option.map_eq_some_iff.1 h
        obtain ⟨e, h6, h7, _, _, h8⟩ := hT _ _ ht
        exact op_indexAgg ho (evO_ok hA hx) (evO_ok hA hi) h6 h7 h8 (Eq.mp Nat.blt_eq hj) hv
      · cases h
    · cases h
  · next c ho =>
    split at h
    · next x t hcal hargs hats =>
      split at h
      · next p n cc ht hx =>
        obtain rfl := Option.some.inj h
        obtain ⟨callee, args, ats⟩ := c
        obtain rfl : callee = _ := hcal
        obtain rfl : args = _ := hargs
        obtain rfl : ats = _ := hats
        obtain ⟨e, h1, _⟩ := hT _ _ ht
        exact op_len ho h1 (evO_ok hA hx)
      · next k i n cc ht hx =>
        obtain rfl := Option.some.inj h
        obtain ⟨callee, args, ats⟩ := c
        obtain rfl : callee = _ := hcal
        obtain rfl : args = _ := hargs
        obtain rfl : ats = _ := hats
        obtain ⟨e, h1, _⟩ := hT _ _ ht
        exact op_len ho h1 (evO_ok hA hx)
      · cases h
    · cases h
  · next t x ix ho =>
    split at h
    · next n k i j ht hx hi =>
      split at h
      · next hj =>
        obtain rfl := Option.some.inj h
        obtain ⟨e, h1, h2, _⟩ := hT _ _ ht
        exact op_index ho (evO_ok hA hx) (evO_ok hA hi) h1 h2 (Eq.mp Nat.blt_eq hj)
      · cases h
    · cases h
  · next t x f ho =>
    split at h
    · next offs k i ht hx =>
      split at h
      · next d hd =>
        obtain rfl := Option.some.inj h
        obtain ⟨fs, h1, h2⟩ := hT _ _ ht
        obtain ⟨fd, h3, rfl, n, h4⟩ := h2 _ _ hd
        exact op_field ho (evO_ok hA hx) h1 h3 h4
      · cases h
    · cases h
  · next op t x y t2 ho =>
    split at h
    · next k p k' q hx hy =>
      obtain ⟨v, hv, rfl⟩ := Option.map_eq_some_iff.1 h
      exact op_bin ho (evO_ok hA hx) (evO_ok hA hy) (fun w => binV_ok hv w)
    · cases h
  · next s0 d x ho =>
    split at h
    · next ks kd k n hs hd hx =>
      split at h
      · next e =>
        subst e
        obtain rfl := Option.some.inj h
        exact op_conv ho (evO_ok hA hx) (hT _ _ hs).1 (hT _ _ hd).1
      · cases h
    · cases h
  · next x i ho =>
    split at h
    · next vs hx =>
      obtain ⟨v, hv, rfl⟩ := Option.map_eq_some_iff.1 h
      exact op_extract ho (evO_ok hA hx) hv
    · cases h
  · cases h
/-- Pure operations, one behind the other, in the order l. -/
def evs (N : Nat) (T : TypeId → Option Ty) (M : Nat → Nat → Option Value) (ops : Array Oper) : List Nat → List (Nat × SV) → Option (List (Nat × SV))
  | [], E => some E
  | i :: l, E => match ops[i]? with
    | some o => match o.dst, o.guard with
      | some d, none => match Nat.blt d N with
        | true => match ev T M E o with
          | some s => evs N T M ops l ((d, s) :: E)
          | none => none
        | false => none
      | _, _ => none
    | none => none
def schedB (ops : Array Oper) (ds : List Nat) : List Nat → Array Bool → Bool
  | [], _ => true
  | i :: l, L => match takeB .any ops ds L (L.setIfInBounds i true) i with
    | true => schedB ops ds l (L.setIfInBounds i true)
    | false => false
def marks : List Nat → Array Bool → Array Bool
  | [], L => L
  | i :: l, L => marks l (L.setIfInBounds i true)
/-- The slots that are told on. -/
def Sub (r : Option (List (Nat × SV))) : List (Nat × SV) → Prop
  | [] => True
  | (t, x) :: E => r.bind (look · t) = some x ∧ Sub r E
theorem sub_ok {N : Nat} {β : Nat → Nat} {E' : List (Nat × SV)} {a : Act} (h : Has N β E' a) : ∀ {E : List (Nat × SV)}, Sub (some E') E → Has N β E a
  | [], _ => ⟨h.1, fun t x hx => by cases hx⟩
  | (k, y) :: E, hs => by
    have ih := sub_ok h (E := E) hs.2
    refine ⟨h.1, fun t x hx => ?_⟩
    unfold look at hx
    split at hx
    · next e =>
      obtain rfl := Nat.eq_of_beq_eq_true e
      obtain rfl := Option.some.inj hx
      exact h.2 k y hs.1
    · exact ih.2 t x hx
theorem sub_cons {E1 : List (Nat × SV)} {d : Nat} {s : SV} : ∀ {E : List (Nat × SV)}, look E d = none → Sub (some E1) E → Sub (some ((d, s) :: E1)) E
  | [], _, _ => trivial
  | (k, y) :: E, hn, hs => by
    unfold look at hn
    split at hn
    · cases hn
    · next e =>
      refine ⟨?_, sub_cons hn hs.2⟩
      have h1 := hs.1
      simp only [Option.bind_some] at h1 ⊢
      unfold look
      have hne : Nat.beq d k = false := by
        cases hb : Nat.beq d k
        · rfl
        · have := Nat.eq_of_beq_eq_true hb
          subst this
          rw [Nat.beq_refl] at e
          cases e
      rw [hne]
      exact h1
section
variable {P : Program} {ops : Array Oper} {Q : Exit → Act → World → Prop} {S : World → Prop} {ds : List Nat} {N : Nat} {β : Nat → Nat} {M : Nat → Nat → Option Value} {T : TypeId → Option Ty}
theorem put_defs (a : Act) (d : Option Tmp) (v : Value) : (a.put d v).defers = a.defers := by cases d <;> rfl
theorem want_ {o : Oper} {a : Act} (h : o.guard = none) : Region.wanted o (yielded ops a.tmps) = true := by
  simp [Region.wanted, h]
theorem seg_ (hT : TabOk P T) (hM : ∀ W, S W → MemOk β M W) (hQ : ∀ c (a a' : Act) w, a'.defers = a.defers → Q (.panic c) a w → Q (.panic c) a' w) {fuel : Nat} {w : World} (hS : S w) :
    ∀ (l : List Nat) {L : Array Bool} {E E' : List (Nat × SV)} {a : Act}, schedB ops ds l L = true → evs N T M ops l E = some E' → Has N β E a →
      (∀ a', Has N β E' a' → a'.defers = a.defers → wpAnyLast P .any ops Q S ds fuel (marks l L) a' w) → wpAnyLast P .any ops Q S ds (fuel + l.length) L a w
  | [], L, E, E', a, _, hE, hA, h => by
    obtain rfl := Option.some.inj hE
    exact h a hA rfl
  | i :: l, L, E, E', a, hB, hE, hA, h => by
    unfold evs at hE
    split at hE
    · next o ho =>
      split at hE
      · next d hd hg =>
        split at hE
        · next hN =>
          split at hE
          · next s hs =>
            unfold schedB at hB
            split at hB
            · next hc =>
              have hd' := Eq.mp Nat.blt_eq hN
              refine take_ (i := i) (N := some d) (v := s.den β) (a' := a.put (some d) (s.den β)) _ ho hd hc (fun c a w h => hQ c _ _ w (put_defs _ _ _).symm h) (Or.inl ⟨want_ hg, fun W hW => ev_ok hT hA (hM W hW) hs⟩) hS rfl ?_
              exact seg_ hT hM hQ hS l hB hE (hA.put d hd' s) (fun a' h1 h2 => h a' h1 (h2.trans rfl))
            · cases hB
          · cases hE
        · cases hE
      · cases hE
    · cases hE
/-- What a last store writes, and where. -/
def stV (T : TypeId → Option Ty) (ops : Array Oper) (n : Nat) (r : Option (List (Nat × SV))) : Option (Nat × Nat × Value) :=
  match r, ops[n]? with
  | some E, some o => match o.op, o.guard, o.dst with
    | .store t x y, none, none => match T t, evO E x, evO E y with
      | some (.int _), some (.p k i), some (.v (.int kk u)) => some (k, i, .int kk u)
      | some .bool, some (.p k i), some (.v (.bool u)) => some (k, i, .bool u)
      | _, _, _ => none
    | _, _, _ => none
  | _, _ => none
theorem stV_ok {n : Nat} {r : Option (List (Nat × SV))} {k i : Nat} {u : Value} (h : stV T ops n r = some (k, i, u)) : ∃ E o, r = some E ∧ ops[n]? = some o ∧ o.guard = none ∧ o.dst = none ∧
    ∀ (a : Act) (W : World), TabOk P T → Has N β E a → (∃ v, W.cell? ⟨β k, i, none⟩ = some v) → W.frozen? ⟨β k, i, none⟩ = false → (execOp a.eval o).run P W = .ok .skip (W.setCell ⟨β k, i, none⟩ u) := by
  unfold stV at h
  split at h
  · next E o ho =>
    split at h
    · next t x y hop hg hd =>
      refine ⟨E, o, rfl, ho, hg, hd, fun a W hT hA hc hf => ?_⟩
      obtain ⟨v0, hc⟩ := hc
      split at h
      · next k0 k1 i1 kk u1 ht hx hy =>
        simp only [Option.some.injEq, Prod.mk.injEq] at h
        obtain ⟨rfl, rfl, rfl⟩ := h
        have ex : a.eval x = .pointer (some ⟨β k1, i1, none⟩) := evO_ok hA hx
        have ey : a.eval y = .int kk u1 := evO_ok hA hy
        exact op_store hop ex ey (Or.inl ⟨_, _, rfl⟩) (hT _ _ ht).2.2 hc hf
      · next k1 i1 u1 ht hx hy =>
        simp only [Option.some.injEq, Prod.mk.injEq] at h
        obtain ⟨rfl, rfl, rfl⟩ := h
        have ex : a.eval x = .pointer (some ⟨β k1, i1, none⟩) := evO_ok hA hx
        have ey : a.eval y = .bool u1 := evO_ok hA hy
        exact op_store hop ex ey (Or.inr ⟨_, rfl⟩) (hT _ _ ht).2.2 hc hf
      · cases h
    · cases h
  · cases h
theorem MemOk.drew {W : World} (h : MemOk β M W) : MemOk β M W.drew := fun k i v hv => h k i v hv
/-- A region that draws its order: pure operations, then one store. -/
theorem reg_store {id n k i : Nat} {u : Value} {a : Act} {w : World} {E E2 : List (Nat × SV)} (hm : P.follows .mixedOrders = true) (hT : TabOk P T) (hA : Has N β E a) (hM : MemOk β M w) (hn : ops.size = n + 1)
    (hB : (schedB ops [n] (List.range n) (Array.replicate (n + 1) false) && (readyB .any ops (marks (List.range n) (Array.replicate (n + 1) false)) ((marks (List.range n) (Array.replicate (n + 1) false)).setIfInBounds n true) n && (Region.ready .any ops ((marks (List.range n) (Array.replicate (n + 1) false)).setIfInBounds n true) == []))) = true)
    (hst : stV T ops n (evs N T M ops (List.range n) E) = some (k, i, u)) (hsub : Sub (evs N T M ops (List.range n) E) E2) (hQ : ∀ c (a a' : Act) w, a'.defers = a.defers → Q (.panic c) a w → Q (.panic c) a' w)
    (hc : ∃ v, w.cell? ⟨β k, i, none⟩ = some v) (hf : w.frozen? ⟨β k, i, none⟩ = false)
    (h : ∀ a', Has N β E2 a' → a'.defers = a.defers → Q .normal a' (w.drew.setCell ⟨β k, i, none⟩ u)) : (Code.region id ops true).wp P Q a w := by
  simp only [Bool.and_eq_true] at hB
  obtain ⟨hB1, hB2, hB3⟩ := hB
  obtain ⟨E', o, he, ho, hg, hd, hrun⟩ := stV_ok hst
  rw [he] at hsub
  refine start_ (S := MemOk β M) (ds := [n]) (n := n + 1) _ hm hn rfl hM.drew (fun hH => ?_)
  have key := seg_ (P := P) (ops := ops) (Q := Q) (S := MemOk β M) (ds := [n]) (N := N) (β := β) (M := M) (T := T) hT (fun W hW => hW) hQ (fuel := 1) (w := w.drew) hH (List.range n) (L := Array.replicate (n + 1) false) (E := E) (E' := E') (a := a) hB1 he hA (fun a' h1 h2 => ?_)
  · rw [List.length_range, Nat.add_comm] at key
    exact key
  · refine last_ (i := n) (N := none) _ ho hd hB2 (by simp) (fun K hK => ?_)
    refine skip_ (want_ hg) hd (hrun a' w.drew hT h1 hc hf) ?_
    refine hK.out _ _ ?_
    exact done_ hB3 (h a' (sub_ok h1 hsub) h2)
/-- Pure operations in the order of the text. -/
theorem ops_ (hT : TabOk P T) {w : World} (hM : MemOk β M w) (l2 : List Nat) : ∀ (l : List Nat) {E E' : List (Nat × SV)} {a : Act}, evs N T M ops l E = some E' → Has N β E a →
    (∀ a', Has N β E' a' → a'.defers = a.defers → wpOps P ops Q l2 a' w) → wpOps P ops Q (l ++ l2) a w
  | [], E, E', a, hE, hA, h => by
    obtain rfl := Option.some.inj hE
    exact h a hA rfl
  | i :: l, E, E', a, hE, hA, h => by
    unfold evs at hE
    split at hE
    · next o ho =>
      split at hE
      · next d hd hg =>
        split at hE
        · next hN =>
          split at hE
          · next s hs =>
            show wpOps P ops Q (i :: (l ++ l2)) a w
            unfold wpOps
            simp only [ho]
            rw [if_pos (want_ hg)]
            refine Or.inl ?_
            unfold Oper.wp
            rw [ev_ok hT hA hM hs, Oper.upon_value, hd]
            exact ops_ hT hM l2 l hE (hA.put d (Eq.mp Nat.blt_eq hN) s) (fun a' h1 h2 => h a' h1 (h2.trans rfl))
          · cases hE
        · cases hE
      · cases hE
    · cases hE
/-- A region in the order of the text, of pure operations alone. -/
theorem reg_seq {id n : Nat} {a : Act} {w : World} {E E2 : List (Nat × SV)} (hT : TabOk P T) (hA : Has N β E a) (hM : MemOk β M w) (hn : ops.size = n)
    (hs : (evs N T M ops (List.range n) E).isSome = true) (hsub : Sub (evs N T M ops (List.range n) E) E2)
    (h : ∀ a', Has N β E2 a' → a'.defers = a.defers → Q .normal a' w) : (Code.region id ops false).wp P Q a w := by
  obtain ⟨E', he⟩ := Option.isSome_iff_exists.1 hs
  rw [he] at hsub
  subst hn
  refine wp_region ?_
  have key := ops_ (P := P) (ops := ops) (Q := Q) (N := N) (β := β) (M := M) (T := T) hT hM [] (List.range ops.size) he hA (fun a' h1 h2 => h a' (sub_ok h1 hsub) h2)
  rwa [List.append_nil] at key
/-- An operation whose value is shown by hand. -/
theorem given_ops {i d : Nat} {o : Oper} {v : Value} {l : List Nat} {a : Act} {w : World} {E : List (Nat × SV)} (ho : ops[i]? = some o) (hg : o.guard = none) (hd : o.dst = some d) (hN : d < N) (hA : Has N β E a) (hrun : (execOp a.eval o).run P w = .ok (.value v) w)
    (h : ∀ a', Has N β ((d, .v v) :: E) a' → a'.defers = a.defers → wpOps P ops Q l a' w) : wpOps P ops Q (i :: l) a w := by
  unfold wpOps
  simp only [ho]
  rw [if_pos (want_ hg)]
  refine Or.inl ?_
  unfold Oper.wp
  rw [hrun, Oper.upon_value, hd]
  exact h _ (hA.put d hN (.v v)) rfl
/-- A variable is made. -/
def AllocOk (P : Program) (t : TypeId) (cs : Array Value) : Prop := ∀ (ρ : Operand → Value) (o : Oper) (W : World), o.op = .alloc t → (execOp ρ o).run P W = .ok (.value (.pointer (some ⟨W.heap.size, 0, none⟩))) (W.alloc (.cells cs t))
theorem alloc_ops {i d : Nat} {t : TypeId} {cs : Array Value} {o : Oper} {l : List Nat} {a : Act} {w : World} {E : List (Nat × SV)} (ho : ops[i]? = some o) (hg : o.guard = none) (hd : o.dst = some d) (hN : d < N) (hA : Has N β E a) (hop : o.op = .alloc t) (hz : AllocOk P t cs)
    (h : ∀ a', Has N β ((d, .v (.pointer (some ⟨w.heap.size, 0, none⟩))) :: E) a' → a'.defers = a.defers → wpOps P ops Q l a' (w.alloc (.cells cs t))) : wpOps P ops Q (i :: l) a w := by
  unfold wpOps
  simp only [ho]
  rw [if_pos (want_ hg)]
  refine Or.inl ?_
  unfold Oper.wp
  rw [hz a.eval o w hop, Oper.upon_value, hd]
  exact h _ (hA.put d hN (.v _)) rfl
def argL (E : List (Nat × SV)) : List Operand → Option (List SV)
  | [] => some []
  | x :: l => match evO E x, argL E l with
    | some s, some r => some (s :: r)
    | _, _ => none
theorem argL_ok {E : List (Nat × SV)} {a : Act} (hA : Has N β E a) : ∀ {l : List Operand} {r : List SV}, argL E l = some r → l.map a.eval = r.map (SV.den β)
  | [], r, h => by obtain rfl := Option.some.inj h; rfl
  | x :: l, r, h => by
    unfold argL at h
    split at h
    · next s r' h1 h2 =>
      obtain rfl := Option.some.inj h
      rw [List.map_cons, List.map_cons, evO_ok hA h1, argL_ok hA h2]
    · cases h
/-- A call, by its contract. -/
theorem call_if {d f : Nat} {o : Oper} {fn : Func} {xs0 : Array Operand} {ts : Array TypeId} {args : List SV} {a : Act} {w : World} {E : List (Nat × SV)} {K : Act → World → Prop} (hg : o.guard = none) (hd : o.dst = some d) (hN : d < N) (hA : Has N β E a) (hf : P.funcs[f]? = some fn) (hname : (fn.name == "runtime.NumGoroutine") = false) (hb : fn.body.isSome = true)
    (hop : o.op = .call { callee := .value (.func f), args := xs0, argTypes := ts }) (hargs : argL E xs0.toList = some args) (R : Value → World → Prop) (hC : Calls P f (args.map (SV.den β)).toArray w fun e w' => ∃ v, e = .returned v ∧ R v w')
    (h : ∀ v w' a', R v w' → Has N β ((d, .v v) :: E) a' → a'.defers = a.defers → K a' w') : if Region.wanted o (yielded ops a.tmps) = true then Oper.wp P o a w K Q else K (a.put (some d) undef) w := by
  refine goes_ hf hname hb _ (want_ hg) hd hop ?_ (hC.mono fun e w' hh => ?_)
  · rw [← argL_ok hA hargs, ← Array.toList_map, Array.toArray_toList]
  · obtain ⟨v, rfl, hr⟩ := hh
    exact ⟨v, rfl, h v w' _ hr (hA.put d hN (.v v)) rfl⟩
theorem call_ops {i d f : Nat} {o : Oper} {fn : Func} {xs0 : Array Operand} {ts : Array TypeId} {args : List SV} {l : List Nat} {a : Act} {w : World} {E : List (Nat × SV)} (ho : ops[i]? = some o) (hg : o.guard = none) (hd : o.dst = some d) (hN : d < N) (hA : Has N β E a) (hf : P.funcs[f]? = some fn) (hname : (fn.name == "runtime.NumGoroutine") = false) (hb : fn.body.isSome = true)
    (hop : o.op = .call { callee := .value (.func f), args := xs0, argTypes := ts }) (hargs : argL E xs0.toList = some args) (R : Value → World → Prop) (hC : Calls P f (args.map (SV.den β)).toArray w fun e w' => ∃ v, e = .returned v ∧ R v w')
    (h : ∀ v w' a', R v w' → Has N β ((d, .v v) :: E) a' → a'.defers = a.defers → wpOps P ops Q l a' w') : wpOps P ops Q (i :: l) a w := by
  have key := call_if (P := P) (ops := ops) (Q := Q) (K := wpOps P ops Q l) hg hd hN hA hf hname hb hop hargs R hC h
  unfold wpOps
  simp only [ho]
  rw [if_pos (want_ hg)] at key ⊢
  exact Or.inl key
end
section
variable {P : Program} {ops : Array Oper} {Q : Exit → Act → World → Prop} {S : World → Prop} {N : Nat} {β : Nat → Nat} {M : Nat → Nat → Option Value} {T : TypeId → Option Ty}
/-- Which function a call calls, into which slot, with what. -/
def clV (N : Nat) (ops : Array Oper) (j : Nat) (r : Option (List (Nat × SV))) : Option (Nat × Nat × List SV) :=
  match r, ops[j]? with
  | some E, some o => match o.op, o.guard, o.dst with
    | .call c, none, some d => match c.callee, Nat.blt d N with
      | .value (.func f), true => (argL E c.args.toList).map fun l => (f, d, l)
      | _, _ => none
    | _, _, _ => none
  | _, _ => none
theorem clV_ok {j f d : Nat} {l : List SV} {r : Option (List (Nat × SV))} (h : clV N ops j r = some (f, d, l)) : ∃ E o, r = some E ∧ ops[j]? = some o ∧ o.guard = none ∧ o.dst = some d ∧ d < N ∧ ∃ xs0 ts, o.op = .call { callee := .value (.func f), args := xs0, argTypes := ts } ∧ argL E xs0.toList = some l := by
  unfold clV at h
  split at h
  · next E o ho =>
    split at h
    · next c d0 hop hg hd =>
      split at h
      · next f0 hc hN =>
        obtain ⟨l0, hl, he⟩ := Option.map_eq_some_iff.1 h
        simp only [Prod.mk.injEq] at he
        obtain ⟨rfl, rfl, rfl⟩ := he
        obtain ⟨callee, args, ats⟩ := c
        obtain rfl : callee = _ := hc
        exact ⟨E, o, rfl, ho, hg, hd, Eq.mp Nat.blt_eq hN, args, ats, hop, hl⟩
      · cases h
    · cases h
  · cases h
def csB (ops : Array Oper) (l1 : List Nat) (j : Nat) (l2 : List Nat) (n : Nat) : Bool :=
  let L0 := Array.replicate (l2.length + 2 + l1.length) false
  let L1 := marks l1 L0
  let L2 := L1.setIfInBounds j true
  let L3 := marks l2 L2
  let L4 := L3.setIfInBounds n true
  schedB ops [n] l1 L0 && (readyB .any ops L1 L2 j && (schedB ops [n] l2 L2 && (readyB .any ops L3 L4 n && (Region.ready .any ops L4 == [] && !(Nat.beq j n)))))
theorem nbeq {j n : Nat} (h : (!(Nat.beq j n)) = true) : j ∉ [n] := by
  simp only [List.mem_cons, List.not_mem_nil, or_false]
  rintro rfl
  rw [Nat.beq_refl] at h
  cases h
/-- A region that draws its order: pure operations, a call that keeps S, pure operations, one store. -/
theorem reg_call_store {id j n k i f d : Nat} {l1 l2 : List Nat} {u v : Value} {args : List SV} {fn : Func} {a : Act} {w : World} {E E2 : List (Nat × SV)} (hm : P.follows .mixedOrders = true) (hT : TabOk P T) (hM : ∀ W, S W → MemOk β M W) (hA : Has N β E a) (hS : S w.drew) (hn : ops.size = l2.length + 2 + l1.length)
    (hB : csB ops l1 j l2 n = true) (hcl : clV N ops j (evs N T M ops l1 E) = some (f, d, args)) (hf : P.funcs[f]? = some fn) (hname : (fn.name == "runtime.NumGoroutine") = false) (hb : fn.body.isSome = true)
    (hC : ∀ W, S W → Calls P f (args.map (SV.den β)).toArray W fun e W' => e = .returned v ∧ S W')
    (hst : stV T ops n ((evs N T M ops l1 E).bind fun E1 => evs N T M ops l2 ((d, .v v) :: E1)) = some (k, i, u)) (hsub : Sub ((evs N T M ops l1 E).bind fun E1 => evs N T M ops l2 ((d, .v v) :: E1)) E2) (hQ : ∀ c (a a' : Act) w, a'.defers = a.defers → Q (.panic c) a w → Q (.panic c) a' w)
    (hc : ∀ W, S W → (∃ v, W.cell? ⟨β k, i, none⟩ = some v) ∧ W.frozen? ⟨β k, i, none⟩ = false)
    (h : ∀ a' W, Has N β E2 a' → a'.defers = a.defers → S W → Q .normal a' (W.setCell ⟨β k, i, none⟩ u)) : (Code.region id ops true).wp P Q a w := by
  simp only [csB, Bool.and_eq_true] at hB
  obtain ⟨hB1, hB2, hB3, hB4, hB5, hB6⟩ := hB
  obtain ⟨E1, o1, he1, ho1, hg1, hd1, hN1, xs0, ts, hop1, hargs⟩ := clV_ok hcl
  rw [he1, Option.bind_some] at hst hsub
  obtain ⟨E', o, he, ho, hg, hd, hrun⟩ := stV_ok hst
  have hsub2 : Sub (some E') E2 := by
    rw [← he]
    exact hsub
  refine start_ (S := S) (ds := [n]) (n := l2.length + 2 + l1.length) _ hm hn rfl hS (fun hH => ?_)
  refine seg_ (P := P) (ops := ops) (Q := Q) (S := S) (ds := [n]) (N := N) (β := β) (M := M) (T := T) hT hM hQ (fuel := l2.length + 2) (w := w.drew) hH l1 (L := Array.replicate (l2.length + 2 + l1.length) false) (E := E) (E' := E1) (a := a) hB1 he1 hA (fun a1 h1 h2 => ?_)
  refine one_ (i := j) (N := some d) _ ho1 hd1 hB2 (nbeq hB6) (fun K hK => ?_)
  refine call_if hg1 hd1 hN1 h1 hf hname hb hop1 hargs (fun v' W' => v' = v ∧ S W') ((hC _ hH).mono fun e W' hh => ⟨v, hh.1, rfl, hh.2⟩) (fun v' W' a2 hR h3 h4 => ?_)
  obtain ⟨rfl, hS'⟩ := hR
  refine hK.out _ _ hS' (fun _ => ?_)
  have key2 := seg_ (P := P) (ops := ops) (Q := Q) (S := S) (ds := [n]) (N := N) (β := β) (M := M) (T := T) hT hM hQ (fuel := 1) (w := W') hS' l2 (L := (marks l1 (Array.replicate (l2.length + 2 + l1.length) false)).setIfInBounds j true) (E := (d, .v v') :: E1) (E' := E') (a := a2) hB3 he h3 (fun a3 h5 h6 => ?_)
  · rw [Nat.add_comm 1 l2.length] at key2
    exact key2
  · refine last_ (i := n) (N := none) _ ho hd hB4 (by simp) (fun K2 hK2 => ?_)
    refine skip_ (want_ hg) hd (hrun a3 W' hT h5 (hc W' hS').1 (hc W' hS').2) ?_
    refine hK2.out _ _ ?_
    exact done_ hB5 (h a3 W' (sub_ok h5 hsub2) (h6.trans (h4.trans h2)) hS')
/-- A region that draws its order: pure operations, a call that keeps S, pure operations. -/
def ckB (ops : Array Oper) (l1 : List Nat) (j : Nat) (l2 : List Nat) : Bool :=
  let L0 := Array.replicate (l2.length + 1 + l1.length) false
  let L1 := marks l1 L0
  let L2 := L1.setIfInBounds j true
  let L3 := marks l2 L2
  schedB ops [] l1 L0 && (readyB .any ops L1 L2 j && (schedB ops [] l2 L2 && (Region.ready .any ops L3 == [])))
theorem reg_call_keep {id j f d : Nat} {l1 l2 : List Nat} {v : Value} {args : List SV} {fn : Func} {a : Act} {w : World} {E E2 : List (Nat × SV)} (hm : P.follows .mixedOrders = true) (hT : TabOk P T) (hM : ∀ W, S W → MemOk β M W) (hA : Has N β E a) (hS : S w.drew) (hn : ops.size = l2.length + 1 + l1.length)
    (hB : ckB ops l1 j l2 = true) (hcl : clV N ops j (evs N T M ops l1 E) = some (f, d, args)) (hf : P.funcs[f]? = some fn) (hname : (fn.name == "runtime.NumGoroutine") = false) (hb : fn.body.isSome = true)
    (hC : ∀ W, S W → Calls P f (args.map (SV.den β)).toArray W fun e W' => e = .returned v ∧ S W')
    (hs2 : ((evs N T M ops l1 E).bind fun E1 => evs N T M ops l2 ((d, .v v) :: E1)).isSome = true) (hsub : Sub ((evs N T M ops l1 E).bind fun E1 => evs N T M ops l2 ((d, .v v) :: E1)) E2) (hQ : ∀ c (a a' : Act) w, a'.defers = a.defers → Q (.panic c) a w → Q (.panic c) a' w)
    (h : ∀ a' W, Has N β E2 a' → a'.defers = a.defers → S W → Q .normal a' W) : (Code.region id ops true).wp P Q a w := by
  simp only [ckB, Bool.and_eq_true] at hB
  obtain ⟨hB1, hB2, hB3, hB4⟩ := hB
  obtain ⟨E1, o1, he1, ho1, hg1, hd1, hN1, xs0, ts, hop1, hargs⟩ := clV_ok hcl
  rw [he1, Option.bind_some] at hs2 hsub
  obtain ⟨E', he⟩ := Option.isSome_iff_exists.1 hs2
  have hsub2 : Sub (some E') E2 := by
    rw [← he]
    exact hsub
  refine start_ (S := S) (ds := []) (n := l2.length + 1 + l1.length) _ hm hn rfl hS (fun hH => ?_)
  refine seg_ (P := P) (ops := ops) (Q := Q) (S := S) (ds := []) (N := N) (β := β) (M := M) (T := T) hT hM hQ (fuel := l2.length + 1) (w := w.drew) hH l1 (L := Array.replicate (l2.length + 1 + l1.length) false) (E := E) (E' := E1) (a := a) hB1 he1 hA (fun a1 h1 h2 => ?_)
  refine one_ (i := j) (N := some d) _ ho1 hd1 hB2 (by simp) (fun K hK => ?_)
  refine call_if hg1 hd1 hN1 h1 hf hname hb hop1 hargs (fun v' W' => v' = v ∧ S W') ((hC _ hH).mono fun e W' hh => ⟨v, hh.1, rfl, hh.2⟩) (fun v' W' a2 hR h3 h4 => ?_)
  obtain ⟨rfl, hS'⟩ := hR
  refine hK.out _ _ hS' (fun _ => ?_)
  have key2 := seg_ (P := P) (ops := ops) (Q := Q) (S := S) (ds := []) (N := N) (β := β) (M := M) (T := T) hT hM hQ (fuel := 0) (w := W') hS' l2 (L := (marks l1 (Array.replicate (l2.length + 1 + l1.length) false)).setIfInBounds j true) (E := (d, .v v') :: E1) (E' := E') (a := a2) hB3 he h3 (fun a3 h5 h6 => ?_)
  · rw [Nat.zero_add] at key2
    exact key2
  · exact done_ hB4 (h a3 W' (sub_ok h5 hsub2) (h6.trans (h4.trans h2)) hS')
/-- A region that draws its order: pure operations, a call that may write. -/
def clB (ops : Array Oper) (l1 : List Nat) (j : Nat) : Bool :=
  let L0 := Array.replicate (1 + l1.length) false
  let L1 := marks l1 L0
  let L2 := L1.setIfInBounds j true
  schedB ops [j] l1 L0 && (readyB .any ops L1 L2 j && (Region.ready .any ops L2 == []))
theorem reg_call_last {id j f d : Nat} {l1 : List Nat} {args : List SV} {fn : Func} {a : Act} {w : World} {E E2 : List (Nat × SV)} (hm : P.follows .mixedOrders = true) (hT : TabOk P T) (hA : Has N β E a) (hM : MemOk β M w) (hn : ops.size = 1 + l1.length)
    (hB : clB ops l1 j = true) (hcl : clV N ops j (evs N T M ops l1 E) = some (f, d, args)) (hf : P.funcs[f]? = some fn) (hname : (fn.name == "runtime.NumGoroutine") = false) (hb : fn.body.isSome = true)
    (R : Value → World → Prop) (hC : Calls P f (args.map (SV.den β)).toArray w.drew fun e W' => ∃ v, e = .returned v ∧ R v W') (hsub : Sub (evs N T M ops l1 E) E2) (hnd : look E2 d = none) (hQ : ∀ c (a a' : Act) w, a'.defers = a.defers → Q (.panic c) a w → Q (.panic c) a' w)
    (h : ∀ a' v W, Has N β ((d, .v v) :: E2) a' → a'.defers = a.defers → R v W → Q .normal a' W) : (Code.region id ops true).wp P Q a w := by
  simp only [clB, Bool.and_eq_true] at hB
  obtain ⟨hB1, hB2, hB4⟩ := hB
  obtain ⟨E1, o1, he1, ho1, hg1, hd1, hN1, xs0, ts, hop1, hargs⟩ := clV_ok hcl
  have hsub2 : Sub (some E1) E2 := by
    rw [← he1]
    exact hsub
  refine start_ (S := MemOk β M) (ds := [j]) (n := 1 + l1.length) _ hm hn rfl hM.drew (fun hH => ?_)
  refine seg_ (P := P) (ops := ops) (Q := Q) (S := MemOk β M) (ds := [j]) (N := N) (β := β) (M := M) (T := T) hT (fun W hW => hW) hQ (fuel := 1) (w := w.drew) hH l1 (L := Array.replicate (1 + l1.length) false) (E := E) (E' := E1) (a := a) hB1 he1 hA (fun a1 h1 h2 => ?_)
  refine last_ (i := j) (N := some d) _ ho1 hd1 hB2 (by simp) (fun K hK => ?_)
  have h1' := sub_ok h1 hsub2
  have key := call_if (P := P) (ops := ops) (Q := Q) (K := K) hg1 hd1 hN1 h1 hf hname hb hop1 hargs R hC (fun v W' a2 hR h3 h4 => hK.out _ _ (done_ hB4 (h a2 v W' ?_ (h4.trans h2) hR)))
  · exact key
  · have h5 := sub_ok (E := (d, .v v) :: E2) h3 (by
      refine ⟨by simp [look], ?_⟩
      exact sub_cons hnd hsub2)
    exact h5
/-- A slice expression with a low bound alone. -/
def slV (N : Nat) (ops : Array Oper) (j : Nat) : Option (Nat × TypeId × Operand × Nat) :=
  match ops[j]? with
  | some o => match o.op, o.guard, o.dst with
    | .slice t x (some (.const (.int .i64 (.ofNat l)))) none none, none, some d => match Nat.blt d N with
      | true => some (d, t, x, l)
      | false => none
    | _, _, _ => none
  | none => none
theorem slV_ok {j d l : Nat} {t : TypeId} {x : Operand} (h : slV N ops j = some (d, t, x, l)) : ∃ o, ops[j]? = some o ∧ o.guard = none ∧ o.dst = some d ∧ d < N ∧ o.op = .slice t x (some (.const (.int .i64 (l : Int)))) none none := by
  unfold slV at h
  split at h
  · next o ho =>
    split at h
    · next t0 x0 l0 d0 hop hg hd =>
      split at h
      · next hN =>
        simp only [Option.some.injEq, Prod.mk.injEq] at h
        obtain ⟨rfl, rfl, rfl, rfl⟩ := h
        exact ⟨o, ho, hg, hd, Eq.mp Nat.blt_eq hN, hop⟩
      · cases h
    · cases h
  · cases h
def cs2B (ops : Array Oper) (l1 : List Nat) (js j : Nat) (l2 : List Nat) (n : Nat) : Bool :=
  let L0 := Array.replicate (l2.length + 3 + l1.length) false
  let L1 := marks l1 L0
  let L1' := L1.setIfInBounds js true
  let L2 := L1'.setIfInBounds j true
  let L3 := marks l2 L2
  let L4 := L3.setIfInBounds n true
  schedB ops [n] l1 L0 && (takeB .any ops [n] L1 L1' js && (readyB .any ops L1' L2 j && (schedB ops [n] l2 L2 && (readyB .any ops L3 L4 n && (Region.ready .any ops L4 == [] && !(Nat.beq j n))))))
/-- The same with a slice expression ahead of the call. -/
theorem reg_slice_call_store {id js j n k i f d d0 l0 : Nat} {l1 l2 : List Nat} {t0 : TypeId} {x0 : Operand} {u v vx v0 : Value} {args : List SV} {fn : Func} {a : Act} {w : World} {E E2 : List (Nat × SV)} (hm : P.follows .mixedOrders = true) (hT : TabOk P T) (hM : ∀ W, S W → MemOk β M W) (hA : Has N β E a) (hS : S w.drew) (hn : ops.size = l2.length + 3 + l1.length)
    (hB : cs2B ops l1 js j l2 n = true) (hsl : slV N ops js = some (d0, t0, x0, l0)) (hx0 : (evs N T M ops l1 E).bind (evO · x0) = some (.v vx)) (hv0 : ∀ W, (Instr.sliceAt t0 vx (some (.int .i64 (l0 : Int))) none none).run P W = .ok v0 W)
    (hcl : clV N ops j ((evs N T M ops l1 E).map fun E1 => (d0, .v v0) :: E1) = some (f, d, args)) (hf : P.funcs[f]? = some fn) (hname : (fn.name == "runtime.NumGoroutine") = false) (hb : fn.body.isSome = true)
    (hC : ∀ W, S W → Calls P f (args.map (SV.den β)).toArray W fun e W' => e = .returned v ∧ S W')
    (hst : stV T ops n ((evs N T M ops l1 E).bind fun E1 => evs N T M ops l2 ((d, .v v) :: (d0, .v v0) :: E1)) = some (k, i, u)) (hsub : Sub ((evs N T M ops l1 E).bind fun E1 => evs N T M ops l2 ((d, .v v) :: (d0, .v v0) :: E1)) E2) (hQ : ∀ c (a a' : Act) w, a'.defers = a.defers → Q (.panic c) a w → Q (.panic c) a' w)
    (hc : ∀ W, S W → (∃ v, W.cell? ⟨β k, i, none⟩ = some v) ∧ W.frozen? ⟨β k, i, none⟩ = false)
    (h : ∀ a' W, Has N β E2 a' → a'.defers = a.defers → S W → Q .normal a' (W.setCell ⟨β k, i, none⟩ u)) : (Code.region id ops true).wp P Q a w := by
  simp only [cs2B, Bool.and_eq_true] at hB
  obtain ⟨hB1, hBs, hB2, hB3, hB4, hB5, hB6⟩ := hB
  obtain ⟨os, hos, hgs, hds, hNs, hops⟩ := slV_ok hsl
  obtain ⟨E1, he1, hxe⟩ := Option.bind_eq_some_iff.1 hx0
  rw [he1, Option.map_some] at hcl
  obtain ⟨E1', o1, he1', ho1, hg1, hd1, hN1, xs0, ts, hop1, hargs⟩ := clV_ok hcl
  obtain rfl := Option.some.inj he1'
  rw [he1, Option.bind_some] at hst hsub
  obtain ⟨E', o, he, ho, hg, hd, hrun⟩ := stV_ok hst
  have hsub2 : Sub (some E') E2 := by
    rw [← he]
    exact hsub
  refine start_ (S := S) (ds := [n]) (n := l2.length + 3 + l1.length) _ hm hn rfl hS (fun hH => ?_)
  refine seg_ (P := P) (ops := ops) (Q := Q) (S := S) (ds := [n]) (N := N) (β := β) (M := M) (T := T) hT hM hQ (fuel := l2.length + 3) (w := w.drew) hH l1 (L := Array.replicate (l2.length + 3 + l1.length) false) (E := E) (E' := E1) (a := a) hB1 he1 hA (fun a1 h1 h2 => ?_)
  refine take_ (i := js) (N := some d0) (v := v0) (a' := a1.put (some d0) v0) _ hos hds hBs (fun c a w h => hQ c _ _ w (put_defs _ _ _).symm h) (Or.inl ⟨want_ hgs, fun W hW => op_slice hops ?_⟩) hH rfl ?_
  · rw [evO_ok h1 hxe]
    exact hv0 W
  have h1' := h1.put d0 hNs (.v v0)
  refine one_ (i := j) (N := some d) _ ho1 hd1 hB2 (nbeq hB6) (fun K hK => ?_)
  refine call_if hg1 hd1 hN1 h1' hf hname hb hop1 hargs (fun v' W' => v' = v ∧ S W') ((hC _ hH).mono fun e W' hh => ⟨v, hh.1, rfl, hh.2⟩) (fun v' W' a2 hR h3 h4 => ?_)
  obtain ⟨rfl, hS'⟩ := hR
  refine hK.out _ _ hS' (fun _ => ?_)
  have key2 := seg_ (P := P) (ops := ops) (Q := Q) (S := S) (ds := [n]) (N := N) (β := β) (M := M) (T := T) hT hM hQ (fuel := 1) (w := W') hS' l2 (L := ((marks l1 (Array.replicate (l2.length + 3 + l1.length) false)).setIfInBounds js true).setIfInBounds j true) (E := (d, .v v') :: (d0, .v v0) :: E1) (E' := E') (a := a2) hB3 he h3 (fun a3 h5 h6 => ?_)
  · rw [Nat.add_comm 1 l2.length] at key2
    exact key2
  · refine last_ (i := n) (N := none) _ ho hd hB4 (by simp) (fun K2 hK2 => ?_)
    refine skip_ (want_ hg) hd (hrun a3 W' hT h5 (hc W' hS').1 (hc W' hS').2) ?_
    refine hK2.out _ _ ?_
    exact done_ hB5 (h a3 W' (sub_ok h5 hsub2) (h6.trans (h4.trans h2)) hS')
end
theorem in_normal {Q : Exit → Act → World → Prop} {id : Nat} {a : Act} {w : World} (h : Q .normal a w) : Exit.inBlock id Q .normal a w := h
theorem then_exit {K : Act → World → Prop} {Q : Exit → Act → World → Prop} {id : Nat} {a : Act} {w : World} (h : Q (.exit id) a w) : Exit.then K Q (.exit id) a w := h
theorem exit_in {Q : Exit → Act → World → Prop} {id : Nat} {a : Act} {w : World} (h : Q .normal a w) : Exit.inBlock id Q (.exit id) a w := by
  simp only [Exit.inBlock, if_true]
  exact h
theorem has_two {β : Nat → Nat} (x0 x1 : SV) (k : Nat) : Has (2 + k) β [(0, x0), (1, x1)] ⟨#[x0.den β, x1.den β] ++ Array.replicate k undef, []⟩ := by
  refine ⟨by simp, fun t x hx => ?_⟩
  unfold look at hx
  split at hx
  · next e =>
    obtain rfl := Nat.eq_of_beq_eq_true e
    obtain rfl := Option.some.inj hx
    show ((#[x0.den β, x1.den β] ++ Array.replicate k undef).getD 0 undef) = _
    rw [Array.getD_eq_getD_getElem?, Array.getElem?_append_left (by simp)]
    rfl
  · unfold look at hx
    split at hx
    · next e =>
      obtain rfl := Nat.eq_of_beq_eq_true e
      obtain rfl := Option.some.inj hx
      show ((#[x0.den β, x1.den β] ++ Array.replicate k undef).getD 1 undef) = _
      rw [Array.getD_eq_getD_getElem?, Array.getElem?_append_left (by simp)]
      rfl
    · cases hx
end Go.Proofs.YtnehminojlocoaaDoor.PAll
namespace Go.Proofs.YtnehminojlocoaaDoor.PAll
open Go.RowKit Go.Proofs.YtnehminojlocoaaDoorW.PrintWords Go.Proofs.YtnehminojlocoaaDoorW.PrintLast Go.Proofs.YtnehminojlocoaaDoorW.PrintMore
set_option linter.unusedVariables false
set_option linter.unusedSimpArgs false
/-- Eight octets put together, as the package does it. -/
def le8 (x : Nat → Int) : Int := (Go.bits .or .u64 (Go.bits .or .u64 (Go.bits .or .u64 (Go.bits .or .u64 (Go.bits .or .u64 (Go.bits .or .u64 (Go.bits .or .u64 (IntKind.u64.wrap (x 0)) (IntKind.u64.wrap (IntKind.u64.wrap (x 1) * 256))) (IntKind.u64.wrap (IntKind.u64.wrap (x 2) * 65536))) (IntKind.u64.wrap (IntKind.u64.wrap (x 3) * 16777216))) (IntKind.u64.wrap (IntKind.u64.wrap (x 4) * 4294967296))) (IntKind.u64.wrap (IntKind.u64.wrap (x 5) * 1099511627776))) (IntKind.u64.wrap (IntKind.u64.wrap (x 6) * 281474976710656))) (IntKind.u64.wrap (IntKind.u64.wrap (x 7) * 72057594037927936)))
set_option maxHeartbeats 4000000 in
set_option maxRecDepth 100000 in
theorem u64_walk (b o n c : Nat) (hn : 8 ≤ n) (x : Nat → Int) (w : World) (hc : Bts b o 8 x w) :
    Calls Tryd.prog 43 #[.agg #[], .slice (some ⟨b, o, none⟩) n c] w fun e w' => e = .returned (.int .u64 (le8 x)) ∧ Below w.heap.size w w' := by
  have hb : Below w.heap.size w (w.alloc (.cells #[] 100)) := (Below.refl _ _).alloc (Nat.le_refl _) _
  have hw : ∀ i, i < 8 → (w.alloc (.cells #[] 100)).cell? ⟨b, o + i, none⟩ = some (.int .u8 (x i)) := hc.onB hb
  have HB := Lib.hid hb
  clear hb
  go_enter Tryd.func43, Tryd.ntmps43
  have c0 := hw 0 (by decide)
  have c1 := hw 1 (by decide)
  have c2 := hw 2 (by decide)
  have c3 := hw 3 (by decide)
  have c4 := hw 4 (by decide)
  have c5 := hw 5 (by decide)
  have c6 := hw 6 (by decide)
  have c7 := hw 7 (by decide)
  clear hc hw
  go_wp2_with fail
  rw [Nat.add_zero] at c0
  have i0 : (0 < n) = True := eq_true (by omega)
  have i1 : ((1 : Int) < (n : Int)) = True := eq_true (by omega)
  have i2 : ((2 : Int) < (n : Int)) = True := eq_true (by omega)
  have i3 : ((3 : Int) < (n : Int)) = True := eq_true (by omega)
  have i4 : ((4 : Int) < (n : Int)) = True := eq_true (by omega)
  have i5 : ((5 : Int) < (n : Int)) = True := eq_true (by omega)
  have i6 : ((6 : Int) < (n : Int)) = True := eq_true (by omega)
  have i7 : ((7 : Int) < (n : Int)) = True := eq_true (by omega)
  refine start_ (n := 47) (S := fun w' => w'.cell? ⟨b, o, none⟩ = some (.int .u8 (x 0)) ∧ w'.cell? ⟨b, o + 1, none⟩ = some (.int .u8 (x 1)) ∧ w'.cell? ⟨b, o + 2, none⟩ = some (.int .u8 (x 2)) ∧ w'.cell? ⟨b, o + 3, none⟩ = some (.int .u8 (x 3)) ∧ w'.cell? ⟨b, o + 4, none⟩ = some (.int .u8 (x 4)) ∧ w'.cell? ⟨b, o + 5, none⟩ = some (.int .u8 (x 5)) ∧ w'.cell? ⟨b, o + 6, none⟩ = some (.int .u8 (x 6)) ∧ w'.cell? ⟨b, o + 7, none⟩ = some (.int .u8 (x 7))) (ds := []) #[false, false, false, false, false, false, false, false, false, false, false, false, false, false, false, false, false, false, false, false, false, false, false, false, false, false, false, false, false, false, false, false, false, false, false, false, false, false, false, false, false, false, false, false, false, false, false] (by kernel_rfl) rfl rfl ⟨c0, c1, c2, c3, c4, c5, c6, c7⟩ (fun hHeld => ?_)
  refine pure_ (i := 0) (N := some 8) (v := ?_) (a' := ?_) #[true, false, false, false, false, false, false, false, false, false, false, false, false, false, false, false, false, false, false, false, false, false, false, false, false, false, false, false, false, false, false, false, false, false, false, false, false, false, false, false, false, false, false, false, false, false, false] rfl rfl (by kernel_rfl) (fun _ _ _ h => h) (Or.inl ⟨by rfl, ?_⟩) ?_ ?_
  rotate_left
  · intro w'
    go_simp
    with_reducible rfl
  rotate_left
  · simp only [Act.put, List.setIfInBounds_toArray, List.set_cons_zero, List.set_cons_succ, i64_w, i32_w]
    rfl
  refine pure_ (i := 1) (N := some 9) (v := ?_) (a' := ?_) #[true, true, false, false, false, false, false, false, false, false, false, false, false, false, false, false, false, false, false, false, false, false, false, false, false, false, false, false, false, false, false, false, false, false, false, false, false, false, false, false, false, false, false, false, false, false, false] rfl rfl (by kernel_rfl) (fun _ _ _ h => h) (Or.inl ⟨by rfl, ?_⟩) ?_ ?_
  rotate_left
  · intro w'
    go_simp
    with_reducible rfl
  rotate_left
  · simp only [Act.put, List.setIfInBounds_toArray, List.set_cons_zero, List.set_cons_succ, i64_w, i32_w]
    rfl
  refine pure_ (i := 4) (N := some 12) (v := ?_) (a' := ?_) #[true, true, false, false, true, false, false, false, false, false, false, false, false, false, false, false, false, false, false, false, false, false, false, false, false, false, false, false, false, false, false, false, false, false, false, false, false, false, false, false, false, false, false, false, false, false, false] rfl rfl (by kernel_rfl) (fun _ _ _ h => h) (Or.inl ⟨by rfl, ?_⟩) ?_ ?_
  rotate_left
  · intro w'
    go_simp
    with_reducible rfl
  rotate_left
  · simp only [Act.put, List.setIfInBounds_toArray, List.set_cons_zero, List.set_cons_succ, i64_w, i32_w]
    rfl
  refine pure_ (i := 5) (N := some 13) (v := ?_) (a' := ?_) #[true, true, false, false, true, true, false, false, false, false, false, false, false, false, false, false, false, false, false, false, false, false, false, false, false, false, false, false, false, false, false, false, false, false, false, false, false, false, false, false, false, false, false, false, false, false, false] rfl rfl (by kernel_rfl) (fun _ _ _ h => h) (Or.inl ⟨by rfl, ?_⟩) ?_ ?_
  rotate_left
  · intro w'
    go_simp
    with_reducible rfl
  rotate_left
  · simp only [Act.put, List.setIfInBounds_toArray, List.set_cons_zero, List.set_cons_succ, i64_w, i32_w]
    rfl
  refine pure_ (i := 10) (N := some 18) (v := ?_) (a' := ?_) #[true, true, false, false, true, true, false, false, false, false, true, false, false, false, false, false, false, false, false, false, false, false, false, false, false, false, false, false, false, false, false, false, false, false, false, false, false, false, false, false, false, false, false, false, false, false, false] rfl rfl (by kernel_rfl) (fun _ _ _ h => h) (Or.inl ⟨by rfl, ?_⟩) ?_ ?_
  rotate_left
  · intro w'
    go_simp
    with_reducible rfl
  rotate_left
  · simp only [Act.put, List.setIfInBounds_toArray, List.set_cons_zero, List.set_cons_succ, i64_w, i32_w]
    rfl
  refine pure_ (i := 11) (N := some 19) (v := ?_) (a' := ?_) #[true, true, false, false, true, true, false, false, false, false, true, true, false, false, false, false, false, false, false, false, false, false, false, false, false, false, false, false, false, false, false, false, false, false, false, false, false, false, false, false, false, false, false, false, false, false, false] rfl rfl (by kernel_rfl) (fun _ _ _ h => h) (Or.inl ⟨by rfl, ?_⟩) ?_ ?_
  rotate_left
  · intro w'
    go_simp
    with_reducible rfl
  rotate_left
  · simp only [Act.put, List.setIfInBounds_toArray, List.set_cons_zero, List.set_cons_succ, i64_w, i32_w]
    rfl
  refine pure_ (i := 16) (N := some 24) (v := ?_) (a' := ?_) #[true, true, false, false, true, true, false, false, false, false, true, true, false, false, false, false, true, false, false, false, false, false, false, false, false, false, false, false, false, false, false, false, false, false, false, false, false, false, false, false, false, false, false, false, false, false, false] rfl rfl (by kernel_rfl) (fun _ _ _ h => h) (Or.inl ⟨by rfl, ?_⟩) ?_ ?_
  rotate_left
  · intro w'
    go_simp
    with_reducible rfl
  rotate_left
  · simp only [Act.put, List.setIfInBounds_toArray, List.set_cons_zero, List.set_cons_succ, i64_w, i32_w]
    rfl
  refine pure_ (i := 17) (N := some 25) (v := ?_) (a' := ?_) #[true, true, false, false, true, true, false, false, false, false, true, true, false, false, false, false, true, true, false, false, false, false, false, false, false, false, false, false, false, false, false, false, false, false, false, false, false, false, false, false, false, false, false, false, false, false, false] rfl rfl (by kernel_rfl) (fun _ _ _ h => h) (Or.inl ⟨by rfl, ?_⟩) ?_ ?_
  rotate_left
  · intro w'
    go_simp
    with_reducible rfl
  rotate_left
  · simp only [Act.put, List.setIfInBounds_toArray, List.set_cons_zero, List.set_cons_succ, i64_w, i32_w]
    rfl
  refine pure_ (i := 22) (N := some 30) (v := ?_) (a' := ?_) #[true, true, false, false, true, true, false, false, false, false, true, true, false, false, false, false, true, true, false, false, false, false, true, false, false, false, false, false, false, false, false, false, false, false, false, false, false, false, false, false, false, false, false, false, false, false, false] rfl rfl (by kernel_rfl) (fun _ _ _ h => h) (Or.inl ⟨by rfl, ?_⟩) ?_ ?_
  rotate_left
  · intro w'
    go_simp
    with_reducible rfl
  rotate_left
  · simp only [Act.put, List.setIfInBounds_toArray, List.set_cons_zero, List.set_cons_succ, i64_w, i32_w]
    rfl
  refine pure_ (i := 23) (N := some 31) (v := ?_) (a' := ?_) #[true, true, false, false, true, true, false, false, false, false, true, true, false, false, false, false, true, true, false, false, false, false, true, true, false, false, false, false, false, false, false, false, false, false, false, false, false, false, false, false, false, false, false, false, false, false, false] rfl rfl (by kernel_rfl) (fun _ _ _ h => h) (Or.inl ⟨by rfl, ?_⟩) ?_ ?_
  rotate_left
  · intro w'
    go_simp
    with_reducible rfl
  rotate_left
  · simp only [Act.put, List.setIfInBounds_toArray, List.set_cons_zero, List.set_cons_succ, i64_w, i32_w]
    rfl
  refine pure_ (i := 28) (N := some 36) (v := ?_) (a' := ?_) #[true, true, false, false, true, true, false, false, false, false, true, true, false, false, false, false, true, true, false, false, false, false, true, true, false, false, false, false, true, false, false, false, false, false, false, false, false, false, false, false, false, false, false, false, false, false, false] rfl rfl (by kernel_rfl) (fun _ _ _ h => h) (Or.inl ⟨by rfl, ?_⟩) ?_ ?_
  rotate_left
  · intro w'
    go_simp
    with_reducible rfl
  rotate_left
  · simp only [Act.put, List.setIfInBounds_toArray, List.set_cons_zero, List.set_cons_succ, i64_w, i32_w]
    rfl
  refine pure_ (i := 29) (N := some 37) (v := ?_) (a' := ?_) #[true, true, false, false, true, true, false, false, false, false, true, true, false, false, false, false, true, true, false, false, false, false, true, true, false, false, false, false, true, true, false, false, false, false, false, false, false, false, false, false, false, false, false, false, false, false, false] rfl rfl (by kernel_rfl) (fun _ _ _ h => h) (Or.inl ⟨by rfl, ?_⟩) ?_ ?_
  rotate_left
  · intro w'
    go_simp
    with_reducible rfl
  rotate_left
  · simp only [Act.put, List.setIfInBounds_toArray, List.set_cons_zero, List.set_cons_succ, i64_w, i32_w]
    rfl
  refine pure_ (i := 34) (N := some 42) (v := ?_) (a' := ?_) #[true, true, false, false, true, true, false, false, false, false, true, true, false, false, false, false, true, true, false, false, false, false, true, true, false, false, false, false, true, true, false, false, false, false, true, false, false, false, false, false, false, false, false, false, false, false, false] rfl rfl (by kernel_rfl) (fun _ _ _ h => h) (Or.inl ⟨by rfl, ?_⟩) ?_ ?_
  rotate_left
  · intro w'
    go_simp
    with_reducible rfl
  rotate_left
  · simp only [Act.put, List.setIfInBounds_toArray, List.set_cons_zero, List.set_cons_succ, i64_w, i32_w]
    rfl
  refine pure_ (i := 35) (N := some 43) (v := ?_) (a' := ?_) #[true, true, false, false, true, true, false, false, false, false, true, true, false, false, false, false, true, true, false, false, false, false, true, true, false, false, false, false, true, true, false, false, false, false, true, true, false, false, false, false, false, false, false, false, false, false, false] rfl rfl (by kernel_rfl) (fun _ _ _ h => h) (Or.inl ⟨by rfl, ?_⟩) ?_ ?_
  rotate_left
  · intro w'
    go_simp
    with_reducible rfl
  rotate_left
  · simp only [Act.put, List.setIfInBounds_toArray, List.set_cons_zero, List.set_cons_succ, i64_w, i32_w]
    rfl
  refine pure_ (i := 40) (N := some 48) (v := ?_) (a' := ?_) #[true, true, false, false, true, true, false, false, false, false, true, true, false, false, false, false, true, true, false, false, false, false, true, true, false, false, false, false, true, true, false, false, false, false, true, true, false, false, false, false, true, false, false, false, false, false, false] rfl rfl (by kernel_rfl) (fun _ _ _ h => h) (Or.inl ⟨by rfl, ?_⟩) ?_ ?_
  rotate_left
  · intro w'
    go_simp
    with_reducible rfl
  rotate_left
  · simp only [Act.put, List.setIfInBounds_toArray, List.set_cons_zero, List.set_cons_succ, i64_w, i32_w]
    rfl
  refine pure_ (i := 41) (N := some 49) (v := ?_) (a' := ?_) #[true, true, false, false, true, true, false, false, false, false, true, true, false, false, false, false, true, true, false, false, false, false, true, true, false, false, false, false, true, true, false, false, false, false, true, true, false, false, false, false, true, true, false, false, false, false, false] rfl rfl (by kernel_rfl) (fun _ _ _ h => h) (Or.inl ⟨by rfl, ?_⟩) ?_ ?_
  rotate_left
  · intro w'
    go_simp
    with_reducible rfl
  rotate_left
  · simp only [Act.put, List.setIfInBounds_toArray, List.set_cons_zero, List.set_cons_succ, i64_w, i32_w]
    rfl
  refine take_ (i := 2) (N := some 10) (v := ?_) (a' := ?_) #[true, true, true, false, true, true, false, false, false, false, true, true, false, false, false, false, true, true, false, false, false, false, true, true, false, false, false, false, true, true, false, false, false, false, true, true, false, false, false, false, true, true, false, false, false, false, false] rfl rfl (by kernel_rfl) (fun _ _ _ h => h) (Or.inl ⟨by rfl, ?_⟩) hHeld ?_ ?_
  rotate_left
  · rintro w' ⟨s0, s1, s2, s3, s4, s5, s6, s7⟩
    go_simp
    with_reducible rfl
  rotate_left
  · simp only [Act.put, List.setIfInBounds_toArray, List.set_cons_zero, List.set_cons_succ, i64_w, i32_w]
    rfl
  refine pure_ (i := 3) (N := some 11) (v := ?_) (a' := ?_) #[true, true, true, true, true, true, false, false, false, false, true, true, false, false, false, false, true, true, false, false, false, false, true, true, false, false, false, false, true, true, false, false, false, false, true, true, false, false, false, false, true, true, false, false, false, false, false] rfl rfl (by kernel_rfl) (fun _ _ _ h => h) (Or.inl ⟨by rfl, ?_⟩) ?_ ?_
  rotate_left
  · intro w'
    go_simp
    with_reducible rfl
  rotate_left
  · simp only [Act.put, List.setIfInBounds_toArray, List.set_cons_zero, List.set_cons_succ, i64_w, i32_w]
    rfl
  refine take_ (i := 6) (N := some 14) (v := ?_) (a' := ?_) #[true, true, true, true, true, true, true, false, false, false, true, true, false, false, false, false, true, true, false, false, false, false, true, true, false, false, false, false, true, true, false, false, false, false, true, true, false, false, false, false, true, true, false, false, false, false, false] rfl rfl (by kernel_rfl) (fun _ _ _ h => h) (Or.inl ⟨by rfl, ?_⟩) hHeld ?_ ?_
  rotate_left
  · rintro w' ⟨s0, s1, s2, s3, s4, s5, s6, s7⟩
    go_simp
    with_reducible rfl
  rotate_left
  · simp only [Act.put, List.setIfInBounds_toArray, List.set_cons_zero, List.set_cons_succ, i64_w, i32_w]
    rfl
  refine pure_ (i := 7) (N := some 15) (v := ?_) (a' := ?_) #[true, true, true, true, true, true, true, true, false, false, true, true, false, false, false, false, true, true, false, false, false, false, true, true, false, false, false, false, true, true, false, false, false, false, true, true, false, false, false, false, true, true, false, false, false, false, false] rfl rfl (by kernel_rfl) (fun _ _ _ h => h) (Or.inl ⟨by rfl, ?_⟩) ?_ ?_
  rotate_left
  · intro w'
    go_simp
    with_reducible rfl
  rotate_left
  · simp only [Act.put, List.setIfInBounds_toArray, List.set_cons_zero, List.set_cons_succ, i64_w, i32_w]
    rfl
  refine pure_ (i := 8) (N := some 16) (v := ?_) (a' := ?_) #[true, true, true, true, true, true, true, true, true, false, true, true, false, false, false, false, true, true, false, false, false, false, true, true, false, false, false, false, true, true, false, false, false, false, true, true, false, false, false, false, true, true, false, false, false, false, false] rfl rfl (by kernel_rfl) (fun _ _ _ h => h) (Or.inl ⟨by rfl, ?_⟩) ?_ ?_
  rotate_left
  · intro w'
    go_simp
    with_reducible rfl
  rotate_left
  · simp only [Act.put, List.setIfInBounds_toArray, List.set_cons_zero, List.set_cons_succ, i64_w, i32_w]
    rfl
  refine pure_ (i := 9) (N := some 17) (v := ?_) (a' := ?_) #[true, true, true, true, true, true, true, true, true, true, true, true, false, false, false, false, true, true, false, false, false, false, true, true, false, false, false, false, true, true, false, false, false, false, true, true, false, false, false, false, true, true, false, false, false, false, false] rfl rfl (by kernel_rfl) (fun _ _ _ h => h) (Or.inl ⟨by rfl, ?_⟩) ?_ ?_
  rotate_left
  · intro w'
    go_simp
    with_reducible rfl
  rotate_left
  · simp only [Act.put, List.setIfInBounds_toArray, List.set_cons_zero, List.set_cons_succ, i64_w, i32_w]
    rfl
  refine take_ (i := 12) (N := some 20) (v := ?_) (a' := ?_) #[true, true, true, true, true, true, true, true, true, true, true, true, true, false, false, false, true, true, false, false, false, false, true, true, false, false, false, false, true, true, false, false, false, false, true, true, false, false, false, false, true, true, false, false, false, false, false] rfl rfl (by kernel_rfl) (fun _ _ _ h => h) (Or.inl ⟨by rfl, ?_⟩) hHeld ?_ ?_
  rotate_left
  · rintro w' ⟨s0, s1, s2, s3, s4, s5, s6, s7⟩
    go_simp
    with_reducible rfl
  rotate_left
  · simp only [Act.put, List.setIfInBounds_toArray, List.set_cons_zero, List.set_cons_succ, i64_w, i32_w]
    rfl
  refine pure_ (i := 13) (N := some 21) (v := ?_) (a' := ?_) #[true, true, true, true, true, true, true, true, true, true, true, true, true, true, false, false, true, true, false, false, false, false, true, true, false, false, false, false, true, true, false, false, false, false, true, true, false, false, false, false, true, true, false, false, false, false, false] rfl rfl (by kernel_rfl) (fun _ _ _ h => h) (Or.inl ⟨by rfl, ?_⟩) ?_ ?_
  rotate_left
  · intro w'
    go_simp
    with_reducible rfl
  rotate_left
  · simp only [Act.put, List.setIfInBounds_toArray, List.set_cons_zero, List.set_cons_succ, i64_w, i32_w]
    rfl
  refine pure_ (i := 14) (N := some 22) (v := ?_) (a' := ?_) #[true, true, true, true, true, true, true, true, true, true, true, true, true, true, true, false, true, true, false, false, false, false, true, true, false, false, false, false, true, true, false, false, false, false, true, true, false, false, false, false, true, true, false, false, false, false, false] rfl rfl (by kernel_rfl) (fun _ _ _ h => h) (Or.inl ⟨by rfl, ?_⟩) ?_ ?_
  rotate_left
  · intro w'
    go_simp
    with_reducible rfl
  rotate_left
  · simp only [Act.put, List.setIfInBounds_toArray, List.set_cons_zero, List.set_cons_succ, i64_w, i32_w]
    rfl
  refine pure_ (i := 15) (N := some 23) (v := ?_) (a' := ?_) #[true, true, true, true, true, true, true, true, true, true, true, true, true, true, true, true, true, true, false, false, false, false, true, true, false, false, false, false, true, true, false, false, false, false, true, true, false, false, false, false, true, true, false, false, false, false, false] rfl rfl (by kernel_rfl) (fun _ _ _ h => h) (Or.inl ⟨by rfl, ?_⟩) ?_ ?_
  rotate_left
  · intro w'
    go_simp
    with_reducible rfl
  rotate_left
  · simp only [Act.put, List.setIfInBounds_toArray, List.set_cons_zero, List.set_cons_succ, i64_w, i32_w]
    rfl
  refine take_ (i := 18) (N := some 26) (v := ?_) (a' := ?_) #[true, true, true, true, true, true, true, true, true, true, true, true, true, true, true, true, true, true, true, false, false, false, true, true, false, false, false, false, true, true, false, false, false, false, true, true, false, false, false, false, true, true, false, false, false, false, false] rfl rfl (by kernel_rfl) (fun _ _ _ h => h) (Or.inl ⟨by rfl, ?_⟩) hHeld ?_ ?_
  rotate_left
  · rintro w' ⟨s0, s1, s2, s3, s4, s5, s6, s7⟩
    go_simp
    with_reducible rfl
  rotate_left
  · simp only [Act.put, List.setIfInBounds_toArray, List.set_cons_zero, List.set_cons_succ, i64_w, i32_w]
    rfl
  refine pure_ (i := 19) (N := some 27) (v := ?_) (a' := ?_) #[true, true, true, true, true, true, true, true, true, true, true, true, true, true, true, true, true, true, true, true, false, false, true, true, false, false, false, false, true, true, false, false, false, false, true, true, false, false, false, false, true, true, false, false, false, false, false] rfl rfl (by kernel_rfl) (fun _ _ _ h => h) (Or.inl ⟨by rfl, ?_⟩) ?_ ?_
  rotate_left
  · intro w'
    go_simp
    with_reducible rfl
  rotate_left
  · simp only [Act.put, List.setIfInBounds_toArray, List.set_cons_zero, List.set_cons_succ, i64_w, i32_w]
    rfl
  refine pure_ (i := 20) (N := some 28) (v := ?_) (a' := ?_) #[true, true, true, true, true, true, true, true, true, true, true, true, true, true, true, true, true, true, true, true, true, false, true, true, false, false, false, false, true, true, false, false, false, false, true, true, false, false, false, false, true, true, false, false, false, false, false] rfl rfl (by kernel_rfl) (fun _ _ _ h => h) (Or.inl ⟨by rfl, ?_⟩) ?_ ?_
  rotate_left
  · intro w'
    go_simp
    with_reducible rfl
  rotate_left
  · simp only [Act.put, List.setIfInBounds_toArray, List.set_cons_zero, List.set_cons_succ, i64_w, i32_w]
    rfl
  refine pure_ (i := 21) (N := some 29) (v := ?_) (a' := ?_) #[true, true, true, true, true, true, true, true, true, true, true, true, true, true, true, true, true, true, true, true, true, true, true, true, false, false, false, false, true, true, false, false, false, false, true, true, false, false, false, false, true, true, false, false, false, false, false] rfl rfl (by kernel_rfl) (fun _ _ _ h => h) (Or.inl ⟨by rfl, ?_⟩) ?_ ?_
  rotate_left
  · intro w'
    go_simp
    with_reducible rfl
  rotate_left
  · simp only [Act.put, List.setIfInBounds_toArray, List.set_cons_zero, List.set_cons_succ, i64_w, i32_w]
    rfl
  refine take_ (i := 24) (N := some 32) (v := ?_) (a' := ?_) #[true, true, true, true, true, true, true, true, true, true, true, true, true, true, true, true, true, true, true, true, true, true, true, true, true, false, false, false, true, true, false, false, false, false, true, true, false, false, false, false, true, true, false, false, false, false, false] rfl rfl (by kernel_rfl) (fun _ _ _ h => h) (Or.inl ⟨by rfl, ?_⟩) hHeld ?_ ?_
  rotate_left
  · rintro w' ⟨s0, s1, s2, s3, s4, s5, s6, s7⟩
    go_simp
    with_reducible rfl
  rotate_left
  · simp only [Act.put, List.setIfInBounds_toArray, List.set_cons_zero, List.set_cons_succ, i64_w, i32_w]
    rfl
  refine pure_ (i := 25) (N := some 33) (v := ?_) (a' := ?_) #[true, true, true, true, true, true, true, true, true, true, true, true, true, true, true, true, true, true, true, true, true, true, true, true, true, true, false, false, true, true, false, false, false, false, true, true, false, false, false, false, true, true, false, false, false, false, false] rfl rfl (by kernel_rfl) (fun _ _ _ h => h) (Or.inl ⟨by rfl, ?_⟩) ?_ ?_
  rotate_left
  · intro w'
    go_simp
    with_reducible rfl
  rotate_left
  · simp only [Act.put, List.setIfInBounds_toArray, List.set_cons_zero, List.set_cons_succ, i64_w, i32_w]
    rfl
  refine pure_ (i := 26) (N := some 34) (v := ?_) (a' := ?_) #[true, true, true, true, true, true, true, true, true, true, true, true, true, true, true, true, true, true, true, true, true, true, true, true, true, true, true, false, true, true, false, false, false, false, true, true, false, false, false, false, true, true, false, false, false, false, false] rfl rfl (by kernel_rfl) (fun _ _ _ h => h) (Or.inl ⟨by rfl, ?_⟩) ?_ ?_
  rotate_left
  · intro w'
    go_simp
    with_reducible rfl
  rotate_left
  · simp only [Act.put, List.setIfInBounds_toArray, List.set_cons_zero, List.set_cons_succ, i64_w, i32_w]
    rfl
  refine pure_ (i := 27) (N := some 35) (v := ?_) (a' := ?_) #[true, true, true, true, true, true, true, true, true, true, true, true, true, true, true, true, true, true, true, true, true, true, true, true, true, true, true, true, true, true, false, false, false, false, true, true, false, false, false, false, true, true, false, false, false, false, false] rfl rfl (by kernel_rfl) (fun _ _ _ h => h) (Or.inl ⟨by rfl, ?_⟩) ?_ ?_
  rotate_left
  · intro w'
    go_simp
    with_reducible rfl
  rotate_left
  · simp only [Act.put, List.setIfInBounds_toArray, List.set_cons_zero, List.set_cons_succ, i64_w, i32_w]
    rfl
  refine take_ (i := 30) (N := some 38) (v := ?_) (a' := ?_) #[true, true, true, true, true, true, true, true, true, true, true, true, true, true, true, true, true, true, true, true, true, true, true, true, true, true, true, true, true, true, true, false, false, false, true, true, false, false, false, false, true, true, false, false, false, false, false] rfl rfl (by kernel_rfl) (fun _ _ _ h => h) (Or.inl ⟨by rfl, ?_⟩) hHeld ?_ ?_
  rotate_left
  · rintro w' ⟨s0, s1, s2, s3, s4, s5, s6, s7⟩
    go_simp
    with_reducible rfl
  rotate_left
  · simp only [Act.put, List.setIfInBounds_toArray, List.set_cons_zero, List.set_cons_succ, i64_w, i32_w]
    rfl
  refine pure_ (i := 31) (N := some 39) (v := ?_) (a' := ?_) #[true, true, true, true, true, true, true, true, true, true, true, true, true, true, true, true, true, true, true, true, true, true, true, true, true, true, true, true, true, true, true, true, false, false, true, true, false, false, false, false, true, true, false, false, false, false, false] rfl rfl (by kernel_rfl) (fun _ _ _ h => h) (Or.inl ⟨by rfl, ?_⟩) ?_ ?_
  rotate_left
  · intro w'
    go_simp
    with_reducible rfl
  rotate_left
  · simp only [Act.put, List.setIfInBounds_toArray, List.set_cons_zero, List.set_cons_succ, i64_w, i32_w]
    rfl
  refine pure_ (i := 32) (N := some 40) (v := ?_) (a' := ?_) #[true, true, true, true, true, true, true, true, true, true, true, true, true, true, true, true, true, true, true, true, true, true, true, true, true, true, true, true, true, true, true, true, true, false, true, true, false, false, false, false, true, true, false, false, false, false, false] rfl rfl (by kernel_rfl) (fun _ _ _ h => h) (Or.inl ⟨by rfl, ?_⟩) ?_ ?_
  rotate_left
  · intro w'
    go_simp
    with_reducible rfl
  rotate_left
  · simp only [Act.put, List.setIfInBounds_toArray, List.set_cons_zero, List.set_cons_succ, i64_w, i32_w]
    rfl
  refine pure_ (i := 33) (N := some 41) (v := ?_) (a' := ?_) #[true, true, true, true, true, true, true, true, true, true, true, true, true, true, true, true, true, true, true, true, true, true, true, true, true, true, true, true, true, true, true, true, true, true, true, true, false, false, false, false, true, true, false, false, false, false, false] rfl rfl (by kernel_rfl) (fun _ _ _ h => h) (Or.inl ⟨by rfl, ?_⟩) ?_ ?_
  rotate_left
  · intro w'
    go_simp
    with_reducible rfl
  rotate_left
  · simp only [Act.put, List.setIfInBounds_toArray, List.set_cons_zero, List.set_cons_succ, i64_w, i32_w]
    rfl
  refine take_ (i := 36) (N := some 44) (v := ?_) (a' := ?_) #[true, true, true, true, true, true, true, true, true, true, true, true, true, true, true, true, true, true, true, true, true, true, true, true, true, true, true, true, true, true, true, true, true, true, true, true, true, false, false, false, true, true, false, false, false, false, false] rfl rfl (by kernel_rfl) (fun _ _ _ h => h) (Or.inl ⟨by rfl, ?_⟩) hHeld ?_ ?_
  rotate_left
  · rintro w' ⟨s0, s1, s2, s3, s4, s5, s6, s7⟩
    go_simp
    with_reducible rfl
  rotate_left
  · simp only [Act.put, List.setIfInBounds_toArray, List.set_cons_zero, List.set_cons_succ, i64_w, i32_w]
    rfl
  refine pure_ (i := 37) (N := some 45) (v := ?_) (a' := ?_) #[true, true, true, true, true, true, true, true, true, true, true, true, true, true, true, true, true, true, true, true, true, true, true, true, true, true, true, true, true, true, true, true, true, true, true, true, true, true, false, false, true, true, false, false, false, false, false] rfl rfl (by kernel_rfl) (fun _ _ _ h => h) (Or.inl ⟨by rfl, ?_⟩) ?_ ?_
  rotate_left
  · intro w'
    go_simp
    with_reducible rfl
  rotate_left
  · simp only [Act.put, List.setIfInBounds_toArray, List.set_cons_zero, List.set_cons_succ, i64_w, i32_w]
    rfl
  refine pure_ (i := 38) (N := some 46) (v := ?_) (a' := ?_) #[true, true, true, true, true, true, true, true, true, true, true, true, true, true, true, true, true, true, true, true, true, true, true, true, true, true, true, true, true, true, true, true, true, true, true, true, true, true, true, false, true, true, false, false, false, false, false] rfl rfl (by kernel_rfl) (fun _ _ _ h => h) (Or.inl ⟨by rfl, ?_⟩) ?_ ?_
  rotate_left
  · intro w'
    go_simp
    with_reducible rfl
  rotate_left
  · simp only [Act.put, List.setIfInBounds_toArray, List.set_cons_zero, List.set_cons_succ, i64_w, i32_w]
    rfl
  refine pure_ (i := 39) (N := some 47) (v := ?_) (a' := ?_) #[true, true, true, true, true, true, true, true, true, true, true, true, true, true, true, true, true, true, true, true, true, true, true, true, true, true, true, true, true, true, true, true, true, true, true, true, true, true, true, true, true, true, false, false, false, false, false] rfl rfl (by kernel_rfl) (fun _ _ _ h => h) (Or.inl ⟨by rfl, ?_⟩) ?_ ?_
  rotate_left
  · intro w'
    go_simp
    with_reducible rfl
  rotate_left
  · simp only [Act.put, List.setIfInBounds_toArray, List.set_cons_zero, List.set_cons_succ, i64_w, i32_w]
    rfl
  refine take_ (i := 42) (N := some 50) (v := ?_) (a' := ?_) #[true, true, true, true, true, true, true, true, true, true, true, true, true, true, true, true, true, true, true, true, true, true, true, true, true, true, true, true, true, true, true, true, true, true, true, true, true, true, true, true, true, true, true, false, false, false, false] rfl rfl (by kernel_rfl) (fun _ _ _ h => h) (Or.inl ⟨by rfl, ?_⟩) hHeld ?_ ?_
  rotate_left
  · rintro w' ⟨s0, s1, s2, s3, s4, s5, s6, s7⟩
    go_simp
    with_reducible rfl
  rotate_left
  · simp only [Act.put, List.setIfInBounds_toArray, List.set_cons_zero, List.set_cons_succ, i64_w, i32_w]
    rfl
  refine pure_ (i := 43) (N := some 51) (v := ?_) (a' := ?_) #[true, true, true, true, true, true, true, true, true, true, true, true, true, true, true, true, true, true, true, true, true, true, true, true, true, true, true, true, true, true, true, true, true, true, true, true, true, true, true, true, true, true, true, true, false, false, false] rfl rfl (by kernel_rfl) (fun _ _ _ h => h) (Or.inl ⟨by rfl, ?_⟩) ?_ ?_
  rotate_left
  · intro w'
    go_simp
    with_reducible rfl
  rotate_left
  · simp only [Act.put, List.setIfInBounds_toArray, List.set_cons_zero, List.set_cons_succ, i64_w, i32_w]
    rfl
  refine pure_ (i := 44) (N := some 52) (v := ?_) (a' := ?_) #[true, true, true, true, true, true, true, true, true, true, true, true, true, true, true, true, true, true, true, true, true, true, true, true, true, true, true, true, true, true, true, true, true, true, true, true, true, true, true, true, true, true, true, true, true, false, false] rfl rfl (by kernel_rfl) (fun _ _ _ h => h) (Or.inl ⟨by rfl, ?_⟩) ?_ ?_
  rotate_left
  · intro w'
    go_simp
    with_reducible rfl
  rotate_left
  · simp only [Act.put, List.setIfInBounds_toArray, List.set_cons_zero, List.set_cons_succ, i64_w, i32_w]
    rfl
  refine pure_ (i := 45) (N := some 53) (v := ?_) (a' := ?_) #[true, true, true, true, true, true, true, true, true, true, true, true, true, true, true, true, true, true, true, true, true, true, true, true, true, true, true, true, true, true, true, true, true, true, true, true, true, true, true, true, true, true, true, true, true, true, false] rfl rfl (by kernel_rfl) (fun _ _ _ h => h) (Or.inl ⟨by rfl, ?_⟩) ?_ ?_
  rotate_left
  · intro w'
    go_simp
    with_reducible rfl
  rotate_left
  · simp only [Act.put, List.setIfInBounds_toArray, List.set_cons_zero, List.set_cons_succ, i64_w, i32_w]
    rfl
  refine pure_ (i := 46) (N := some 4) (v := ?_) (a' := ?_) #[true, true, true, true, true, true, true, true, true, true, true, true, true, true, true, true, true, true, true, true, true, true, true, true, true, true, true, true, true, true, true, true, true, true, true, true, true, true, true, true, true, true, true, true, true, true, true] rfl rfl (by kernel_rfl) (fun _ _ _ h => h) (Or.inl ⟨by rfl, ?_⟩) ?_ ?_
  rotate_left
  · intro w'
    go_simp
    with_reducible rfl
  rotate_left
  · simp only [Act.put, List.setIfInBounds_toArray, List.set_cons_zero, List.set_cons_succ, i64_w, i32_w]
    rfl
  refine done_ (by kernel_rfl) ?_
  go_wp2
  go_ret
  exact ⟨rfl, HB.out.drew⟩
set_option maxHeartbeats 4000000 in
set_option maxRecDepth 100000 in
def p64C (cur : Array Value) (o : Nat) (v : Int) : Array Value := ((((((((cur.setIfInBounds (o) (.int .u8 (v % 256))).setIfInBounds (o + 1) (.int .u8 (v / 256 % 256))).setIfInBounds (o + 2) (.int .u8 (v / 65536 % 256))).setIfInBounds (o + 3) (.int .u8 (v / 16777216 % 256))).setIfInBounds (o + 4) (.int .u8 (v / 4294967296 % 256))).setIfInBounds (o + 5) (.int .u8 (v / 1099511627776 % 256))).setIfInBounds (o + 6) (.int .u8 (v / 281474976710656 % 256))).setIfInBounds (o + 7) (.int .u8 (v / 72057594037927936 % 256)))
set_option maxHeartbeats 4000000 in
set_option maxRecDepth 100000 in
theorem p64_walk (g t o n c : Nat) (v : Int) (hn : 8 ≤ n) (cur : Array Value) (w : World) (hh : w.heap[g]? = some (.cells cur t (0, 0))) (ho : o + 8 ≤ cur.size) :
    Calls Tryd.prog 51 #[.agg #[], .slice (some ⟨g, o, none⟩) n c, .int .u64 v] w fun e w' => e = .returned (.tuple #[]) ∧ w'.heap[g]? = some (.cells (p64C cur o v) t (0, 0)) ∧ Fr [g] w w' := by
  have hl := blk_lt hh
  have i1 : ((1 : Int) < (n : Int)) = True := eq_true (by omega)
  have i2 : ((2 : Int) < (n : Int)) = True := eq_true (by omega)
  have i3 : ((3 : Int) < (n : Int)) = True := eq_true (by omega)
  have i4 : ((4 : Int) < (n : Int)) = True := eq_true (by omega)
  have i5 : ((5 : Int) < (n : Int)) = True := eq_true (by omega)
  have i6 : ((6 : Int) < (n : Int)) = True := eq_true (by omega)
  have i7 : ((7 : Int) < (n : Int)) = True := eq_true (by omega)
  have i0 : (0 < n) = True := eq_true (by omega)
  have E0 := Lib.hid (And.intro (blk_alloc hh (.cells #[] 100)) ((Fr.refl [g] w).alloc (.cells #[] 100)))
  clear hh
  go_enter Tryd.func51, Tryd.ntmps51
  go_upto_region 1 with (fail)
  obtain ⟨hh, FW⟩ := E0.out
  clear E0
  generalize w.alloc (.cells #[] 100) = V0 at hh FW ⊢
  obtain ⟨u7, c7⟩ : ∃ u, V0.cell? ⟨g, o + 7, none⟩ = some u := ⟨_, (blk_cell hh _).trans (Array.getElem?_eq_getElem (by omega))⟩
  go_upto_region 2 with (fail)
  clear c7
  obtain ⟨u, c⟩ : ∃ u, V0.cell? ⟨g, o, none⟩ = some u := ⟨_, (blk_cell hh _).trans (Array.getElem?_eq_getElem (by (try simp only [Array.size_setIfInBounds]); omega))⟩
  have f := blk_frozen hh (o)
  have E1 := Lib.hid (And.intro hh FW)
  clear hh FW
  go_upto_region 3 with (fail)
  obtain ⟨hh, FW⟩ := E1.out
  replace hh : (V0.setCell ⟨g, o, none⟩ (.int .u8 (v % 256))).heap[g]? = some (.cells (cur.setIfInBounds (o) (.int .u8 (v % 256))) t (0, 0)) := blk_set hh (o) (.int .u8 (v % 256))
  replace FW := FW.set ⟨g, o, none⟩ (by simp) (.int .u8 (v % 256))
  clear c f E1
  generalize V0.setCell ⟨g, o, none⟩ (.int .u8 (v % 256)) = V1 at hh FW ⊢
  obtain ⟨u, c⟩ : ∃ u, V1.cell? ⟨g, o + 1, none⟩ = some u := ⟨_, (blk_cell hh _).trans (Array.getElem?_eq_getElem (by (try simp only [Array.size_setIfInBounds]); omega))⟩
  have f := blk_frozen hh (o + 1)
  have E1 := Lib.hid (And.intro hh FW)
  clear hh FW
  go_upto_region 4 with (fail)
  obtain ⟨hh, FW⟩ := E1.out
  replace hh : (V1.setCell ⟨g, o + 1, none⟩ (.int .u8 (v / 256 % 256))).heap[g]? = some (.cells ((cur.setIfInBounds (o) (.int .u8 (v % 256))).setIfInBounds (o + 1) (.int .u8 (v / 256 % 256))) t (0, 0)) := blk_set hh (o + 1) (.int .u8 (v / 256 % 256))
  replace FW := FW.set ⟨g, o + 1, none⟩ (by simp) (.int .u8 (v / 256 % 256))
  clear c f E1
  generalize V1.setCell ⟨g, o + 1, none⟩ (.int .u8 (v / 256 % 256)) = V2 at hh FW ⊢
  obtain ⟨u, c⟩ : ∃ u, V2.cell? ⟨g, o + 2, none⟩ = some u := ⟨_, (blk_cell hh _).trans (Array.getElem?_eq_getElem (by (try simp only [Array.size_setIfInBounds]); omega))⟩
  have f := blk_frozen hh (o + 2)
  have E1 := Lib.hid (And.intro hh FW)
  clear hh FW
  go_upto_region 5 with (fail)
  obtain ⟨hh, FW⟩ := E1.out
  replace hh : (V2.setCell ⟨g, o + 2, none⟩ (.int .u8 (v / 65536 % 256))).heap[g]? = some (.cells (((cur.setIfInBounds (o) (.int .u8 (v % 256))).setIfInBounds (o + 1) (.int .u8 (v / 256 % 256))).setIfInBounds (o + 2) (.int .u8 (v / 65536 % 256))) t (0, 0)) := blk_set hh (o + 2) (.int .u8 (v / 65536 % 256))
  replace FW := FW.set ⟨g, o + 2, none⟩ (by simp) (.int .u8 (v / 65536 % 256))
  clear c f E1
  generalize V2.setCell ⟨g, o + 2, none⟩ (.int .u8 (v / 65536 % 256)) = V3 at hh FW ⊢
  obtain ⟨u, c⟩ : ∃ u, V3.cell? ⟨g, o + 3, none⟩ = some u := ⟨_, (blk_cell hh _).trans (Array.getElem?_eq_getElem (by (try simp only [Array.size_setIfInBounds]); omega))⟩
  have f := blk_frozen hh (o + 3)
  have E1 := Lib.hid (And.intro hh FW)
  clear hh FW
  go_upto_region 6 with (fail)
  obtain ⟨hh, FW⟩ := E1.out
  replace hh : (V3.setCell ⟨g, o + 3, none⟩ (.int .u8 (v / 16777216 % 256))).heap[g]? = some (.cells ((((cur.setIfInBounds (o) (.int .u8 (v % 256))).setIfInBounds (o + 1) (.int .u8 (v / 256 % 256))).setIfInBounds (o + 2) (.int .u8 (v / 65536 % 256))).setIfInBounds (o + 3) (.int .u8 (v / 16777216 % 256))) t (0, 0)) := blk_set hh (o + 3) (.int .u8 (v / 16777216 % 256))
  replace FW := FW.set ⟨g, o + 3, none⟩ (by simp) (.int .u8 (v / 16777216 % 256))
  clear c f E1
  generalize V3.setCell ⟨g, o + 3, none⟩ (.int .u8 (v / 16777216 % 256)) = V4 at hh FW ⊢
  obtain ⟨u, c⟩ : ∃ u, V4.cell? ⟨g, o + 4, none⟩ = some u := ⟨_, (blk_cell hh _).trans (Array.getElem?_eq_getElem (by (try simp only [Array.size_setIfInBounds]); omega))⟩
  have f := blk_frozen hh (o + 4)
  have E1 := Lib.hid (And.intro hh FW)
  clear hh FW
  go_upto_region 7 with (fail)
  obtain ⟨hh, FW⟩ := E1.out
  replace hh : (V4.setCell ⟨g, o + 4, none⟩ (.int .u8 (v / 4294967296 % 256))).heap[g]? = some (.cells (((((cur.setIfInBounds (o) (.int .u8 (v % 256))).setIfInBounds (o + 1) (.int .u8 (v / 256 % 256))).setIfInBounds (o + 2) (.int .u8 (v / 65536 % 256))).setIfInBounds (o + 3) (.int .u8 (v / 16777216 % 256))).setIfInBounds (o + 4) (.int .u8 (v / 4294967296 % 256))) t (0, 0)) := blk_set hh (o + 4) (.int .u8 (v / 4294967296 % 256))
  replace FW := FW.set ⟨g, o + 4, none⟩ (by simp) (.int .u8 (v / 4294967296 % 256))
  clear c f E1
  generalize V4.setCell ⟨g, o + 4, none⟩ (.int .u8 (v / 4294967296 % 256)) = V5 at hh FW ⊢
  obtain ⟨u, c⟩ : ∃ u, V5.cell? ⟨g, o + 5, none⟩ = some u := ⟨_, (blk_cell hh _).trans (Array.getElem?_eq_getElem (by (try simp only [Array.size_setIfInBounds]); omega))⟩
  have f := blk_frozen hh (o + 5)
  have E1 := Lib.hid (And.intro hh FW)
  clear hh FW
  go_upto_region 8 with (fail)
  obtain ⟨hh, FW⟩ := E1.out
  replace hh : (V5.setCell ⟨g, o + 5, none⟩ (.int .u8 (v / 1099511627776 % 256))).heap[g]? = some (.cells ((((((cur.setIfInBounds (o) (.int .u8 (v % 256))).setIfInBounds (o + 1) (.int .u8 (v / 256 % 256))).setIfInBounds (o + 2) (.int .u8 (v / 65536 % 256))).setIfInBounds (o + 3) (.int .u8 (v / 16777216 % 256))).setIfInBounds (o + 4) (.int .u8 (v / 4294967296 % 256))).setIfInBounds (o + 5) (.int .u8 (v / 1099511627776 % 256))) t (0, 0)) := blk_set hh (o + 5) (.int .u8 (v / 1099511627776 % 256))
  replace FW := FW.set ⟨g, o + 5, none⟩ (by simp) (.int .u8 (v / 1099511627776 % 256))
  clear c f E1
  generalize V5.setCell ⟨g, o + 5, none⟩ (.int .u8 (v / 1099511627776 % 256)) = V6 at hh FW ⊢
  obtain ⟨u, c⟩ : ∃ u, V6.cell? ⟨g, o + 6, none⟩ = some u := ⟨_, (blk_cell hh _).trans (Array.getElem?_eq_getElem (by (try simp only [Array.size_setIfInBounds]); omega))⟩
  have f := blk_frozen hh (o + 6)
  have E1 := Lib.hid (And.intro hh FW)
  clear hh FW
  go_upto_region 9 with (fail)
  obtain ⟨hh, FW⟩ := E1.out
  replace hh : (V6.setCell ⟨g, o + 6, none⟩ (.int .u8 (v / 281474976710656 % 256))).heap[g]? = some (.cells (((((((cur.setIfInBounds (o) (.int .u8 (v % 256))).setIfInBounds (o + 1) (.int .u8 (v / 256 % 256))).setIfInBounds (o + 2) (.int .u8 (v / 65536 % 256))).setIfInBounds (o + 3) (.int .u8 (v / 16777216 % 256))).setIfInBounds (o + 4) (.int .u8 (v / 4294967296 % 256))).setIfInBounds (o + 5) (.int .u8 (v / 1099511627776 % 256))).setIfInBounds (o + 6) (.int .u8 (v / 281474976710656 % 256))) t (0, 0)) := blk_set hh (o + 6) (.int .u8 (v / 281474976710656 % 256))
  replace FW := FW.set ⟨g, o + 6, none⟩ (by simp) (.int .u8 (v / 281474976710656 % 256))
  clear c f E1
  generalize V6.setCell ⟨g, o + 6, none⟩ (.int .u8 (v / 281474976710656 % 256)) = V7 at hh FW ⊢
  obtain ⟨u, c⟩ : ∃ u, V7.cell? ⟨g, o + 7, none⟩ = some u := ⟨_, (blk_cell hh _).trans (Array.getElem?_eq_getElem (by (try simp only [Array.size_setIfInBounds]); omega))⟩
  have f := blk_frozen hh (o + 7)
  have E1 := Lib.hid (And.intro hh FW)
  clear hh FW
  go_wp2_with fail
  obtain ⟨hh, FW⟩ := E1.out
  replace hh : (V7.setCell ⟨g, o + 7, none⟩ (.int .u8 (v / 72057594037927936 % 256))).heap[g]? = some (.cells ((((((((cur.setIfInBounds (o) (.int .u8 (v % 256))).setIfInBounds (o + 1) (.int .u8 (v / 256 % 256))).setIfInBounds (o + 2) (.int .u8 (v / 65536 % 256))).setIfInBounds (o + 3) (.int .u8 (v / 16777216 % 256))).setIfInBounds (o + 4) (.int .u8 (v / 4294967296 % 256))).setIfInBounds (o + 5) (.int .u8 (v / 1099511627776 % 256))).setIfInBounds (o + 6) (.int .u8 (v / 281474976710656 % 256))).setIfInBounds (o + 7) (.int .u8 (v / 72057594037927936 % 256))) t (0, 0)) := blk_set hh (o + 7) (.int .u8 (v / 72057594037927936 % 256))
  replace FW := FW.set ⟨g, o + 7, none⟩ (by simp) (.int .u8 (v / 72057594037927936 % 256))
  clear c f E1
  generalize V7.setCell ⟨g, o + 7, none⟩ (.int .u8 (v / 72057594037927936 % 256)) = V8 at hh FW ⊢
  refine bodyPost_end (results_none rfl _ _ _) rfl ?_
  exact ⟨rfl, hh, FW⟩
set_option maxHeartbeats 4000000 in
set_option maxRecDepth 100000 in
def p32C (cur : Array Value) (o : Nat) (v : Int) : Array Value := ((((cur.setIfInBounds (o) (.int .u8 (v % 256))).setIfInBounds (o + 1) (.int .u8 (v / 256 % 256))).setIfInBounds (o + 2) (.int .u8 (v / 65536 % 256))).setIfInBounds (o + 3) (.int .u8 (v / 16777216 % 256)))
set_option maxHeartbeats 4000000 in
set_option maxRecDepth 100000 in
theorem p32_walk (g t o n c : Nat) (v : Int) (hn : 4 ≤ n) (cur : Array Value) (w : World) (hh : w.heap[g]? = some (.cells cur t (0, 0))) (ho : o + 4 ≤ cur.size) :
    Calls Tryd.prog 48 #[.agg #[], .slice (some ⟨g, o, none⟩) n c, .int .u32 v] w fun e w' => e = .returned (.tuple #[]) ∧ w'.heap[g]? = some (.cells (p32C cur o v) t (0, 0)) ∧ Fr [g] w w' := by
  have hl := blk_lt hh
  have i1 : ((1 : Int) < (n : Int)) = True := eq_true (by omega)
  have i2 : ((2 : Int) < (n : Int)) = True := eq_true (by omega)
  have i3 : ((3 : Int) < (n : Int)) = True := eq_true (by omega)
  have i0 : (0 < n) = True := eq_true (by omega)
  have E0 := Lib.hid (And.intro (blk_alloc hh (.cells #[] 100)) ((Fr.refl [g] w).alloc (.cells #[] 100)))
  clear hh
  go_enter Tryd.func48, Tryd.ntmps48
  go_upto_region 1 with (fail)
  obtain ⟨hh, FW⟩ := E0.out
  clear E0
  generalize w.alloc (.cells #[] 100) = V0 at hh FW ⊢
  obtain ⟨u7, c7⟩ : ∃ u, V0.cell? ⟨g, o + 3, none⟩ = some u := ⟨_, (blk_cell hh _).trans (Array.getElem?_eq_getElem (by omega))⟩
  go_upto_region 2 with (fail)
  clear c7
  obtain ⟨u, c⟩ : ∃ u, V0.cell? ⟨g, o, none⟩ = some u := ⟨_, (blk_cell hh _).trans (Array.getElem?_eq_getElem (by (try simp only [Array.size_setIfInBounds]); omega))⟩
  have f := blk_frozen hh (o)
  have E1 := Lib.hid (And.intro hh FW)
  clear hh FW
  go_upto_region 3 with (fail)
  obtain ⟨hh, FW⟩ := E1.out
  replace hh : (V0.setCell ⟨g, o, none⟩ (.int .u8 (v % 256))).heap[g]? = some (.cells (cur.setIfInBounds (o) (.int .u8 (v % 256))) t (0, 0)) := blk_set hh (o) (.int .u8 (v % 256))
  replace FW := FW.set ⟨g, o, none⟩ (by simp) (.int .u8 (v % 256))
  clear c f E1
  generalize V0.setCell ⟨g, o, none⟩ (.int .u8 (v % 256)) = V1 at hh FW ⊢
  obtain ⟨u, c⟩ : ∃ u, V1.cell? ⟨g, o + 1, none⟩ = some u := ⟨_, (blk_cell hh _).trans (Array.getElem?_eq_getElem (by (try simp only [Array.size_setIfInBounds]); omega))⟩
  have f := blk_frozen hh (o + 1)
  have E1 := Lib.hid (And.intro hh FW)
  clear hh FW
  go_upto_region 4 with (fail)
  obtain ⟨hh, FW⟩ := E1.out
  replace hh : (V1.setCell ⟨g, o + 1, none⟩ (.int .u8 (v / 256 % 256))).heap[g]? = some (.cells ((cur.setIfInBounds (o) (.int .u8 (v % 256))).setIfInBounds (o + 1) (.int .u8 (v / 256 % 256))) t (0, 0)) := blk_set hh (o + 1) (.int .u8 (v / 256 % 256))
  replace FW := FW.set ⟨g, o + 1, none⟩ (by simp) (.int .u8 (v / 256 % 256))
  clear c f E1
  generalize V1.setCell ⟨g, o + 1, none⟩ (.int .u8 (v / 256 % 256)) = V2 at hh FW ⊢
  obtain ⟨u, c⟩ : ∃ u, V2.cell? ⟨g, o + 2, none⟩ = some u := ⟨_, (blk_cell hh _).trans (Array.getElem?_eq_getElem (by (try simp only [Array.size_setIfInBounds]); omega))⟩
  have f := blk_frozen hh (o + 2)
  have E1 := Lib.hid (And.intro hh FW)
  clear hh FW
  go_upto_region 5 with (fail)
  obtain ⟨hh, FW⟩ := E1.out
  replace hh : (V2.setCell ⟨g, o + 2, none⟩ (.int .u8 (v / 65536 % 256))).heap[g]? = some (.cells (((cur.setIfInBounds (o) (.int .u8 (v % 256))).setIfInBounds (o + 1) (.int .u8 (v / 256 % 256))).setIfInBounds (o + 2) (.int .u8 (v / 65536 % 256))) t (0, 0)) := blk_set hh (o + 2) (.int .u8 (v / 65536 % 256))
  replace FW := FW.set ⟨g, o + 2, none⟩ (by simp) (.int .u8 (v / 65536 % 256))
  clear c f E1
  generalize V2.setCell ⟨g, o + 2, none⟩ (.int .u8 (v / 65536 % 256)) = V3 at hh FW ⊢
  obtain ⟨u, c⟩ : ∃ u, V3.cell? ⟨g, o + 3, none⟩ = some u := ⟨_, (blk_cell hh _).trans (Array.getElem?_eq_getElem (by (try simp only [Array.size_setIfInBounds]); omega))⟩
  have f := blk_frozen hh (o + 3)
  have E1 := Lib.hid (And.intro hh FW)
  clear hh FW
  go_wp2_with fail
  obtain ⟨hh, FW⟩ := E1.out
  replace hh : (V3.setCell ⟨g, o + 3, none⟩ (.int .u8 (v / 16777216 % 256))).heap[g]? = some (.cells ((((cur.setIfInBounds (o) (.int .u8 (v % 256))).setIfInBounds (o + 1) (.int .u8 (v / 256 % 256))).setIfInBounds (o + 2) (.int .u8 (v / 65536 % 256))).setIfInBounds (o + 3) (.int .u8 (v / 16777216 % 256))) t (0, 0)) := blk_set hh (o + 3) (.int .u8 (v / 16777216 % 256))
  replace FW := FW.set ⟨g, o + 3, none⟩ (by simp) (.int .u8 (v / 16777216 % 256))
  clear c f E1
  generalize V3.setCell ⟨g, o + 3, none⟩ (.int .u8 (v / 16777216 % 256)) = V4 at hh FW ⊢
  refine bodyPost_end (results_none rfl _ _ _) rfl ?_
  exact ⟨rfl, hh, FW⟩
end Go.Proofs.YtnehminojlocoaaDoor.PAll
namespace Go.Proofs.YtnehminojlocoaaDoor.PAll
open Go.RowKit Go.Proofs.YtnehminojlocoaaDoorW.PrintWords Go.Proofs.YtnehminojlocoaaDoorW.PrintLast Go.Proofs.YtnehminojlocoaaDoorW.PrintMore
set_option linter.unusedVariables false
set_option linter.unusedSimpArgs false
def TT (t : TypeId) : Option Ty :=
  match t with
  | 31 => some (.int .u64)
  | 88 => some (.int .u32)
  | 5 => some (.int .u8)
  | 3 => some (.int .i64)
  | 86 => some (.int .u64)
  | 4 => some .bool
  | 92 => some (.arr 16)
  | 61 => some (.arr 4)
  | 71 => some (.arr 32)
  | 69 => some (.arr 16)
  | 97 => some (.arr 8)
  | 100 => some .unit
  | 22 => some .sl
  | 91 => some .sl
  | 102 => some (.st [0, 16, 48, 80, 81])
  | 104 => some (.st [0])
  | 65 => some (.st [0, 4, 8, 12])
  | _ => none
set_option maxHeartbeats 4000000 in
set_option maxRecDepth 100000 in
theorem tabOk : TabOk Tryd.prog TT := by
  intro t y h
  unfold TT at h
  split at h
  · obtain rfl := Option.some.inj h
    exact ⟨Tryd.underlying31, Tryd.isAgg31, Tryd.sizeOf31⟩
  · obtain rfl := Option.some.inj h
    exact ⟨Tryd.underlying88, Tryd.isAgg88, Tryd.sizeOf88⟩
  · obtain rfl := Option.some.inj h
    exact ⟨Tryd.underlying5, Tryd.isAgg5, Tryd.sizeOf5⟩
  · obtain rfl := Option.some.inj h
    exact ⟨Tryd.underlying3, Tryd.isAgg3, Tryd.sizeOf3⟩
  · obtain rfl := Option.some.inj h
    exact ⟨Tryd.underlying86, Tryd.isAgg86, Tryd.sizeOf86⟩
  · obtain rfl := Option.some.inj h
    exact ⟨Tryd.underlying4, Tryd.isAgg4, Tryd.sizeOf4⟩
  · obtain rfl := Option.some.inj h
    exact ⟨_, Tryd.underlying92, Tryd.sizeOf31, Tryd.isAgg92, Tryd.sizeOf92, Tryd.isAgg31⟩
  · obtain rfl := Option.some.inj h
    exact ⟨_, Tryd.underlying61, Tryd.sizeOf31, Tryd.isAgg61, Tryd.sizeOf61, Tryd.isAgg31⟩
  · obtain rfl := Option.some.inj h
    exact ⟨_, Tryd.underlying71, Tryd.sizeOf5, Tryd.isAgg71, Tryd.sizeOf71, Tryd.isAgg5⟩
  · obtain rfl := Option.some.inj h
    exact ⟨_, Tryd.underlying69, Tryd.sizeOf5, Tryd.isAgg69, Tryd.sizeOf69, Tryd.isAgg5⟩
  · obtain rfl := Option.some.inj h
    exact ⟨_, Tryd.underlying97, Tryd.sizeOf5, Tryd.isAgg97, Tryd.sizeOf97, Tryd.isAgg5⟩
  · obtain rfl := Option.some.inj h
    exact ⟨Tryd.isAgg100, Tryd.sizeOf100⟩
  · obtain rfl := Option.some.inj h
    exact ⟨_, Tryd.underlying22, Tryd.sizeOf5⟩
  · obtain rfl := Option.some.inj h
    exact ⟨_, Tryd.underlying91, Tryd.sizeOf31⟩
  · obtain rfl := Option.some.inj h
    refine ⟨_, Tryd.underlying102, fun f o h => ?_⟩
    match f, h with
    | 0, h =>
      obtain rfl := Option.some.inj h
      exact ⟨_, rfl, rfl, 15, fun w => Tryd.sizeOf92 w⟩
    | 1, h =>
      obtain rfl := Option.some.inj h
      exact ⟨_, rfl, rfl, 31, fun w => Tryd.sizeOf71 w⟩
    | 2, h =>
      obtain rfl := Option.some.inj h
      exact ⟨_, rfl, rfl, 31, fun w => Tryd.sizeOf71 w⟩
    | 3, h =>
      obtain rfl := Option.some.inj h
      exact ⟨_, rfl, rfl, 0, fun w => Tryd.sizeOf3 w⟩
    | 4, h =>
      obtain rfl := Option.some.inj h
      exact ⟨_, rfl, rfl, 0, fun w => Tryd.sizeOf3 w⟩
  · obtain rfl := Option.some.inj h
    refine ⟨_, Tryd.underlying104, fun f o h => ?_⟩
    match f, h with
    | 0, h =>
      obtain rfl := Option.some.inj h
      exact ⟨_, rfl, rfl, 81, fun w => Tryd.sizeOf102 w⟩
  · obtain rfl := Option.some.inj h
    refine ⟨_, Tryd.underlying65, fun f o h => ?_⟩
    match f, h with
    | 0, h =>
      obtain rfl := Option.some.inj h
      exact ⟨_, rfl, rfl, 3, fun w => Tryd.sizeOf61 w⟩
    | 1, h =>
      obtain rfl := Option.some.inj h
      exact ⟨_, rfl, rfl, 3, fun w => Tryd.sizeOf61 w⟩
    | 2, h =>
      obtain rfl := Option.some.inj h
      exact ⟨_, rfl, rfl, 3, fun w => Tryd.sizeOf61 w⟩
    | 3, h =>
      obtain rfl := Option.some.inj h
      exact ⟨_, rfl, rfl, 3, fun w => Tryd.sizeOf61 w⟩
  · cases h
/-- A state as the engine's memory. -/
def stM (s : Nat → Int) (i : Nat) : Option Value := match Nat.blt i 16 with
  | true => some (.int .u64 (s i))
  | false => none
theorem St.mem {g : Nat} {T : TypeId} {r : Nat → Option Value} {s : Nat → Int} {W : World} (h : St g T r s W) : MemOk (fun _ => g) (fun _ => stM s) W := fun k i v hv => by
  replace hv : stM s i = some v := hv
  unfold stM at hv
  split at hv
  · next hi =>
    obtain rfl := Option.some.inj hv
    exact h.cell i (Eq.mp Nat.blt_eq hi)
  · cases hv
theorem sl_from (W : World) (b o n c l : Nat) (hl : l ≤ n) (hn : n ≤ c) : ∃ A, (Instr.sliceAt 22 (.slice (some ⟨b, o, none⟩) n c) (some (.int .i64 (l : Int))) none none).run Tryd.prog W = .ok (.slice A (n - l) (c - l)) W ∧ (l < c → A = some ⟨b, o + l, none⟩) := by
  have ht := Tryd.underlying22
  have ht' : Tryd.prog.underlying 22 = some (.slice (Tryd.prog.elem 22)) := by simp [Program.elem, ht]
  have he : Tryd.prog.elem 22 = 5 := by simp [Program.elem, ht]
  rw [run_sliceAt_slice _ _ _ _ _ _ ht', run_slice_l W _ _ _ _ ht' .i64 _ (by omega) (by omega), he, Tryd.sizeOf5]
  by_cases hcl : c = l
  · subst hcl
    refine ⟨some ⟨b, o, none⟩, ?_, fun h => absurd h (by omega)⟩
    simp [Result.andThen, sliced]
  · refine ⟨some ⟨b, o + l, none⟩, ?_, fun _ => rfl⟩
    by_cases h0 : l = 0
    · subst h0
      simp [Result.andThen, sliced, Addr.add, hcl]
    · simp [Result.andThen, sliced, Addr.add, hcl, h0]
theorem sl_at (W : World) (b o n c l : Nat) (hl : l ≤ n) (hc : n ≤ c) (hlc : l < c) : (Instr.sliceAt 22 (.slice (some ⟨b, o, none⟩) n c) (some (.int .i64 (l : Int))) none none).run Tryd.prog W = .ok (.slice (some ⟨b, o + l, none⟩) (n - l) (c - l)) W := by
  obtain ⟨A, h, hA⟩ := sl_from W b o n c l hl hc
  rw [hA hlc] at h
  exact h
theorem sl_to (W : World) (b o n c h : Nat) (hc : h ≤ c) (h0 : 0 < c) : (Instr.sliceAt 22 (.slice (some ⟨b, o, none⟩) n c) none (some (.int .i64 (h : Int))) none).run Tryd.prog W = .ok (.slice (some ⟨b, o, none⟩) h c) W := by
  have ht := Tryd.underlying22
  have ht' : Tryd.prog.underlying 22 = some (.slice (Tryd.prog.elem 22)) := by simp [Program.elem, ht]
  have he : Tryd.prog.elem 22 = 5 := by simp [Program.elem, ht]
  rw [run_sliceAt_slice _ _ _ _ _ _ ht', run_slice_h W _ _ _ _ ht' .i64 _ (by omega) (by omega), he, Tryd.sizeOf5]
  have hne : ¬ c = 0 := by omega
  simp [Result.andThen, sliced, Addr.add, hne]
theorem allocOk92 : AllocOk Tryd.prog 92 (Array.replicate 16 (.int .u64 0)) := by
  intro ρ o W ho
  unfold execOp
  rw [ho]
  simp [go_sem]
  rfl
theorem allocOk61 : AllocOk Tryd.prog 61 (Array.replicate 4 (.int .u64 0)) := by
  intro ρ o W ho
  unfold execOp
  rw [ho]
  simp [go_sem]
  rfl
theorem allocOk71 : AllocOk Tryd.prog 71 (Array.replicate 32 (.int .u8 0)) := by
  intro ρ o W ho
  unfold execOp
  rw [ho]
  simp [go_sem]
  rfl
theorem allocOk97 : AllocOk Tryd.prog 97 (Array.replicate 8 (.int .u8 0)) := by
  intro ρ o W ho
  unfold execOp
  rw [ho]
  simp [go_sem]
  rfl
end Go.Proofs.YtnehminojlocoaaDoor.PAll
namespace Go.Proofs.YtnehminojlocoaaDoor.PAll
open Go.RowKit Go.Proofs.YtnehminojlocoaaDoorW.PrintWords Go.Proofs.YtnehminojlocoaaDoorW.PrintLast Go.Proofs.YtnehminojlocoaaDoorW.PrintMore
set_option linter.unusedVariables false
set_option linter.unusedSimpArgs false
def u1 (s : Nat → Int) (m : Int) : Nat → Int := upd s 4 (IntKind.u64.wrap ((s 4) + (IntKind.u64.wrap (m + (s 8)))))
def u2 (s : Nat → Int) : Nat → Int := upd s 8 (Go.bits .xor .u64 (s 8) (IntKind.u64.wrap ((IntKind.u64.wrap (IntKind.u32.wrap (s 4))) * ((s 0) / 4294967296))))
def u3 (s : Nat → Int) : Nat → Int := upd s 0 (IntKind.u64.wrap ((s 0) + (s 12)))
def u4 (s : Nat → Int) : Nat → Int := upd s 12 (Go.bits .xor .u64 (s 12) (IntKind.u64.wrap ((IntKind.u64.wrap (IntKind.u32.wrap (s 0))) * ((s 4) / 4294967296))))
def u5 (s : Nat → Int) (m : Int) : Nat → Int := upd s 5 (IntKind.u64.wrap ((s 5) + (IntKind.u64.wrap (m + (s 9)))))
def u6 (s : Nat → Int) : Nat → Int := upd s 9 (Go.bits .xor .u64 (s 9) (IntKind.u64.wrap ((IntKind.u64.wrap (IntKind.u32.wrap (s 5))) * ((s 1) / 4294967296))))
def u7 (s : Nat → Int) : Nat → Int := upd s 1 (IntKind.u64.wrap ((s 1) + (s 13)))
def u8 (s : Nat → Int) : Nat → Int := upd s 13 (Go.bits .xor .u64 (s 13) (IntKind.u64.wrap ((IntKind.u64.wrap (IntKind.u32.wrap (s 1))) * ((s 5) / 4294967296))))
def u9 (s : Nat → Int) (m : Int) : Nat → Int := upd s 6 (IntKind.u64.wrap ((s 6) + (IntKind.u64.wrap (m + (s 10)))))
def u10 (s : Nat → Int) : Nat → Int := upd s 10 (Go.bits .xor .u64 (s 10) (IntKind.u64.wrap ((IntKind.u64.wrap (IntKind.u32.wrap (s 6))) * ((s 2) / 4294967296))))
def u11 (s : Nat → Int) : Nat → Int := upd s 2 (IntKind.u64.wrap ((s 2) + (s 14)))
def u12 (s : Nat → Int) : Nat → Int := upd s 14 (Go.bits .xor .u64 (s 14) (IntKind.u64.wrap ((IntKind.u64.wrap (IntKind.u32.wrap (s 2))) * ((s 6) / 4294967296))))
def u13 (s : Nat → Int) (m : Int) : Nat → Int := upd s 7 (IntKind.u64.wrap ((s 7) + (IntKind.u64.wrap (m + (s 11)))))
def u14 (s : Nat → Int) : Nat → Int := upd s 11 (Go.bits .xor .u64 (s 11) (IntKind.u64.wrap ((IntKind.u64.wrap (IntKind.u32.wrap (s 7))) * ((s 3) / 4294967296))))
def u15 (s : Nat → Int) : Nat → Int := upd s 3 (IntKind.u64.wrap ((s 3) + (s 15)))
def u16 (s : Nat → Int) : Nat → Int := upd s 15 (Go.bits .xor .u64 (s 15) (IntKind.u64.wrap ((IntKind.u64.wrap (IntKind.u32.wrap (s 3))) * ((s 7) / 4294967296))))
def z1 (v0 v1 : Int) : Int := (Go.bits .and .u64 v0 16711680)
def z2 (v0 v1 : Int) : Int := (IntKind.u64.wrap ((Go.bits .and .u64 v0 18374686479671623680) + (Go.bits .and .u64 v1 16711680)))
def z3 (v0 v1 : Int) : Int := (IntKind.u64.wrap ((z1 v0 v1) + ((Go.bits .and .u64 v1 18374686479671623680) / 256)))
def z4 (v0 v1 : Int) : Int := (IntKind.u64.wrap ((z2 v0 v1) + ((Go.bits .and .u64 v0 71776119061217280) / 256)))
def z5 (v0 v1 : Int) : Int := (IntKind.u64.wrap ((z3 v0 v1) + ((IntKind.u64.wrap ((Go.bits .and .u64 v0 280375465082880) + (Go.bits .and .u64 v1 71776119061217280))) / 65536)))
def z6 (v0 v1 : Int) : Int := (IntKind.u64.wrap ((z4 v0 v1) + ((Go.bits .and .u64 v1 280375465082880) / 65536)))
def z7 (v0 v1 : Int) : Int := (IntKind.u64.wrap ((z5 v0 v1) + ((IntKind.u64.wrap ((Go.bits .and .u64 v0 4278190080) + (Go.bits .and .u64 v1 1095216660480))) / 16777216)))
def z8 (v0 v1 : Int) : Int := (IntKind.u64.wrap ((z6 v0 v1) + ((IntKind.u64.wrap ((Go.bits .and .u64 v1 4278190080) + (Go.bits .and .u64 v0 1095216660480))) / 16777216)))
def z9 (v0 v1 : Int) : Int := (IntKind.u64.wrap ((z7 v0 v1) + (IntKind.u64.wrap ((Go.bits .and .u64 v0 65280) * 4294967296))))
def z10 (v0 v1 : Int) : Int := (IntKind.u64.wrap ((z8 v0 v1) + (IntKind.u64.wrap ((Go.bits .and .u64 v1 255) * 281474976710656))))
def z11 (v0 v1 : Int) : Int := (IntKind.u64.wrap ((z9 v0 v1) + (IntKind.u64.wrap (v0 * 72057594037927936))))
def z12 (v0 v1 : Int) : Int := (IntKind.u64.wrap ((z10 v0 v1) + (IntKind.u64.wrap ((Go.bits .and .u64 v1 65280) * 16777216))))
def zs (s : Nat → Int) (t : Nat) (x : Int) : Nat → Int := upd s t (IntKind.u64.wrap (s t + x))
/-- Two numbers, mixed, are added to two others. -/
def zip2 (s : Nat → Int) (i t : Nat) : Nat → Int := zs (zs s t (z11 (s i) (s (i + 1)))) (t + 1) (z12 (s i) (s (i + 1)))
/-- A state takes in 32 octets. -/
def U (s : Nat → Int) (y : Nat → Int) : Nat → Int := zip2 (zip2 (zip2 (zip2 (u16 (u15 (u14 (u13 (u12 (u11 (u10 (u9 (u8 (u7 (u6 (u5 (u4 (u3 (u2 (u1 s (le8 (fun i => y (0 + i))))))) (le8 (fun i => y (8 + i))))))) (le8 (fun i => y (16 + i))))))) (le8 (fun i => y (24 + i))))))) 4 0) 6 2) 0 4) 2 6
noncomputable def updLoop : Code := match Tryd.f47.body with
  | some (.block _ (.loop c)) => c
  | _ => .skip
set_option maxHeartbeats 16000000 in
set_option maxRecDepth 100000 in
theorem upd_round (g : Nat) (T : TypeId) (r : Nat → Option Value) (s0 : Nat → Int) (b o1 n1 c1 : Nat) (A1 : Option Addr) (hA1 : A1 = some ⟨b, o1, none⟩) (y : Nat → Int) (w W0 : World) (a0 : Act) (K : Act → World → Prop) (Q0 : Exit → Act → World → Prop) (hbg : b ≠ g ∨ 16 ≤ o1) (hn : 32 ≤ n1) (hc : n1 ≤ c1)
    (SS0 : St g T r s0 W0) (BT0 : Bts b o1 32 y W0) (FW0 : Fr [g] w W0) (hA : Has 643 (fun _ => g) [(0, .p 0 0), (1, .v (.slice A1 n1 c1))] a0) (hQ : ∀ c (a a' : Act) w, a'.defers = a.defers → Q0 (.panic c) a w → Q0 (.panic c) a' w)
    (hK : ∀ a' W' A', Has 643 (fun _ => g) [(0, .p 0 0), (1, .v (.slice A' (n1 - 32) (c1 - 32)))] a' → (32 < c1 → A' = some ⟨b, o1 + 32, none⟩) → a'.defers = a0.defers → St g T r (U s0 y) W' → Fr [g] w W' → K a' W') :
    Code.wp Tryd.prog updLoop (Exit.then K Q0) a0 W0 := by
  refine wp_seq ?_
  refine wp_seq ?_
  refine reg_seq (N := 643) (β := fun _ => g) (M := fun _ => stM s0) (T := TT) (n := 3) (E2 := [(0, .p 0 0), (1, .v (.slice A1 n1 c1)), (23, .v (.bool (decide ((n1 : Int) ≥ 32))))]) tabOk hA SS0.mem rfl (by kernel_rfl) ⟨by kernel_rfl, by kernel_rfl, by kernel_rfl, trivial⟩ (fun a1 hB1 hd1 => ?_)
  show Code.wp _ _ _ _ _
  have ht : a1.eval (.tmp 23) = .bool true := (hB1.2 23 _ rfl).trans (congrArg Value.bool (decide_eq_true (by omega)))
  refine wp_cond_true ht (wp_skip ?_)
  show Code.wp _ _ _ _ _
  refine wp_block ?_
  refine wp_seq ?_
  refine wp_region ?_
  refine ops_ (N := 643) (β := fun _ => g) (M := fun _ => stM s0) (T := TT) (E' := [(24, .v (.slice A1 n1 c1)), (0, .p 0 0), (1, .v (.slice A1 n1 c1)), (23, .v (.bool (decide ((n1 : Int) ≥ 32))))]) tabOk SS0.mem [1, 2] [0] (by kernel_rfl) hB1 (fun a2 hB2 hd2 => ?_)
  refine given_ops (N := 643) (β := fun _ => g) (i := 1) (v := .slice (some ⟨b, o1, none⟩) 32 c1) (l := [2]) rfl rfl rfl (by decide) hB2 (op_slice rfl ?_) (fun a3 hB3 hd3 => ?_)
  · show (Instr.sliceAt _ (a2.eval (.tmp 24)) none (some (.int .i64 ((32 : Nat) : Int))) none).run _ _ = _
    rw [hB2.2 24 _ rfl, hA1]
    exact sl_to W0 b o1 n1 c1 32 (by omega) (by omega)
  refine ops_ (N := 643) (β := fun _ => g) (M := fun _ => stM s0) (T := TT) (E' := [(4, .v (.slice (some ⟨b, o1, none⟩) 32 c1)), (25, .v (.slice (some ⟨b, o1, none⟩) 32 c1)), (24, .v (.slice A1 n1 c1)), (0, .p 0 0), (1, .v (.slice A1 n1 c1)), (23, .v (.bool (decide ((n1 : Int) ≥ 32))))]) tabOk SS0.mem [] [2] (by kernel_rfl) hB3 (fun a4 hB4 hd4 => ?_)
  have hA0 := sub_ok (E := [(0, .p 0 0), (1, .v (.slice A1 n1 c1)), (4, .v (.slice (some ⟨b, o1, none⟩) 32 c1))]) hB4 ⟨by kernel_rfl, by kernel_rfl, by kernel_rfl, trivial⟩
  have hd0 : a4.defers = a0.defers := hd4.trans (hd3.trans (hd2.trans hd1))
  clear hB1 hB2 hB3 hB4 hd1 hd2 hd3 hd4 ht hA
  show Code.wp _ _ _ _ _
  refine wp_seq ?_
  refine reg_call_store (S := fun W => St g T r s0 W ∧ Bts b o1 32 y W ∧ Fr [g] w W) (N := 643) (β := fun _ => g) (M := fun _ => stM s0) (T := TT) (l1 := [0, 1, 2, 3, 4, 5, 7, 8, 9, 10, 13]) (j := 6) (l2 := [11, 12, 14]) (n := 15) (k := 0) (i := 4) (f := 43) (d := 32) (u := .int .u64 (IntKind.u64.wrap ((s0 4) + (IntKind.u64.wrap ((le8 (fun i => y (0 + i))) + (s0 8)))))) (v := .int .u64 (le8 (fun i => y (0 + i)))) (args := [.v (.agg #[]), .v (.slice (some ⟨b, o1, none⟩) 32 c1)]) (E2 := [(0, .p 0 0), (1, .v (.slice A1 n1 c1)), (4, .v (.slice (some ⟨b, o1, none⟩) 32 c1))]) (by kernel_rfl) tabOk (fun W hW => hW.1.mem) hA0 ⟨SS0.drew, BT0, FW0.drew⟩ rfl (by kernel_rfl) (by kernel_rfl) Tryd.func43 rfl rfl
    (fun W hW => (u64_walk b o1 32 c1 (by decide) (fun i => y (0 + i)) W (hW.2.1.from 0 8 (by decide))).mono fun e W' hh => ⟨hh.1, hW.1.onB hh.2, hW.2.1.onB hh.2, hW.2.2.trans (Fr.ofBelow [g] hh.2)⟩)
    (by kernel_rfl) ⟨by kernel_rfl, by kernel_rfl, by kernel_rfl, trivial⟩ (fun c a a' w hd h => hQ c a a' w hd h) (fun W hW => ⟨⟨_, hW.1.cell 4 (by decide)⟩, hW.1.free 4⟩) (fun a1 W1' hA1 hd1 hW => ?_)
  obtain ⟨SSm, BTm, FWm⟩ := hW
  clear SS0 BT0 FW0
  have SS0 := SSm
  have BT0 := BTm
  have FW0 := FWm
  clear SSm BTm FWm
  show Code.wp _ _ _ _ _
  have SSn : St g T r (u1 s0 (le8 (fun i => y (0 + i)))) _ := SS0.set 4 (by decide) (IntKind.u64.wrap ((s0 4) + (IntKind.u64.wrap ((le8 (fun i => y (0 + i))) + (s0 8)))))
  have FWn := FW0.set ⟨g, 4, none⟩ (by simp) (.int .u64 (IntKind.u64.wrap ((s0 4) + (IntKind.u64.wrap ((le8 (fun i => y (0 + i))) + (s0 8))))))
  have BTn := BT0.keep hbg SS0 SSn ((Fr.refl [g] _).set ⟨g, 4, none⟩ (by simp) (.int .u64 (IntKind.u64.wrap ((s0 4) + (IntKind.u64.wrap ((le8 (fun i => y (0 + i))) + (s0 8)))))))
  generalize World.setCell _ _ _ = W1 at SSn FWn BTn ⊢
  generalize hs1 : u1 s0 (le8 (fun i => y (0 + i))) = s1 at SSn
  have SS1 := SSn
  have FW1 := FWn
  have BT1 := BTn
  clear SSn FWn BTn SS0 FW0 BT0 hA0
  replace hd1 := hd1.trans hd0
  clear hd0
  refine wp_seq ?_
  refine reg_store (N := 643) (β := fun _ => g) (M := fun _ => stM s1) (T := TT) (n := 19) (k := 0) (i := 8) (u := .int .u64 (Go.bits .xor .u64 (s1 8) (IntKind.u64.wrap ((IntKind.u64.wrap (IntKind.u32.wrap (s1 4))) * ((s1 0) / 4294967296))))) (E2 := [(0, .p 0 0), (1, .v (.slice A1 n1 c1)), (4, .v (.slice (some ⟨b, o1, none⟩) 32 c1))]) (by kernel_rfl) tabOk hA1 SS1.mem rfl (by kernel_rfl) (by kernel_rfl) ⟨by kernel_rfl, by kernel_rfl, by kernel_rfl, trivial⟩ (fun c a a' w hd h => hQ c a a' w hd h) ⟨_, SS1.cell 8 (by decide)⟩ (SS1.free 8) (fun a2 hA2 hd2 => ?_)
  show Code.wp _ _ _ _ _
  have SSn : St g T r (u2 s1) _ := SS1.drew.set 8 (by decide) (Go.bits .xor .u64 (s1 8) (IntKind.u64.wrap ((IntKind.u64.wrap (IntKind.u32.wrap (s1 4))) * ((s1 0) / 4294967296))))
  have FWn := FW1.drew.set ⟨g, 8, none⟩ (by simp) (.int .u64 (Go.bits .xor .u64 (s1 8) (IntKind.u64.wrap ((IntKind.u64.wrap (IntKind.u32.wrap (s1 4))) * ((s1 0) / 4294967296)))))
  have BTn := BT1.keep hbg SS1 SSn ((Fr.refl [g] _).drew.set ⟨g, 8, none⟩ (by simp) (.int .u64 (Go.bits .xor .u64 (s1 8) (IntKind.u64.wrap ((IntKind.u64.wrap (IntKind.u32.wrap (s1 4))) * ((s1 0) / 4294967296))))))
  generalize World.setCell _ _ _ = W2 at SSn FWn BTn ⊢
  generalize hs2 : u2 s1 = s2 at SSn
  have SS2 := SSn
  have FW2 := FWn
  have BT2 := BTn
  clear SSn FWn BTn SS1 FW1 BT1 hA1
  replace hd2 := hd2.trans hd1
  clear hd1
  refine wp_seq ?_
  refine reg_store (N := 643) (β := fun _ => g) (M := fun _ => stM s2) (T := TT) (n := 11) (k := 0) (i := 0) (u := .int .u64 (IntKind.u64.wrap ((s2 0) + (s2 12)))) (E2 := [(0, .p 0 0), (1, .v (.slice A1 n1 c1)), (4, .v (.slice (some ⟨b, o1, none⟩) 32 c1))]) (by kernel_rfl) tabOk hA2 SS2.mem rfl (by kernel_rfl) (by kernel_rfl) ⟨by kernel_rfl, by kernel_rfl, by kernel_rfl, trivial⟩ (fun c a a' w hd h => hQ c a a' w hd h) ⟨_, SS2.cell 0 (by decide)⟩ (SS2.free 0) (fun a3 hA3 hd3 => ?_)
  show Code.wp _ _ _ _ _
  have SSn : St g T r (u3 s2) _ := SS2.drew.set 0 (by decide) (IntKind.u64.wrap ((s2 0) + (s2 12)))
  have FWn := FW2.drew.set ⟨g, 0, none⟩ (by simp) (.int .u64 (IntKind.u64.wrap ((s2 0) + (s2 12))))
  have BTn := BT2.keep hbg SS2 SSn ((Fr.refl [g] _).drew.set ⟨g, 0, none⟩ (by simp) (.int .u64 (IntKind.u64.wrap ((s2 0) + (s2 12)))))
  generalize World.setCell _ _ _ = W3 at SSn FWn BTn ⊢
  generalize hs3 : u3 s2 = s3 at SSn
  have SS3 := SSn
  have FW3 := FWn
  have BT3 := BTn
  clear SSn FWn BTn SS2 FW2 BT2 hA2
  replace hd3 := hd3.trans hd2
  clear hd2
  refine wp_seq ?_
  refine reg_store (N := 643) (β := fun _ => g) (M := fun _ => stM s3) (T := TT) (n := 19) (k := 0) (i := 12) (u := .int .u64 (Go.bits .xor .u64 (s3 12) (IntKind.u64.wrap ((IntKind.u64.wrap (IntKind.u32.wrap (s3 0))) * ((s3 4) / 4294967296))))) (E2 := [(0, .p 0 0), (1, .v (.slice A1 n1 c1)), (4, .v (.slice (some ⟨b, o1, none⟩) 32 c1))]) (by kernel_rfl) tabOk hA3 SS3.mem rfl (by kernel_rfl) (by kernel_rfl) ⟨by kernel_rfl, by kernel_rfl, by kernel_rfl, trivial⟩ (fun c a a' w hd h => hQ c a a' w hd h) ⟨_, SS3.cell 12 (by decide)⟩ (SS3.free 12) (fun a4 hA4 hd4 => ?_)
  show Code.wp _ _ _ _ _
  have SSn : St g T r (u4 s3) _ := SS3.drew.set 12 (by decide) (Go.bits .xor .u64 (s3 12) (IntKind.u64.wrap ((IntKind.u64.wrap (IntKind.u32.wrap (s3 0))) * ((s3 4) / 4294967296))))
  have FWn := FW3.drew.set ⟨g, 12, none⟩ (by simp) (.int .u64 (Go.bits .xor .u64 (s3 12) (IntKind.u64.wrap ((IntKind.u64.wrap (IntKind.u32.wrap (s3 0))) * ((s3 4) / 4294967296)))))
  have BTn := BT3.keep hbg SS3 SSn ((Fr.refl [g] _).drew.set ⟨g, 12, none⟩ (by simp) (.int .u64 (Go.bits .xor .u64 (s3 12) (IntKind.u64.wrap ((IntKind.u64.wrap (IntKind.u32.wrap (s3 0))) * ((s3 4) / 4294967296))))))
  generalize World.setCell _ _ _ = W4 at SSn FWn BTn ⊢
  generalize hs4 : u4 s3 = s4 at SSn
  have SS4 := SSn
  have FW4 := FWn
  have BT4 := BTn
  clear SSn FWn BTn SS3 FW3 BT3 hA3
  replace hd4 := hd4.trans hd3
  clear hd3
  refine wp_seq ?_
  refine reg_slice_call_store (S := fun W => St g T r s4 W ∧ Bts b o1 32 y W ∧ Fr [g] w W) (N := 643) (β := fun _ => g) (M := fun _ => stM s4) (T := TT) (l1 := [0, 1, 2, 3, 4, 5, 8, 9, 10, 11, 14]) (js := 6) (j := 7) (l2 := [12, 13, 15]) (n := 16) (k := 0) (i := 5) (f := 43) (d := 97) (d0 := 96) (x0 := .tmp 95) (l0 := 8) (t0 := 22) (vx := .slice (some ⟨b, o1, none⟩) 32 c1) (v0 := .slice (some ⟨b, o1 + 8, none⟩) 24 (c1 - 8)) (u := .int .u64 (IntKind.u64.wrap ((s4 5) + (IntKind.u64.wrap ((le8 (fun i => y (8 + i))) + (s4 9)))))) (v := .int .u64 (le8 (fun i => y (8 + i)))) (args := [.v (.agg #[]), .v (.slice (some ⟨b, o1 + 8, none⟩) 24 (c1 - 8))]) (E2 := [(0, .p 0 0), (1, .v (.slice A1 n1 c1)), (4, .v (.slice (some ⟨b, o1, none⟩) 32 c1))]) (by kernel_rfl) tabOk (fun W hW => hW.1.mem) hA4 ⟨SS4.drew, BT4, FW4.drew⟩ rfl (by kernel_rfl) (by kernel_rfl) (by kernel_rfl) (fun W => sl_at W b o1 32 c1 8 (by decide) (by omega) (by omega)) (by kernel_rfl) Tryd.func43 rfl rfl
    (fun W hW => (u64_walk b (o1 + 8) 24 _ (by decide) (fun i => y (8 + i)) W (hW.2.1.from 8 8 (by decide))).mono fun e W' hh => ⟨hh.1, hW.1.onB hh.2, hW.2.1.onB hh.2, hW.2.2.trans (Fr.ofBelow [g] hh.2)⟩)
    (by kernel_rfl) ⟨by kernel_rfl, by kernel_rfl, by kernel_rfl, trivial⟩ (fun c a a' w hd h => hQ c a a' w hd h) (fun W hW => ⟨⟨_, hW.1.cell 5 (by decide)⟩, hW.1.free 5⟩) (fun a5 W5' hA5 hd5 hW => ?_)
  obtain ⟨SSm, BTm, FWm⟩ := hW
  clear SS4 BT4 FW4
  have SS4 := SSm
  have BT4 := BTm
  have FW4 := FWm
  clear SSm BTm FWm
  show Code.wp _ _ _ _ _
  have SSn : St g T r (u5 s4 (le8 (fun i => y (8 + i)))) _ := SS4.set 5 (by decide) (IntKind.u64.wrap ((s4 5) + (IntKind.u64.wrap ((le8 (fun i => y (8 + i))) + (s4 9)))))
  have FWn := FW4.set ⟨g, 5, none⟩ (by simp) (.int .u64 (IntKind.u64.wrap ((s4 5) + (IntKind.u64.wrap ((le8 (fun i => y (8 + i))) + (s4 9))))))
  have BTn := BT4.keep hbg SS4 SSn ((Fr.refl [g] _).set ⟨g, 5, none⟩ (by simp) (.int .u64 (IntKind.u64.wrap ((s4 5) + (IntKind.u64.wrap ((le8 (fun i => y (8 + i))) + (s4 9)))))))
  generalize World.setCell _ _ _ = W5 at SSn FWn BTn ⊢
  generalize hs5 : u5 s4 (le8 (fun i => y (8 + i))) = s5 at SSn
  have SS5 := SSn
  have FW5 := FWn
  have BT5 := BTn
  clear SSn FWn BTn SS4 FW4 BT4 hA4
  replace hd5 := hd5.trans hd4
  clear hd4
  refine wp_seq ?_
  refine reg_store (N := 643) (β := fun _ => g) (M := fun _ => stM s5) (T := TT) (n := 19) (k := 0) (i := 9) (u := .int .u64 (Go.bits .xor .u64 (s5 9) (IntKind.u64.wrap ((IntKind.u64.wrap (IntKind.u32.wrap (s5 5))) * ((s5 1) / 4294967296))))) (E2 := [(0, .p 0 0), (1, .v (.slice A1 n1 c1)), (4, .v (.slice (some ⟨b, o1, none⟩) 32 c1))]) (by kernel_rfl) tabOk hA5 SS5.mem rfl (by kernel_rfl) (by kernel_rfl) ⟨by kernel_rfl, by kernel_rfl, by kernel_rfl, trivial⟩ (fun c a a' w hd h => hQ c a a' w hd h) ⟨_, SS5.cell 9 (by decide)⟩ (SS5.free 9) (fun a6 hA6 hd6 => ?_)
  show Code.wp _ _ _ _ _
  have SSn : St g T r (u6 s5) _ := SS5.drew.set 9 (by decide) (Go.bits .xor .u64 (s5 9) (IntKind.u64.wrap ((IntKind.u64.wrap (IntKind.u32.wrap (s5 5))) * ((s5 1) / 4294967296))))
  have FWn := FW5.drew.set ⟨g, 9, none⟩ (by simp) (.int .u64 (Go.bits .xor .u64 (s5 9) (IntKind.u64.wrap ((IntKind.u64.wrap (IntKind.u32.wrap (s5 5))) * ((s5 1) / 4294967296)))))
  have BTn := BT5.keep hbg SS5 SSn ((Fr.refl [g] _).drew.set ⟨g, 9, none⟩ (by simp) (.int .u64 (Go.bits .xor .u64 (s5 9) (IntKind.u64.wrap ((IntKind.u64.wrap (IntKind.u32.wrap (s5 5))) * ((s5 1) / 4294967296))))))
  generalize World.setCell _ _ _ = W6 at SSn FWn BTn ⊢
  generalize hs6 : u6 s5 = s6 at SSn
  have SS6 := SSn
  have FW6 := FWn
  have BT6 := BTn
  clear SSn FWn BTn SS5 FW5 BT5 hA5
  replace hd6 := hd6.trans hd5
  clear hd5
  refine wp_seq ?_
  refine reg_store (N := 643) (β := fun _ => g) (M := fun _ => stM s6) (T := TT) (n := 11) (k := 0) (i := 1) (u := .int .u64 (IntKind.u64.wrap ((s6 1) + (s6 13)))) (E2 := [(0, .p 0 0), (1, .v (.slice A1 n1 c1)), (4, .v (.slice (some ⟨b, o1, none⟩) 32 c1))]) (by kernel_rfl) tabOk hA6 SS6.mem rfl (by kernel_rfl) (by kernel_rfl) ⟨by kernel_rfl, by kernel_rfl, by kernel_rfl, trivial⟩ (fun c a a' w hd h => hQ c a a' w hd h) ⟨_, SS6.cell 1 (by decide)⟩ (SS6.free 1) (fun a7 hA7 hd7 => ?_)
  show Code.wp _ _ _ _ _
  have SSn : St g T r (u7 s6) _ := SS6.drew.set 1 (by decide) (IntKind.u64.wrap ((s6 1) + (s6 13)))
  have FWn := FW6.drew.set ⟨g, 1, none⟩ (by simp) (.int .u64 (IntKind.u64.wrap ((s6 1) + (s6 13))))
  have BTn := BT6.keep hbg SS6 SSn ((Fr.refl [g] _).drew.set ⟨g, 1, none⟩ (by simp) (.int .u64 (IntKind.u64.wrap ((s6 1) + (s6 13)))))
  generalize World.setCell _ _ _ = W7 at SSn FWn BTn ⊢
  generalize hs7 : u7 s6 = s7 at SSn
  have SS7 := SSn
  have FW7 := FWn
  have BT7 := BTn
  clear SSn FWn BTn SS6 FW6 BT6 hA6
  replace hd7 := hd7.trans hd6
  clear hd6
  refine wp_seq ?_
  refine reg_store (N := 643) (β := fun _ => g) (M := fun _ => stM s7) (T := TT) (n := 19) (k := 0) (i := 13) (u := .int .u64 (Go.bits .xor .u64 (s7 13) (IntKind.u64.wrap ((IntKind.u64.wrap (IntKind.u32.wrap (s7 1))) * ((s7 5) / 4294967296))))) (E2 := [(0, .p 0 0), (1, .v (.slice A1 n1 c1)), (4, .v (.slice (some ⟨b, o1, none⟩) 32 c1))]) (by kernel_rfl) tabOk hA7 SS7.mem rfl (by kernel_rfl) (by kernel_rfl) ⟨by kernel_rfl, by kernel_rfl, by kernel_rfl, trivial⟩ (fun c a a' w hd h => hQ c a a' w hd h) ⟨_, SS7.cell 13 (by decide)⟩ (SS7.free 13) (fun a8 hA8 hd8 => ?_)
  show Code.wp _ _ _ _ _
  have SSn : St g T r (u8 s7) _ := SS7.drew.set 13 (by decide) (Go.bits .xor .u64 (s7 13) (IntKind.u64.wrap ((IntKind.u64.wrap (IntKind.u32.wrap (s7 1))) * ((s7 5) / 4294967296))))
  have FWn := FW7.drew.set ⟨g, 13, none⟩ (by simp) (.int .u64 (Go.bits .xor .u64 (s7 13) (IntKind.u64.wrap ((IntKind.u64.wrap (IntKind.u32.wrap (s7 1))) * ((s7 5) / 4294967296)))))
  have BTn := BT7.keep hbg SS7 SSn ((Fr.refl [g] _).drew.set ⟨g, 13, none⟩ (by simp) (.int .u64 (Go.bits .xor .u64 (s7 13) (IntKind.u64.wrap ((IntKind.u64.wrap (IntKind.u32.wrap (s7 1))) * ((s7 5) / 4294967296))))))
  generalize World.setCell _ _ _ = W8 at SSn FWn BTn ⊢
  generalize hs8 : u8 s7 = s8 at SSn
  have SS8 := SSn
  have FW8 := FWn
  have BT8 := BTn
  clear SSn FWn BTn SS7 FW7 BT7 hA7
  replace hd8 := hd8.trans hd7
  clear hd7
  refine wp_seq ?_
  refine reg_slice_call_store (S := fun W => St g T r s8 W ∧ Bts b o1 32 y W ∧ Fr [g] w W) (N := 643) (β := fun _ => g) (M := fun _ => stM s8) (T := TT) (l1 := [0, 1, 2, 3, 4, 5, 8, 9, 10, 11, 14]) (js := 6) (j := 7) (l2 := [12, 13, 15]) (n := 16) (k := 0) (i := 6) (f := 43) (d := 162) (d0 := 161) (x0 := .tmp 160) (l0 := 16) (t0 := 22) (vx := .slice (some ⟨b, o1, none⟩) 32 c1) (v0 := .slice (some ⟨b, o1 + 16, none⟩) 16 (c1 - 16)) (u := .int .u64 (IntKind.u64.wrap ((s8 6) + (IntKind.u64.wrap ((le8 (fun i => y (16 + i))) + (s8 10)))))) (v := .int .u64 (le8 (fun i => y (16 + i)))) (args := [.v (.agg #[]), .v (.slice (some ⟨b, o1 + 16, none⟩) 16 (c1 - 16))]) (E2 := [(0, .p 0 0), (1, .v (.slice A1 n1 c1)), (4, .v (.slice (some ⟨b, o1, none⟩) 32 c1))]) (by kernel_rfl) tabOk (fun W hW => hW.1.mem) hA8 ⟨SS8.drew, BT8, FW8.drew⟩ rfl (by kernel_rfl) (by kernel_rfl) (by kernel_rfl) (fun W => sl_at W b o1 32 c1 16 (by decide) (by omega) (by omega)) (by kernel_rfl) Tryd.func43 rfl rfl
    (fun W hW => (u64_walk b (o1 + 16) 16 _ (by decide) (fun i => y (16 + i)) W (hW.2.1.from 16 8 (by decide))).mono fun e W' hh => ⟨hh.1, hW.1.onB hh.2, hW.2.1.onB hh.2, hW.2.2.trans (Fr.ofBelow [g] hh.2)⟩)
    (by kernel_rfl) ⟨by kernel_rfl, by kernel_rfl, by kernel_rfl, trivial⟩ (fun c a a' w hd h => hQ c a a' w hd h) (fun W hW => ⟨⟨_, hW.1.cell 6 (by decide)⟩, hW.1.free 6⟩) (fun a9 W9' hA9 hd9 hW => ?_)
  obtain ⟨SSm, BTm, FWm⟩ := hW
  clear SS8 BT8 FW8
  have SS8 := SSm
  have BT8 := BTm
  have FW8 := FWm
  clear SSm BTm FWm
  show Code.wp _ _ _ _ _
  have SSn : St g T r (u9 s8 (le8 (fun i => y (16 + i)))) _ := SS8.set 6 (by decide) (IntKind.u64.wrap ((s8 6) + (IntKind.u64.wrap ((le8 (fun i => y (16 + i))) + (s8 10)))))
  have FWn := FW8.set ⟨g, 6, none⟩ (by simp) (.int .u64 (IntKind.u64.wrap ((s8 6) + (IntKind.u64.wrap ((le8 (fun i => y (16 + i))) + (s8 10))))))
  have BTn := BT8.keep hbg SS8 SSn ((Fr.refl [g] _).set ⟨g, 6, none⟩ (by simp) (.int .u64 (IntKind.u64.wrap ((s8 6) + (IntKind.u64.wrap ((le8 (fun i => y (16 + i))) + (s8 10)))))))
  generalize World.setCell _ _ _ = W9 at SSn FWn BTn ⊢
  generalize hs9 : u9 s8 (le8 (fun i => y (16 + i))) = s9 at SSn
  have SS9 := SSn
  have FW9 := FWn
  have BT9 := BTn
  clear SSn FWn BTn SS8 FW8 BT8 hA8
  replace hd9 := hd9.trans hd8
  clear hd8
  refine wp_seq ?_
  refine reg_store (N := 643) (β := fun _ => g) (M := fun _ => stM s9) (T := TT) (n := 19) (k := 0) (i := 10) (u := .int .u64 (Go.bits .xor .u64 (s9 10) (IntKind.u64.wrap ((IntKind.u64.wrap (IntKind.u32.wrap (s9 6))) * ((s9 2) / 4294967296))))) (E2 := [(0, .p 0 0), (1, .v (.slice A1 n1 c1)), (4, .v (.slice (some ⟨b, o1, none⟩) 32 c1))]) (by kernel_rfl) tabOk hA9 SS9.mem rfl (by kernel_rfl) (by kernel_rfl) ⟨by kernel_rfl, by kernel_rfl, by kernel_rfl, trivial⟩ (fun c a a' w hd h => hQ c a a' w hd h) ⟨_, SS9.cell 10 (by decide)⟩ (SS9.free 10) (fun a10 hA10 hd10 => ?_)
  show Code.wp _ _ _ _ _
  have SSn : St g T r (u10 s9) _ := SS9.drew.set 10 (by decide) (Go.bits .xor .u64 (s9 10) (IntKind.u64.wrap ((IntKind.u64.wrap (IntKind.u32.wrap (s9 6))) * ((s9 2) / 4294967296))))
  have FWn := FW9.drew.set ⟨g, 10, none⟩ (by simp) (.int .u64 (Go.bits .xor .u64 (s9 10) (IntKind.u64.wrap ((IntKind.u64.wrap (IntKind.u32.wrap (s9 6))) * ((s9 2) / 4294967296)))))
  have BTn := BT9.keep hbg SS9 SSn ((Fr.refl [g] _).drew.set ⟨g, 10, none⟩ (by simp) (.int .u64 (Go.bits .xor .u64 (s9 10) (IntKind.u64.wrap ((IntKind.u64.wrap (IntKind.u32.wrap (s9 6))) * ((s9 2) / 4294967296))))))
  generalize World.setCell _ _ _ = W10 at SSn FWn BTn ⊢
  generalize hs10 : u10 s9 = s10 at SSn
  have SS10 := SSn
  have FW10 := FWn
  have BT10 := BTn
  clear SSn FWn BTn SS9 FW9 BT9 hA9
  replace hd10 := hd10.trans hd9
  clear hd9
  refine wp_seq ?_
  refine reg_store (N := 643) (β := fun _ => g) (M := fun _ => stM s10) (T := TT) (n := 11) (k := 0) (i := 2) (u := .int .u64 (IntKind.u64.wrap ((s10 2) + (s10 14)))) (E2 := [(0, .p 0 0), (1, .v (.slice A1 n1 c1)), (4, .v (.slice (some ⟨b, o1, none⟩) 32 c1))]) (by kernel_rfl) tabOk hA10 SS10.mem rfl (by kernel_rfl) (by kernel_rfl) ⟨by kernel_rfl, by kernel_rfl, by kernel_rfl, trivial⟩ (fun c a a' w hd h => hQ c a a' w hd h) ⟨_, SS10.cell 2 (by decide)⟩ (SS10.free 2) (fun a11 hA11 hd11 => ?_)
  show Code.wp _ _ _ _ _
  have SSn : St g T r (u11 s10) _ := SS10.drew.set 2 (by decide) (IntKind.u64.wrap ((s10 2) + (s10 14)))
  have FWn := FW10.drew.set ⟨g, 2, none⟩ (by simp) (.int .u64 (IntKind.u64.wrap ((s10 2) + (s10 14))))
  have BTn := BT10.keep hbg SS10 SSn ((Fr.refl [g] _).drew.set ⟨g, 2, none⟩ (by simp) (.int .u64 (IntKind.u64.wrap ((s10 2) + (s10 14)))))
  generalize World.setCell _ _ _ = W11 at SSn FWn BTn ⊢
  generalize hs11 : u11 s10 = s11 at SSn
  have SS11 := SSn
  have FW11 := FWn
  have BT11 := BTn
  clear SSn FWn BTn SS10 FW10 BT10 hA10
  replace hd11 := hd11.trans hd10
  clear hd10
  refine wp_seq ?_
  refine reg_store (N := 643) (β := fun _ => g) (M := fun _ => stM s11) (T := TT) (n := 19) (k := 0) (i := 14) (u := .int .u64 (Go.bits .xor .u64 (s11 14) (IntKind.u64.wrap ((IntKind.u64.wrap (IntKind.u32.wrap (s11 2))) * ((s11 6) / 4294967296))))) (E2 := [(0, .p 0 0), (1, .v (.slice A1 n1 c1)), (4, .v (.slice (some ⟨b, o1, none⟩) 32 c1))]) (by kernel_rfl) tabOk hA11 SS11.mem rfl (by kernel_rfl) (by kernel_rfl) ⟨by kernel_rfl, by kernel_rfl, by kernel_rfl, trivial⟩ (fun c a a' w hd h => hQ c a a' w hd h) ⟨_, SS11.cell 14 (by decide)⟩ (SS11.free 14) (fun a12 hA12 hd12 => ?_)
  show Code.wp _ _ _ _ _
  have SSn : St g T r (u12 s11) _ := SS11.drew.set 14 (by decide) (Go.bits .xor .u64 (s11 14) (IntKind.u64.wrap ((IntKind.u64.wrap (IntKind.u32.wrap (s11 2))) * ((s11 6) / 4294967296))))
  have FWn := FW11.drew.set ⟨g, 14, none⟩ (by simp) (.int .u64 (Go.bits .xor .u64 (s11 14) (IntKind.u64.wrap ((IntKind.u64.wrap (IntKind.u32.wrap (s11 2))) * ((s11 6) / 4294967296)))))
  have BTn := BT11.keep hbg SS11 SSn ((Fr.refl [g] _).drew.set ⟨g, 14, none⟩ (by simp) (.int .u64 (Go.bits .xor .u64 (s11 14) (IntKind.u64.wrap ((IntKind.u64.wrap (IntKind.u32.wrap (s11 2))) * ((s11 6) / 4294967296))))))
  generalize World.setCell _ _ _ = W12 at SSn FWn BTn ⊢
  generalize hs12 : u12 s11 = s12 at SSn
  have SS12 := SSn
  have FW12 := FWn
  have BT12 := BTn
  clear SSn FWn BTn SS11 FW11 BT11 hA11
  replace hd12 := hd12.trans hd11
  clear hd11
  refine wp_seq ?_
  refine reg_slice_call_store (S := fun W => St g T r s12 W ∧ Bts b o1 32 y W ∧ Fr [g] w W) (N := 643) (β := fun _ => g) (M := fun _ => stM s12) (T := TT) (l1 := [0, 1, 2, 3, 4, 5, 8, 9, 10, 11, 14]) (js := 6) (j := 7) (l2 := [12, 13, 15]) (n := 16) (k := 0) (i := 7) (f := 43) (d := 227) (d0 := 226) (x0 := .tmp 225) (l0 := 24) (t0 := 22) (vx := .slice (some ⟨b, o1, none⟩) 32 c1) (v0 := .slice (some ⟨b, o1 + 24, none⟩) 8 (c1 - 24)) (u := .int .u64 (IntKind.u64.wrap ((s12 7) + (IntKind.u64.wrap ((le8 (fun i => y (24 + i))) + (s12 11)))))) (v := .int .u64 (le8 (fun i => y (24 + i)))) (args := [.v (.agg #[]), .v (.slice (some ⟨b, o1 + 24, none⟩) 8 (c1 - 24))]) (E2 := [(0, .p 0 0), (1, .v (.slice A1 n1 c1)), (4, .v (.slice (some ⟨b, o1, none⟩) 32 c1))]) (by kernel_rfl) tabOk (fun W hW => hW.1.mem) hA12 ⟨SS12.drew, BT12, FW12.drew⟩ rfl (by kernel_rfl) (by kernel_rfl) (by kernel_rfl) (fun W => sl_at W b o1 32 c1 24 (by decide) (by omega) (by omega)) (by kernel_rfl) Tryd.func43 rfl rfl
    (fun W hW => (u64_walk b (o1 + 24) 8 _ (by decide) (fun i => y (24 + i)) W (hW.2.1.from 24 8 (by decide))).mono fun e W' hh => ⟨hh.1, hW.1.onB hh.2, hW.2.1.onB hh.2, hW.2.2.trans (Fr.ofBelow [g] hh.2)⟩)
    (by kernel_rfl) ⟨by kernel_rfl, by kernel_rfl, by kernel_rfl, trivial⟩ (fun c a a' w hd h => hQ c a a' w hd h) (fun W hW => ⟨⟨_, hW.1.cell 7 (by decide)⟩, hW.1.free 7⟩) (fun a13 W13' hA13 hd13 hW => ?_)
  obtain ⟨SSm, BTm, FWm⟩ := hW
  clear SS12 BT12 FW12
  have SS12 := SSm
  have BT12 := BTm
  have FW12 := FWm
  clear SSm BTm FWm
  show Code.wp _ _ _ _ _
  have SSn : St g T r (u13 s12 (le8 (fun i => y (24 + i)))) _ := SS12.set 7 (by decide) (IntKind.u64.wrap ((s12 7) + (IntKind.u64.wrap ((le8 (fun i => y (24 + i))) + (s12 11)))))
  have FWn := FW12.set ⟨g, 7, none⟩ (by simp) (.int .u64 (IntKind.u64.wrap ((s12 7) + (IntKind.u64.wrap ((le8 (fun i => y (24 + i))) + (s12 11))))))
  have BTn := BT12.keep hbg SS12 SSn ((Fr.refl [g] _).set ⟨g, 7, none⟩ (by simp) (.int .u64 (IntKind.u64.wrap ((s12 7) + (IntKind.u64.wrap ((le8 (fun i => y (24 + i))) + (s12 11)))))))
  generalize World.setCell _ _ _ = W13 at SSn FWn BTn ⊢
  generalize hs13 : u13 s12 (le8 (fun i => y (24 + i))) = s13 at SSn
  have SS13 := SSn
  have FW13 := FWn
  have BT13 := BTn
  clear SSn FWn BTn SS12 FW12 BT12 hA12
  replace hd13 := hd13.trans hd12
  clear hd12
  refine wp_seq ?_
  refine reg_store (N := 643) (β := fun _ => g) (M := fun _ => stM s13) (T := TT) (n := 19) (k := 0) (i := 11) (u := .int .u64 (Go.bits .xor .u64 (s13 11) (IntKind.u64.wrap ((IntKind.u64.wrap (IntKind.u32.wrap (s13 7))) * ((s13 3) / 4294967296))))) (E2 := [(0, .p 0 0), (1, .v (.slice A1 n1 c1)), (4, .v (.slice (some ⟨b, o1, none⟩) 32 c1))]) (by kernel_rfl) tabOk hA13 SS13.mem rfl (by kernel_rfl) (by kernel_rfl) ⟨by kernel_rfl, by kernel_rfl, by kernel_rfl, trivial⟩ (fun c a a' w hd h => hQ c a a' w hd h) ⟨_, SS13.cell 11 (by decide)⟩ (SS13.free 11) (fun a14 hA14 hd14 => ?_)
  show Code.wp _ _ _ _ _
  have SSn : St g T r (u14 s13) _ := SS13.drew.set 11 (by decide) (Go.bits .xor .u64 (s13 11) (IntKind.u64.wrap ((IntKind.u64.wrap (IntKind.u32.wrap (s13 7))) * ((s13 3) / 4294967296))))
  have FWn := FW13.drew.set ⟨g, 11, none⟩ (by simp) (.int .u64 (Go.bits .xor .u64 (s13 11) (IntKind.u64.wrap ((IntKind.u64.wrap (IntKind.u32.wrap (s13 7))) * ((s13 3) / 4294967296)))))
  have BTn := BT13.keep hbg SS13 SSn ((Fr.refl [g] _).drew.set ⟨g, 11, none⟩ (by simp) (.int .u64 (Go.bits .xor .u64 (s13 11) (IntKind.u64.wrap ((IntKind.u64.wrap (IntKind.u32.wrap (s13 7))) * ((s13 3) / 4294967296))))))
  generalize World.setCell _ _ _ = W14 at SSn FWn BTn ⊢
  generalize hs14 : u14 s13 = s14 at SSn
  have SS14 := SSn
  have FW14 := FWn
  have BT14 := BTn
  clear SSn FWn BTn SS13 FW13 BT13 hA13
  replace hd14 := hd14.trans hd13
  clear hd13
  refine wp_seq ?_
  refine reg_store (N := 643) (β := fun _ => g) (M := fun _ => stM s14) (T := TT) (n := 11) (k := 0) (i := 3) (u := .int .u64 (IntKind.u64.wrap ((s14 3) + (s14 15)))) (E2 := [(0, .p 0 0), (1, .v (.slice A1 n1 c1)), (4, .v (.slice (some ⟨b, o1, none⟩) 32 c1))]) (by kernel_rfl) tabOk hA14 SS14.mem rfl (by kernel_rfl) (by kernel_rfl) ⟨by kernel_rfl, by kernel_rfl, by kernel_rfl, trivial⟩ (fun c a a' w hd h => hQ c a a' w hd h) ⟨_, SS14.cell 3 (by decide)⟩ (SS14.free 3) (fun a15 hA15 hd15 => ?_)
  show Code.wp _ _ _ _ _
  have SSn : St g T r (u15 s14) _ := SS14.drew.set 3 (by decide) (IntKind.u64.wrap ((s14 3) + (s14 15)))
  have FWn := FW14.drew.set ⟨g, 3, none⟩ (by simp) (.int .u64 (IntKind.u64.wrap ((s14 3) + (s14 15))))
  have BTn := BT14.keep hbg SS14 SSn ((Fr.refl [g] _).drew.set ⟨g, 3, none⟩ (by simp) (.int .u64 (IntKind.u64.wrap ((s14 3) + (s14 15)))))
  generalize World.setCell _ _ _ = W15 at SSn FWn BTn ⊢
  generalize hs15 : u15 s14 = s15 at SSn
  have SS15 := SSn
  have FW15 := FWn
  have BT15 := BTn
  clear SSn FWn BTn SS14 FW14 BT14 hA14
  replace hd15 := hd15.trans hd14
  clear hd14
  refine wp_seq ?_
  refine reg_store (N := 643) (β := fun _ => g) (M := fun _ => stM s15) (T := TT) (n := 19) (k := 0) (i := 15) (u := .int .u64 (Go.bits .xor .u64 (s15 15) (IntKind.u64.wrap ((IntKind.u64.wrap (IntKind.u32.wrap (s15 3))) * ((s15 7) / 4294967296))))) (E2 := [(0, .p 0 0), (1, .v (.slice A1 n1 c1)), (4, .v (.slice (some ⟨b, o1, none⟩) 32 c1))]) (by kernel_rfl) tabOk hA15 SS15.mem rfl (by kernel_rfl) (by kernel_rfl) ⟨by kernel_rfl, by kernel_rfl, by kernel_rfl, trivial⟩ (fun c a a' w hd h => hQ c a a' w hd h) ⟨_, SS15.cell 15 (by decide)⟩ (SS15.free 15) (fun a16 hA16 hd16 => ?_)
  show Code.wp _ _ _ _ _
  have SSn : St g T r (u16 s15) _ := SS15.drew.set 15 (by decide) (Go.bits .xor .u64 (s15 15) (IntKind.u64.wrap ((IntKind.u64.wrap (IntKind.u32.wrap (s15 3))) * ((s15 7) / 4294967296))))
  have FWn := FW15.drew.set ⟨g, 15, none⟩ (by simp) (.int .u64 (Go.bits .xor .u64 (s15 15) (IntKind.u64.wrap ((IntKind.u64.wrap (IntKind.u32.wrap (s15 3))) * ((s15 7) / 4294967296)))))
  have BTn := BT15.keep hbg SS15 SSn ((Fr.refl [g] _).drew.set ⟨g, 15, none⟩ (by simp) (.int .u64 (Go.bits .xor .u64 (s15 15) (IntKind.u64.wrap ((IntKind.u64.wrap (IntKind.u32.wrap (s15 3))) * ((s15 7) / 4294967296))))))
  generalize World.setCell _ _ _ = W16 at SSn FWn BTn ⊢
  generalize hs16 : u16 s15 = s16 at SSn
  have SS16 := SSn
  have FW16 := FWn
  have BT16 := BTn
  clear SSn FWn BTn SS15 FW15 BT15 hA15
  replace hd16 := hd16.trans hd15
  clear hd15
  refine wp_seq ?_
  refine wp_seq ?_
  refine reg_seq (N := 643) (β := fun _ => g) (M := fun _ => stM s16) (T := TT) (n := 5) (E2 := [(0, .p 0 0), (1, .v (.slice A1 n1 c1)), (4, .v (.slice (some ⟨b, o1, none⟩) 32 c1)), (5, .v (.int .u64 (s16 4)))]) tabOk hA16 SS16.mem rfl (by kernel_rfl) ⟨by kernel_rfl, by kernel_rfl, by kernel_rfl, by kernel_rfl, trivial⟩ (fun b1 hB1 hd1 => ?_)
  show Code.wp _ _ _ _ _
  replace hd16 := hd1.trans hd16
  clear hA16 hd1
  have hA16 := hB1
  clear hB1
  refine wp_seq ?_
  refine reg_seq (N := 643) (β := fun _ => g) (M := fun _ => stM s16) (T := TT) (n := 5) (E2 := [(0, .p 0 0), (1, .v (.slice A1 n1 c1)), (4, .v (.slice (some ⟨b, o1, none⟩) 32 c1)), (5, .v (.int .u64 (s16 4))), (6, .v (.int .u64 (s16 5)))]) tabOk hA16 SS16.mem rfl (by kernel_rfl) ⟨by kernel_rfl, by kernel_rfl, by kernel_rfl, by kernel_rfl, by kernel_rfl, trivial⟩ (fun b1 hB1 hd1 => ?_)
  show Code.wp _ _ _ _ _
  replace hd16 := hd1.trans hd16
  clear hA16 hd1
  have hA16 := hB1
  clear hB1
  refine wp_seq ?_
  refine reg_seq (N := 643) (β := fun _ => g) (M := fun _ => stM s16) (T := TT) (n := 3) (E2 := [(0, .p 0 0), (1, .v (.slice A1 n1 c1)), (4, .v (.slice (some ⟨b, o1, none⟩) 32 c1)), (5, .v (.int .u64 (s16 4))), (6, .v (.int .u64 (s16 5))), (7, .v (.int .u64 (z1 (s16 4) (s16 5))))]) tabOk hA16 SS16.mem rfl (by kernel_rfl) ⟨by kernel_rfl, by kernel_rfl, by kernel_rfl, by kernel_rfl, by kernel_rfl, by kernel_rfl, trivial⟩ (fun b1 hB1 hd1 => ?_)
  show Code.wp _ _ _ _ _
  replace hd16 := hd1.trans hd16
  clear hA16 hd1
  have hA16 := hB1
  clear hB1
  refine wp_seq ?_
  refine reg_seq (N := 643) (β := fun _ => g) (M := fun _ => stM s16) (T := TT) (n := 6) (E2 := [(0, .p 0 0), (1, .v (.slice A1 n1 c1)), (4, .v (.slice (some ⟨b, o1, none⟩) 32 c1)), (5, .v (.int .u64 (s16 4))), (6, .v (.int .u64 (s16 5))), (7, .v (.int .u64 (z1 (s16 4) (s16 5)))), (8, .v (.int .u64 (z2 (s16 4) (s16 5))))]) tabOk hA16 SS16.mem rfl (by kernel_rfl) ⟨by kernel_rfl, by kernel_rfl, by kernel_rfl, by kernel_rfl, by kernel_rfl, by kernel_rfl, by kernel_rfl, trivial⟩ (fun b1 hB1 hd1 => ?_)
  show Code.wp _ _ _ _ _
  replace hd16 := hd1.trans hd16
  clear hA16 hd1
  have hA16 := hB1
  clear hB1
  refine wp_seq ?_
  refine reg_seq (N := 643) (β := fun _ => g) (M := fun _ => stM s16) (T := TT) (n := 6) (E2 := [(0, .p 0 0), (1, .v (.slice A1 n1 c1)), (4, .v (.slice (some ⟨b, o1, none⟩) 32 c1)), (5, .v (.int .u64 (s16 4))), (6, .v (.int .u64 (s16 5))), (7, .v (.int .u64 (z3 (s16 4) (s16 5)))), (8, .v (.int .u64 (z2 (s16 4) (s16 5))))]) tabOk hA16 SS16.mem rfl (by kernel_rfl) ⟨by kernel_rfl, by kernel_rfl, by kernel_rfl, by kernel_rfl, by kernel_rfl, by kernel_rfl, by kernel_rfl, trivial⟩ (fun b1 hB1 hd1 => ?_)
  show Code.wp _ _ _ _ _
  replace hd16 := hd1.trans hd16
  clear hA16 hd1
  have hA16 := hB1
  clear hB1
  refine wp_seq ?_
  refine reg_seq (N := 643) (β := fun _ => g) (M := fun _ => stM s16) (T := TT) (n := 6) (E2 := [(0, .p 0 0), (1, .v (.slice A1 n1 c1)), (4, .v (.slice (some ⟨b, o1, none⟩) 32 c1)), (5, .v (.int .u64 (s16 4))), (6, .v (.int .u64 (s16 5))), (7, .v (.int .u64 (z3 (s16 4) (s16 5)))), (8, .v (.int .u64 (z4 (s16 4) (s16 5))))]) tabOk hA16 SS16.mem rfl (by kernel_rfl) ⟨by kernel_rfl, by kernel_rfl, by kernel_rfl, by kernel_rfl, by kernel_rfl, by kernel_rfl, by kernel_rfl, trivial⟩ (fun b1 hB1 hd1 => ?_)
  show Code.wp _ _ _ _ _
  replace hd16 := hd1.trans hd16
  clear hA16 hd1
  have hA16 := hB1
  clear hB1
  refine wp_seq ?_
  refine reg_seq (N := 643) (β := fun _ => g) (M := fun _ => stM s16) (T := TT) (n := 9) (E2 := [(0, .p 0 0), (1, .v (.slice A1 n1 c1)), (4, .v (.slice (some ⟨b, o1, none⟩) 32 c1)), (5, .v (.int .u64 (s16 4))), (6, .v (.int .u64 (s16 5))), (7, .v (.int .u64 (z5 (s16 4) (s16 5)))), (8, .v (.int .u64 (z4 (s16 4) (s16 5))))]) tabOk hA16 SS16.mem rfl (by kernel_rfl) ⟨by kernel_rfl, by kernel_rfl, by kernel_rfl, by kernel_rfl, by kernel_rfl, by kernel_rfl, by kernel_rfl, trivial⟩ (fun b1 hB1 hd1 => ?_)
  show Code.wp _ _ _ _ _
  replace hd16 := hd1.trans hd16
  clear hA16 hd1
  have hA16 := hB1
  clear hB1
  refine wp_seq ?_
  refine reg_seq (N := 643) (β := fun _ => g) (M := fun _ => stM s16) (T := TT) (n := 6) (E2 := [(0, .p 0 0), (1, .v (.slice A1 n1 c1)), (4, .v (.slice (some ⟨b, o1, none⟩) 32 c1)), (5, .v (.int .u64 (s16 4))), (6, .v (.int .u64 (s16 5))), (7, .v (.int .u64 (z5 (s16 4) (s16 5)))), (8, .v (.int .u64 (z6 (s16 4) (s16 5))))]) tabOk hA16 SS16.mem rfl (by kernel_rfl) ⟨by kernel_rfl, by kernel_rfl, by kernel_rfl, by kernel_rfl, by kernel_rfl, by kernel_rfl, by kernel_rfl, trivial⟩ (fun b1 hB1 hd1 => ?_)
  show Code.wp _ _ _ _ _
  replace hd16 := hd1.trans hd16
  clear hA16 hd1
  have hA16 := hB1
  clear hB1
  refine wp_seq ?_
  refine reg_seq (N := 643) (β := fun _ => g) (M := fun _ => stM s16) (T := TT) (n := 9) (E2 := [(0, .p 0 0), (1, .v (.slice A1 n1 c1)), (4, .v (.slice (some ⟨b, o1, none⟩) 32 c1)), (5, .v (.int .u64 (s16 4))), (6, .v (.int .u64 (s16 5))), (7, .v (.int .u64 (z7 (s16 4) (s16 5)))), (8, .v (.int .u64 (z6 (s16 4) (s16 5))))]) tabOk hA16 SS16.mem rfl (by kernel_rfl) ⟨by kernel_rfl, by kernel_rfl, by kernel_rfl, by kernel_rfl, by kernel_rfl, by kernel_rfl, by kernel_rfl, trivial⟩ (fun b1 hB1 hd1 => ?_)
  show Code.wp _ _ _ _ _
  replace hd16 := hd1.trans hd16
  clear hA16 hd1
  have hA16 := hB1
  clear hB1
  refine wp_seq ?_
  refine reg_seq (N := 643) (β := fun _ => g) (M := fun _ => stM s16) (T := TT) (n := 9) (E2 := [(0, .p 0 0), (1, .v (.slice A1 n1 c1)), (4, .v (.slice (some ⟨b, o1, none⟩) 32 c1)), (5, .v (.int .u64 (s16 4))), (6, .v (.int .u64 (s16 5))), (7, .v (.int .u64 (z7 (s16 4) (s16 5)))), (8, .v (.int .u64 (z8 (s16 4) (s16 5))))]) tabOk hA16 SS16.mem rfl (by kernel_rfl) ⟨by kernel_rfl, by kernel_rfl, by kernel_rfl, by kernel_rfl, by kernel_rfl, by kernel_rfl, by kernel_rfl, trivial⟩ (fun b1 hB1 hd1 => ?_)
  show Code.wp _ _ _ _ _
  replace hd16 := hd1.trans hd16
  clear hA16 hd1
  have hA16 := hB1
  clear hB1
  refine wp_seq ?_
  refine reg_seq (N := 643) (β := fun _ => g) (M := fun _ => stM s16) (T := TT) (n := 6) (E2 := [(0, .p 0 0), (1, .v (.slice A1 n1 c1)), (4, .v (.slice (some ⟨b, o1, none⟩) 32 c1)), (5, .v (.int .u64 (s16 4))), (6, .v (.int .u64 (s16 5))), (7, .v (.int .u64 (z9 (s16 4) (s16 5)))), (8, .v (.int .u64 (z8 (s16 4) (s16 5))))]) tabOk hA16 SS16.mem rfl (by kernel_rfl) ⟨by kernel_rfl, by kernel_rfl, by kernel_rfl, by kernel_rfl, by kernel_rfl, by kernel_rfl, by kernel_rfl, trivial⟩ (fun b1 hB1 hd1 => ?_)
  show Code.wp _ _ _ _ _
  replace hd16 := hd1.trans hd16
  clear hA16 hd1
  have hA16 := hB1
  clear hB1
  refine wp_seq ?_
  refine reg_seq (N := 643) (β := fun _ => g) (M := fun _ => stM s16) (T := TT) (n := 6) (E2 := [(0, .p 0 0), (1, .v (.slice A1 n1 c1)), (4, .v (.slice (some ⟨b, o1, none⟩) 32 c1)), (5, .v (.int .u64 (s16 4))), (6, .v (.int .u64 (s16 5))), (7, .v (.int .u64 (z9 (s16 4) (s16 5)))), (8, .v (.int .u64 (z10 (s16 4) (s16 5))))]) tabOk hA16 SS16.mem rfl (by kernel_rfl) ⟨by kernel_rfl, by kernel_rfl, by kernel_rfl, by kernel_rfl, by kernel_rfl, by kernel_rfl, by kernel_rfl, trivial⟩ (fun b1 hB1 hd1 => ?_)
  show Code.wp _ _ _ _ _
  replace hd16 := hd1.trans hd16
  clear hA16 hd1
  have hA16 := hB1
  clear hB1
  refine wp_seq ?_
  refine reg_seq (N := 643) (β := fun _ => g) (M := fun _ => stM s16) (T := TT) (n := 5) (E2 := [(0, .p 0 0), (1, .v (.slice A1 n1 c1)), (4, .v (.slice (some ⟨b, o1, none⟩) 32 c1)), (5, .v (.int .u64 (s16 4))), (6, .v (.int .u64 (s16 5))), (7, .v (.int .u64 (z11 (s16 4) (s16 5)))), (8, .v (.int .u64 (z10 (s16 4) (s16 5))))]) tabOk hA16 SS16.mem rfl (by kernel_rfl) ⟨by kernel_rfl, by kernel_rfl, by kernel_rfl, by kernel_rfl, by kernel_rfl, by kernel_rfl, by kernel_rfl, trivial⟩ (fun b1 hB1 hd1 => ?_)
  show Code.wp _ _ _ _ _
  replace hd16 := hd1.trans hd16
  clear hA16 hd1
  have hA16 := hB1
  clear hB1
  refine wp_seq ?_
  refine reg_seq (N := 643) (β := fun _ => g) (M := fun _ => stM s16) (T := TT) (n := 6) (E2 := [(0, .p 0 0), (1, .v (.slice A1 n1 c1)), (4, .v (.slice (some ⟨b, o1, none⟩) 32 c1)), (5, .v (.int .u64 (s16 4))), (6, .v (.int .u64 (s16 5))), (7, .v (.int .u64 (z11 (s16 4) (s16 5)))), (8, .v (.int .u64 (z12 (s16 4) (s16 5))))]) tabOk hA16 SS16.mem rfl (by kernel_rfl) ⟨by kernel_rfl, by kernel_rfl, by kernel_rfl, by kernel_rfl, by kernel_rfl, by kernel_rfl, by kernel_rfl, trivial⟩ (fun b1 hB1 hd1 => ?_)
  show Code.wp _ _ _ _ _
  replace hd16 := hd1.trans hd16
  clear hA16 hd1
  have hA16 := hB1
  clear hB1
  refine wp_seq ?_
  refine reg_store (N := 643) (β := fun _ => g) (M := fun _ => stM s16) (T := TT) (n := 8) (k := 0) (i := 0) (u := .int .u64 (IntKind.u64.wrap ((s16 0) + (z11 (s16 4) (s16 5))))) (E2 := [(0, .p 0 0), (1, .v (.slice A1 n1 c1)), (4, .v (.slice (some ⟨b, o1, none⟩) 32 c1)), (8, .v (.int .u64 (z12 (s16 4) (s16 5))))]) (by kernel_rfl) tabOk hA16 SS16.mem rfl (by kernel_rfl) (by kernel_rfl) ⟨by kernel_rfl, by kernel_rfl, by kernel_rfl, by kernel_rfl, trivial⟩ (fun c a a' w hd h => hQ c a a' w hd h) ⟨_, SS16.cell 0 (by decide)⟩ (SS16.free 0) (fun a17 hA17 hd17 => ?_)
  show Code.wp _ _ _ _ _
  have SSn : St g T r (zs s16 0 (z11 (s16 4) (s16 5))) _ := SS16.drew.set 0 (by decide) (IntKind.u64.wrap ((s16 0) + (z11 (s16 4) (s16 5))))
  have FWn := FW16.drew.set ⟨g, 0, none⟩ (by simp) (.int .u64 (IntKind.u64.wrap ((s16 0) + (z11 (s16 4) (s16 5)))))
  have BTn := BT16.keep hbg SS16 SSn ((Fr.refl [g] _).drew.set ⟨g, 0, none⟩ (by simp) (.int .u64 (IntKind.u64.wrap ((s16 0) + (z11 (s16 4) (s16 5))))))
  generalize World.setCell _ _ _ = W17 at SSn FWn BTn ⊢
  generalize hs17 : zs s16 0 (z11 (s16 4) (s16 5)) = s17 at SSn
  have SS17 := SSn
  have FW17 := FWn
  have BT17 := BTn
  clear SSn FWn BTn SS16 FW16 BT16 hA16
  replace hd17 := hd17.trans hd16
  clear hd16
  refine reg_store (N := 643) (β := fun _ => g) (M := fun _ => stM s17) (T := TT) (n := 8) (k := 0) (i := 1) (u := .int .u64 (IntKind.u64.wrap ((s17 1) + (z12 (s16 4) (s16 5))))) (E2 := [(0, .p 0 0), (1, .v (.slice A1 n1 c1)), (4, .v (.slice (some ⟨b, o1, none⟩) 32 c1))]) (by kernel_rfl) tabOk hA17 SS17.mem rfl (by kernel_rfl) (by kernel_rfl) ⟨by kernel_rfl, by kernel_rfl, by kernel_rfl, trivial⟩ (fun c a a' w hd h => hQ c a a' w hd h) ⟨_, SS17.cell 1 (by decide)⟩ (SS17.free 1) (fun a18 hA18 hd18 => ?_)
  show Code.wp _ _ _ _ _
  have SSn : St g T r (zs s17 1 (z12 (s16 4) (s16 5))) _ := SS17.drew.set 1 (by decide) (IntKind.u64.wrap ((s17 1) + (z12 (s16 4) (s16 5))))
  have FWn := FW17.drew.set ⟨g, 1, none⟩ (by simp) (.int .u64 (IntKind.u64.wrap ((s17 1) + (z12 (s16 4) (s16 5)))))
  have BTn := BT17.keep hbg SS17 SSn ((Fr.refl [g] _).drew.set ⟨g, 1, none⟩ (by simp) (.int .u64 (IntKind.u64.wrap ((s17 1) + (z12 (s16 4) (s16 5))))))
  generalize World.setCell _ _ _ = W18 at SSn FWn BTn ⊢
  generalize hs18 : zs s17 1 (z12 (s16 4) (s16 5)) = s18 at SSn
  have SS18 := SSn
  have FW18 := FWn
  have BT18 := BTn
  clear SSn FWn BTn SS17 FW17 BT17 hA17
  replace hd18 := hd18.trans hd17
  clear hd17
  refine wp_seq ?_
  refine wp_seq ?_
  refine reg_seq (N := 643) (β := fun _ => g) (M := fun _ => stM s18) (T := TT) (n := 5) (E2 := [(0, .p 0 0), (1, .v (.slice A1 n1 c1)), (4, .v (.slice (some ⟨b, o1, none⟩) 32 c1)), (9, .v (.int .u64 (s18 6)))]) tabOk hA18 SS18.mem rfl (by kernel_rfl) ⟨by kernel_rfl, by kernel_rfl, by kernel_rfl, by kernel_rfl, trivial⟩ (fun b1 hB1 hd1 => ?_)
  show Code.wp _ _ _ _ _
  replace hd18 := hd1.trans hd18
  clear hA18 hd1
  have hA18 := hB1
  clear hB1
  refine wp_seq ?_
  refine reg_seq (N := 643) (β := fun _ => g) (M := fun _ => stM s18) (T := TT) (n := 5) (E2 := [(0, .p 0 0), (1, .v (.slice A1 n1 c1)), (4, .v (.slice (some ⟨b, o1, none⟩) 32 c1)), (9, .v (.int .u64 (s18 6))), (10, .v (.int .u64 (s18 7)))]) tabOk hA18 SS18.mem rfl (by kernel_rfl) ⟨by kernel_rfl, by kernel_rfl, by kernel_rfl, by kernel_rfl, by kernel_rfl, trivial⟩ (fun b1 hB1 hd1 => ?_)
  show Code.wp _ _ _ _ _
  replace hd18 := hd1.trans hd18
  clear hA18 hd1
  have hA18 := hB1
  clear hB1
  refine wp_seq ?_
  refine reg_seq (N := 643) (β := fun _ => g) (M := fun _ => stM s18) (T := TT) (n := 3) (E2 := [(0, .p 0 0), (1, .v (.slice A1 n1 c1)), (4, .v (.slice (some ⟨b, o1, none⟩) 32 c1)), (9, .v (.int .u64 (s18 6))), (10, .v (.int .u64 (s18 7))), (11, .v (.int .u64 (z1 (s18 6) (s18 7))))]) tabOk hA18 SS18.mem rfl (by kernel_rfl) ⟨by kernel_rfl, by kernel_rfl, by kernel_rfl, by kernel_rfl, by kernel_rfl, by kernel_rfl, trivial⟩ (fun b1 hB1 hd1 => ?_)
  show Code.wp _ _ _ _ _
  replace hd18 := hd1.trans hd18
  clear hA18 hd1
  have hA18 := hB1
  clear hB1
  refine wp_seq ?_
  refine reg_seq (N := 643) (β := fun _ => g) (M := fun _ => stM s18) (T := TT) (n := 6) (E2 := [(0, .p 0 0), (1, .v (.slice A1 n1 c1)), (4, .v (.slice (some ⟨b, o1, none⟩) 32 c1)), (9, .v (.int .u64 (s18 6))), (10, .v (.int .u64 (s18 7))), (11, .v (.int .u64 (z1 (s18 6) (s18 7)))), (12, .v (.int .u64 (z2 (s18 6) (s18 7))))]) tabOk hA18 SS18.mem rfl (by kernel_rfl) ⟨by kernel_rfl, by kernel_rfl, by kernel_rfl, by kernel_rfl, by kernel_rfl, by kernel_rfl, by kernel_rfl, trivial⟩ (fun b1 hB1 hd1 => ?_)
  show Code.wp _ _ _ _ _
  replace hd18 := hd1.trans hd18
  clear hA18 hd1
  have hA18 := hB1
  clear hB1
  refine wp_seq ?_
  refine reg_seq (N := 643) (β := fun _ => g) (M := fun _ => stM s18) (T := TT) (n := 6) (E2 := [(0, .p 0 0), (1, .v (.slice A1 n1 c1)), (4, .v (.slice (some ⟨b, o1, none⟩) 32 c1)), (9, .v (.int .u64 (s18 6))), (10, .v (.int .u64 (s18 7))), (11, .v (.int .u64 (z3 (s18 6) (s18 7)))), (12, .v (.int .u64 (z2 (s18 6) (s18 7))))]) tabOk hA18 SS18.mem rfl (by kernel_rfl) ⟨by kernel_rfl, by kernel_rfl, by kernel_rfl, by kernel_rfl, by kernel_rfl, by kernel_rfl, by kernel_rfl, trivial⟩ (fun b1 hB1 hd1 => ?_)
  show Code.wp _ _ _ _ _
  replace hd18 := hd1.trans hd18
  clear hA18 hd1
  have hA18 := hB1
  clear hB1
  refine wp_seq ?_
  refine reg_seq (N := 643) (β := fun _ => g) (M := fun _ => stM s18) (T := TT) (n := 6) (E2 := [(0, .p 0 0), (1, .v (.slice A1 n1 c1)), (4, .v (.slice (some ⟨b, o1, none⟩) 32 c1)), (9, .v (.int .u64 (s18 6))), (10, .v (.int .u64 (s18 7))), (11, .v (.int .u64 (z3 (s18 6) (s18 7)))), (12, .v (.int .u64 (z4 (s18 6) (s18 7))))]) tabOk hA18 SS18.mem rfl (by kernel_rfl) ⟨by kernel_rfl, by kernel_rfl, by kernel_rfl, by kernel_rfl, by kernel_rfl, by kernel_rfl, by kernel_rfl, trivial⟩ (fun b1 hB1 hd1 => ?_)
  show Code.wp _ _ _ _ _
  replace hd18 := hd1.trans hd18
  clear hA18 hd1
  have hA18 := hB1
  clear hB1
  refine wp_seq ?_
  refine reg_seq (N := 643) (β := fun _ => g) (M := fun _ => stM s18) (T := TT) (n := 9) (E2 := [(0, .p 0 0), (1, .v (.slice A1 n1 c1)), (4, .v (.slice (some ⟨b, o1, none⟩) 32 c1)), (9, .v (.int .u64 (s18 6))), (10, .v (.int .u64 (s18 7))), (11, .v (.int .u64 (z5 (s18 6) (s18 7)))), (12, .v (.int .u64 (z4 (s18 6) (s18 7))))]) tabOk hA18 SS18.mem rfl (by kernel_rfl) ⟨by kernel_rfl, by kernel_rfl, by kernel_rfl, by kernel_rfl, by kernel_rfl, by kernel_rfl, by kernel_rfl, trivial⟩ (fun b1 hB1 hd1 => ?_)
  show Code.wp _ _ _ _ _
  replace hd18 := hd1.trans hd18
  clear hA18 hd1
  have hA18 := hB1
  clear hB1
  refine wp_seq ?_
  refine reg_seq (N := 643) (β := fun _ => g) (M := fun _ => stM s18) (T := TT) (n := 6) (E2 := [(0, .p 0 0), (1, .v (.slice A1 n1 c1)), (4, .v (.slice (some ⟨b, o1, none⟩) 32 c1)), (9, .v (.int .u64 (s18 6))), (10, .v (.int .u64 (s18 7))), (11, .v (.int .u64 (z5 (s18 6) (s18 7)))), (12, .v (.int .u64 (z6 (s18 6) (s18 7))))]) tabOk hA18 SS18.mem rfl (by kernel_rfl) ⟨by kernel_rfl, by kernel_rfl, by kernel_rfl, by kernel_rfl, by kernel_rfl, by kernel_rfl, by kernel_rfl, trivial⟩ (fun b1 hB1 hd1 => ?_)
  show Code.wp _ _ _ _ _
  replace hd18 := hd1.trans hd18
  clear hA18 hd1
  have hA18 := hB1
  clear hB1
  refine wp_seq ?_
  refine reg_seq (N := 643) (β := fun _ => g) (M := fun _ => stM s18) (T := TT) (n := 9) (E2 := [(0, .p 0 0), (1, .v (.slice A1 n1 c1)), (4, .v (.slice (some ⟨b, o1, none⟩) 32 c1)), (9, .v (.int .u64 (s18 6))), (10, .v (.int .u64 (s18 7))), (11, .v (.int .u64 (z7 (s18 6) (s18 7)))), (12, .v (.int .u64 (z6 (s18 6) (s18 7))))]) tabOk hA18 SS18.mem rfl (by kernel_rfl) ⟨by kernel_rfl, by kernel_rfl, by kernel_rfl, by kernel_rfl, by kernel_rfl, by kernel_rfl, by kernel_rfl, trivial⟩ (fun b1 hB1 hd1 => ?_)
  show Code.wp _ _ _ _ _
  replace hd18 := hd1.trans hd18
  clear hA18 hd1
  have hA18 := hB1
  clear hB1
  refine wp_seq ?_
  refine reg_seq (N := 643) (β := fun _ => g) (M := fun _ => stM s18) (T := TT) (n := 9) (E2 := [(0, .p 0 0), (1, .v (.slice A1 n1 c1)), (4, .v (.slice (some ⟨b, o1, none⟩) 32 c1)), (9, .v (.int .u64 (s18 6))), (10, .v (.int .u64 (s18 7))), (11, .v (.int .u64 (z7 (s18 6) (s18 7)))), (12, .v (.int .u64 (z8 (s18 6) (s18 7))))]) tabOk hA18 SS18.mem rfl (by kernel_rfl) ⟨by kernel_rfl, by kernel_rfl, by kernel_rfl, by kernel_rfl, by kernel_rfl, by kernel_rfl, by kernel_rfl, trivial⟩ (fun b1 hB1 hd1 => ?_)
  show Code.wp _ _ _ _ _
  replace hd18 := hd1.trans hd18
  clear hA18 hd1
  have hA18 := hB1
  clear hB1
  refine wp_seq ?_
  refine reg_seq (N := 643) (β := fun _ => g) (M := fun _ => stM s18) (T := TT) (n := 6) (E2 := [(0, .p 0 0), (1, .v (.slice A1 n1 c1)), (4, .v (.slice (some ⟨b, o1, none⟩) 32 c1)), (9, .v (.int .u64 (s18 6))), (10, .v (.int .u64 (s18 7))), (11, .v (.int .u64 (z9 (s18 6) (s18 7)))), (12, .v (.int .u64 (z8 (s18 6) (s18 7))))]) tabOk hA18 SS18.mem rfl (by kernel_rfl) ⟨by kernel_rfl, by kernel_rfl, by kernel_rfl, by kernel_rfl, by kernel_rfl, by kernel_rfl, by kernel_rfl, trivial⟩ (fun b1 hB1 hd1 => ?_)
  show Code.wp _ _ _ _ _
  replace hd18 := hd1.trans hd18
  clear hA18 hd1
  have hA18 := hB1
  clear hB1
  refine wp_seq ?_
  refine reg_seq (N := 643) (β := fun _ => g) (M := fun _ => stM s18) (T := TT) (n := 6) (E2 := [(0, .p 0 0), (1, .v (.slice A1 n1 c1)), (4, .v (.slice (some ⟨b, o1, none⟩) 32 c1)), (9, .v (.int .u64 (s18 6))), (10, .v (.int .u64 (s18 7))), (11, .v (.int .u64 (z9 (s18 6) (s18 7)))), (12, .v (.int .u64 (z10 (s18 6) (s18 7))))]) tabOk hA18 SS18.mem rfl (by kernel_rfl) ⟨by kernel_rfl, by kernel_rfl, by kernel_rfl, by kernel_rfl, by kernel_rfl, by kernel_rfl, by kernel_rfl, trivial⟩ (fun b1 hB1 hd1 => ?_)
  show Code.wp _ _ _ _ _
  replace hd18 := hd1.trans hd18
  clear hA18 hd1
  have hA18 := hB1
  clear hB1
  refine wp_seq ?_
  refine reg_seq (N := 643) (β := fun _ => g) (M := fun _ => stM s18) (T := TT) (n := 5) (E2 := [(0, .p 0 0), (1, .v (.slice A1 n1 c1)), (4, .v (.slice (some ⟨b, o1, none⟩) 32 c1)), (9, .v (.int .u64 (s18 6))), (10, .v (.int .u64 (s18 7))), (11, .v (.int .u64 (z11 (s18 6) (s18 7)))), (12, .v (.int .u64 (z10 (s18 6) (s18 7))))]) tabOk hA18 SS18.mem rfl (by kernel_rfl) ⟨by kernel_rfl, by kernel_rfl, by kernel_rfl, by kernel_rfl, by kernel_rfl, by kernel_rfl, by kernel_rfl, trivial⟩ (fun b1 hB1 hd1 => ?_)
  show Code.wp _ _ _ _ _
  replace hd18 := hd1.trans hd18
  clear hA18 hd1
  have hA18 := hB1
  clear hB1
  refine wp_seq ?_
  refine reg_seq (N := 643) (β := fun _ => g) (M := fun _ => stM s18) (T := TT) (n := 6) (E2 := [(0, .p 0 0), (1, .v (.slice A1 n1 c1)), (4, .v (.slice (some ⟨b, o1, none⟩) 32 c1)), (9, .v (.int .u64 (s18 6))), (10, .v (.int .u64 (s18 7))), (11, .v (.int .u64 (z11 (s18 6) (s18 7)))), (12, .v (.int .u64 (z12 (s18 6) (s18 7))))]) tabOk hA18 SS18.mem rfl (by kernel_rfl) ⟨by kernel_rfl, by kernel_rfl, by kernel_rfl, by kernel_rfl, by kernel_rfl, by kernel_rfl, by kernel_rfl, trivial⟩ (fun b1 hB1 hd1 => ?_)
  show Code.wp _ _ _ _ _
  replace hd18 := hd1.trans hd18
  clear hA18 hd1
  have hA18 := hB1
  clear hB1
  refine wp_seq ?_
  refine reg_store (N := 643) (β := fun _ => g) (M := fun _ => stM s18) (T := TT) (n := 8) (k := 0) (i := 2) (u := .int .u64 (IntKind.u64.wrap ((s18 2) + (z11 (s18 6) (s18 7))))) (E2 := [(0, .p 0 0), (1, .v (.slice A1 n1 c1)), (4, .v (.slice (some ⟨b, o1, none⟩) 32 c1)), (12, .v (.int .u64 (z12 (s18 6) (s18 7))))]) (by kernel_rfl) tabOk hA18 SS18.mem rfl (by kernel_rfl) (by kernel_rfl) ⟨by kernel_rfl, by kernel_rfl, by kernel_rfl, by kernel_rfl, trivial⟩ (fun c a a' w hd h => hQ c a a' w hd h) ⟨_, SS18.cell 2 (by decide)⟩ (SS18.free 2) (fun a19 hA19 hd19 => ?_)
  show Code.wp _ _ _ _ _
  have SSn : St g T r (zs s18 2 (z11 (s18 6) (s18 7))) _ := SS18.drew.set 2 (by decide) (IntKind.u64.wrap ((s18 2) + (z11 (s18 6) (s18 7))))
  have FWn := FW18.drew.set ⟨g, 2, none⟩ (by simp) (.int .u64 (IntKind.u64.wrap ((s18 2) + (z11 (s18 6) (s18 7)))))
  have BTn := BT18.keep hbg SS18 SSn ((Fr.refl [g] _).drew.set ⟨g, 2, none⟩ (by simp) (.int .u64 (IntKind.u64.wrap ((s18 2) + (z11 (s18 6) (s18 7))))))
  generalize World.setCell _ _ _ = W19 at SSn FWn BTn ⊢
  generalize hs19 : zs s18 2 (z11 (s18 6) (s18 7)) = s19 at SSn
  have SS19 := SSn
  have FW19 := FWn
  have BT19 := BTn
  clear SSn FWn BTn SS18 FW18 BT18 hA18
  replace hd19 := hd19.trans hd18
  clear hd18
  refine reg_store (N := 643) (β := fun _ => g) (M := fun _ => stM s19) (T := TT) (n := 8) (k := 0) (i := 3) (u := .int .u64 (IntKind.u64.wrap ((s19 3) + (z12 (s18 6) (s18 7))))) (E2 := [(0, .p 0 0), (1, .v (.slice A1 n1 c1)), (4, .v (.slice (some ⟨b, o1, none⟩) 32 c1))]) (by kernel_rfl) tabOk hA19 SS19.mem rfl (by kernel_rfl) (by kernel_rfl) ⟨by kernel_rfl, by kernel_rfl, by kernel_rfl, trivial⟩ (fun c a a' w hd h => hQ c a a' w hd h) ⟨_, SS19.cell 3 (by decide)⟩ (SS19.free 3) (fun a20 hA20 hd20 => ?_)
  show Code.wp _ _ _ _ _
  have SSn : St g T r (zs s19 3 (z12 (s18 6) (s18 7))) _ := SS19.drew.set 3 (by decide) (IntKind.u64.wrap ((s19 3) + (z12 (s18 6) (s18 7))))
  have FWn := FW19.drew.set ⟨g, 3, none⟩ (by simp) (.int .u64 (IntKind.u64.wrap ((s19 3) + (z12 (s18 6) (s18 7)))))
  have BTn := BT19.keep hbg SS19 SSn ((Fr.refl [g] _).drew.set ⟨g, 3, none⟩ (by simp) (.int .u64 (IntKind.u64.wrap ((s19 3) + (z12 (s18 6) (s18 7))))))
  generalize World.setCell _ _ _ = W20 at SSn FWn BTn ⊢
  generalize hs20 : zs s19 3 (z12 (s18 6) (s18 7)) = s20 at SSn
  have SS20 := SSn
  have FW20 := FWn
  have BT20 := BTn
  clear SSn FWn BTn SS19 FW19 BT19 hA19
  replace hd20 := hd20.trans hd19
  clear hd19
  refine wp_seq ?_
  refine wp_seq ?_
  refine reg_seq (N := 643) (β := fun _ => g) (M := fun _ => stM s20) (T := TT) (n := 5) (E2 := [(0, .p 0 0), (1, .v (.slice A1 n1 c1)), (4, .v (.slice (some ⟨b, o1, none⟩) 32 c1)), (13, .v (.int .u64 (s20 0)))]) tabOk hA20 SS20.mem rfl (by kernel_rfl) ⟨by kernel_rfl, by kernel_rfl, by kernel_rfl, by kernel_rfl, trivial⟩ (fun b1 hB1 hd1 => ?_)
  show Code.wp _ _ _ _ _
  replace hd20 := hd1.trans hd20
  clear hA20 hd1
  have hA20 := hB1
  clear hB1
  refine wp_seq ?_
  refine reg_seq (N := 643) (β := fun _ => g) (M := fun _ => stM s20) (T := TT) (n := 5) (E2 := [(0, .p 0 0), (1, .v (.slice A1 n1 c1)), (4, .v (.slice (some ⟨b, o1, none⟩) 32 c1)), (13, .v (.int .u64 (s20 0))), (14, .v (.int .u64 (s20 1)))]) tabOk hA20 SS20.mem rfl (by kernel_rfl) ⟨by kernel_rfl, by kernel_rfl, by kernel_rfl, by kernel_rfl, by kernel_rfl, trivial⟩ (fun b1 hB1 hd1 => ?_)
  show Code.wp _ _ _ _ _
  replace hd20 := hd1.trans hd20
  clear hA20 hd1
  have hA20 := hB1
  clear hB1
  refine wp_seq ?_
  refine reg_seq (N := 643) (β := fun _ => g) (M := fun _ => stM s20) (T := TT) (n := 3) (E2 := [(0, .p 0 0), (1, .v (.slice A1 n1 c1)), (4, .v (.slice (some ⟨b, o1, none⟩) 32 c1)), (13, .v (.int .u64 (s20 0))), (14, .v (.int .u64 (s20 1))), (15, .v (.int .u64 (z1 (s20 0) (s20 1))))]) tabOk hA20 SS20.mem rfl (by kernel_rfl) ⟨by kernel_rfl, by kernel_rfl, by kernel_rfl, by kernel_rfl, by kernel_rfl, by kernel_rfl, trivial⟩ (fun b1 hB1 hd1 => ?_)
  show Code.wp _ _ _ _ _
  replace hd20 := hd1.trans hd20
  clear hA20 hd1
  have hA20 := hB1
  clear hB1
  refine wp_seq ?_
  refine reg_seq (N := 643) (β := fun _ => g) (M := fun _ => stM s20) (T := TT) (n := 6) (E2 := [(0, .p 0 0), (1, .v (.slice A1 n1 c1)), (4, .v (.slice (some ⟨b, o1, none⟩) 32 c1)), (13, .v (.int .u64 (s20 0))), (14, .v (.int .u64 (s20 1))), (15, .v (.int .u64 (z1 (s20 0) (s20 1)))), (16, .v (.int .u64 (z2 (s20 0) (s20 1))))]) tabOk hA20 SS20.mem rfl (by kernel_rfl) ⟨by kernel_rfl, by kernel_rfl, by kernel_rfl, by kernel_rfl, by kernel_rfl, by kernel_rfl, by kernel_rfl, trivial⟩ (fun b1 hB1 hd1 => ?_)
  show Code.wp _ _ _ _ _
  replace hd20 := hd1.trans hd20
  clear hA20 hd1
  have hA20 := hB1
  clear hB1
  refine wp_seq ?_
  refine reg_seq (N := 643) (β := fun _ => g) (M := fun _ => stM s20) (T := TT) (n := 6) (E2 := [(0, .p 0 0), (1, .v (.slice A1 n1 c1)), (4, .v (.slice (some ⟨b, o1, none⟩) 32 c1)), (13, .v (.int .u64 (s20 0))), (14, .v (.int .u64 (s20 1))), (15, .v (.int .u64 (z3 (s20 0) (s20 1)))), (16, .v (.int .u64 (z2 (s20 0) (s20 1))))]) tabOk hA20 SS20.mem rfl (by kernel_rfl) ⟨by kernel_rfl, by kernel_rfl, by kernel_rfl, by kernel_rfl, by kernel_rfl, by kernel_rfl, by kernel_rfl, trivial⟩ (fun b1 hB1 hd1 => ?_)
  show Code.wp _ _ _ _ _
  replace hd20 := hd1.trans hd20
  clear hA20 hd1
  have hA20 := hB1
  clear hB1
  refine wp_seq ?_
  refine reg_seq (N := 643) (β := fun _ => g) (M := fun _ => stM s20) (T := TT) (n := 6) (E2 := [(0, .p 0 0), (1, .v (.slice A1 n1 c1)), (4, .v (.slice (some ⟨b, o1, none⟩) 32 c1)), (13, .v (.int .u64 (s20 0))), (14, .v (.int .u64 (s20 1))), (15, .v (.int .u64 (z3 (s20 0) (s20 1)))), (16, .v (.int .u64 (z4 (s20 0) (s20 1))))]) tabOk hA20 SS20.mem rfl (by kernel_rfl) ⟨by kernel_rfl, by kernel_rfl, by kernel_rfl, by kernel_rfl, by kernel_rfl, by kernel_rfl, by kernel_rfl, trivial⟩ (fun b1 hB1 hd1 => ?_)
  show Code.wp _ _ _ _ _
  replace hd20 := hd1.trans hd20
  clear hA20 hd1
  have hA20 := hB1
  clear hB1
  refine wp_seq ?_
  refine reg_seq (N := 643) (β := fun _ => g) (M := fun _ => stM s20) (T := TT) (n := 9) (E2 := [(0, .p 0 0), (1, .v (.slice A1 n1 c1)), (4, .v (.slice (some ⟨b, o1, none⟩) 32 c1)), (13, .v (.int .u64 (s20 0))), (14, .v (.int .u64 (s20 1))), (15, .v (.int .u64 (z5 (s20 0) (s20 1)))), (16, .v (.int .u64 (z4 (s20 0) (s20 1))))]) tabOk hA20 SS20.mem rfl (by kernel_rfl) ⟨by kernel_rfl, by kernel_rfl, by kernel_rfl, by kernel_rfl, by kernel_rfl, by kernel_rfl, by kernel_rfl, trivial⟩ (fun b1 hB1 hd1 => ?_)
  show Code.wp _ _ _ _ _
  replace hd20 := hd1.trans hd20
  clear hA20 hd1
  have hA20 := hB1
  clear hB1
  refine wp_seq ?_
  refine reg_seq (N := 643) (β := fun _ => g) (M := fun _ => stM s20) (T := TT) (n := 6) (E2 := [(0, .p 0 0), (1, .v (.slice A1 n1 c1)), (4, .v (.slice (some ⟨b, o1, none⟩) 32 c1)), (13, .v (.int .u64 (s20 0))), (14, .v (.int .u64 (s20 1))), (15, .v (.int .u64 (z5 (s20 0) (s20 1)))), (16, .v (.int .u64 (z6 (s20 0) (s20 1))))]) tabOk hA20 SS20.mem rfl (by kernel_rfl) ⟨by kernel_rfl, by kernel_rfl, by kernel_rfl, by kernel_rfl, by kernel_rfl, by kernel_rfl, by kernel_rfl, trivial⟩ (fun b1 hB1 hd1 => ?_)
  show Code.wp _ _ _ _ _
  replace hd20 := hd1.trans hd20
  clear hA20 hd1
  have hA20 := hB1
  clear hB1
  refine wp_seq ?_
  refine reg_seq (N := 643) (β := fun _ => g) (M := fun _ => stM s20) (T := TT) (n := 9) (E2 := [(0, .p 0 0), (1, .v (.slice A1 n1 c1)), (4, .v (.slice (some ⟨b, o1, none⟩) 32 c1)), (13, .v (.int .u64 (s20 0))), (14, .v (.int .u64 (s20 1))), (15, .v (.int .u64 (z7 (s20 0) (s20 1)))), (16, .v (.int .u64 (z6 (s20 0) (s20 1))))]) tabOk hA20 SS20.mem rfl (by kernel_rfl) ⟨by kernel_rfl, by kernel_rfl, by kernel_rfl, by kernel_rfl, by kernel_rfl, by kernel_rfl, by kernel_rfl, trivial⟩ (fun b1 hB1 hd1 => ?_)
  show Code.wp _ _ _ _ _
  replace hd20 := hd1.trans hd20
  clear hA20 hd1
  have hA20 := hB1
  clear hB1
  refine wp_seq ?_
  refine reg_seq (N := 643) (β := fun _ => g) (M := fun _ => stM s20) (T := TT) (n := 9) (E2 := [(0, .p 0 0), (1, .v (.slice A1 n1 c1)), (4, .v (.slice (some ⟨b, o1, none⟩) 32 c1)), (13, .v (.int .u64 (s20 0))), (14, .v (.int .u64 (s20 1))), (15, .v (.int .u64 (z7 (s20 0) (s20 1)))), (16, .v (.int .u64 (z8 (s20 0) (s20 1))))]) tabOk hA20 SS20.mem rfl (by kernel_rfl) ⟨by kernel_rfl, by kernel_rfl, by kernel_rfl, by kernel_rfl, by kernel_rfl, by kernel_rfl, by kernel_rfl, trivial⟩ (fun b1 hB1 hd1 => ?_)
  show Code.wp _ _ _ _ _
  replace hd20 := hd1.trans hd20
  clear hA20 hd1
  have hA20 := hB1
  clear hB1
  refine wp_seq ?_
  refine reg_seq (N := 643) (β := fun _ => g) (M := fun _ => stM s20) (T := TT) (n := 6) (E2 := [(0, .p 0 0), (1, .v (.slice A1 n1 c1)), (4, .v (.slice (some ⟨b, o1, none⟩) 32 c1)), (13, .v (.int .u64 (s20 0))), (14, .v (.int .u64 (s20 1))), (15, .v (.int .u64 (z9 (s20 0) (s20 1)))), (16, .v (.int .u64 (z8 (s20 0) (s20 1))))]) tabOk hA20 SS20.mem rfl (by kernel_rfl) ⟨by kernel_rfl, by kernel_rfl, by kernel_rfl, by kernel_rfl, by kernel_rfl, by kernel_rfl, by kernel_rfl, trivial⟩ (fun b1 hB1 hd1 => ?_)
  show Code.wp _ _ _ _ _
  replace hd20 := hd1.trans hd20
  clear hA20 hd1
  have hA20 := hB1
  clear hB1
  refine wp_seq ?_
  refine reg_seq (N := 643) (β := fun _ => g) (M := fun _ => stM s20) (T := TT) (n := 6) (E2 := [(0, .p 0 0), (1, .v (.slice A1 n1 c1)), (4, .v (.slice (some ⟨b, o1, none⟩) 32 c1)), (13, .v (.int .u64 (s20 0))), (14, .v (.int .u64 (s20 1))), (15, .v (.int .u64 (z9 (s20 0) (s20 1)))), (16, .v (.int .u64 (z10 (s20 0) (s20 1))))]) tabOk hA20 SS20.mem rfl (by kernel_rfl) ⟨by kernel_rfl, by kernel_rfl, by kernel_rfl, by kernel_rfl, by kernel_rfl, by kernel_rfl, by kernel_rfl, trivial⟩ (fun b1 hB1 hd1 => ?_)
  show Code.wp _ _ _ _ _
  replace hd20 := hd1.trans hd20
  clear hA20 hd1
  have hA20 := hB1
  clear hB1
  refine wp_seq ?_
  refine reg_seq (N := 643) (β := fun _ => g) (M := fun _ => stM s20) (T := TT) (n := 5) (E2 := [(0, .p 0 0), (1, .v (.slice A1 n1 c1)), (4, .v (.slice (some ⟨b, o1, none⟩) 32 c1)), (13, .v (.int .u64 (s20 0))), (14, .v (.int .u64 (s20 1))), (15, .v (.int .u64 (z11 (s20 0) (s20 1)))), (16, .v (.int .u64 (z10 (s20 0) (s20 1))))]) tabOk hA20 SS20.mem rfl (by kernel_rfl) ⟨by kernel_rfl, by kernel_rfl, by kernel_rfl, by kernel_rfl, by kernel_rfl, by kernel_rfl, by kernel_rfl, trivial⟩ (fun b1 hB1 hd1 => ?_)
  show Code.wp _ _ _ _ _
  replace hd20 := hd1.trans hd20
  clear hA20 hd1
  have hA20 := hB1
  clear hB1
  refine wp_seq ?_
  refine reg_seq (N := 643) (β := fun _ => g) (M := fun _ => stM s20) (T := TT) (n := 6) (E2 := [(0, .p 0 0), (1, .v (.slice A1 n1 c1)), (4, .v (.slice (some ⟨b, o1, none⟩) 32 c1)), (13, .v (.int .u64 (s20 0))), (14, .v (.int .u64 (s20 1))), (15, .v (.int .u64 (z11 (s20 0) (s20 1)))), (16, .v (.int .u64 (z12 (s20 0) (s20 1))))]) tabOk hA20 SS20.mem rfl (by kernel_rfl) ⟨by kernel_rfl, by kernel_rfl, by kernel_rfl, by kernel_rfl, by kernel_rfl, by kernel_rfl, by kernel_rfl, trivial⟩ (fun b1 hB1 hd1 => ?_)
  show Code.wp _ _ _ _ _
  replace hd20 := hd1.trans hd20
  clear hA20 hd1
  have hA20 := hB1
  clear hB1
  refine wp_seq ?_
  refine reg_store (N := 643) (β := fun _ => g) (M := fun _ => stM s20) (T := TT) (n := 8) (k := 0) (i := 4) (u := .int .u64 (IntKind.u64.wrap ((s20 4) + (z11 (s20 0) (s20 1))))) (E2 := [(0, .p 0 0), (1, .v (.slice A1 n1 c1)), (4, .v (.slice (some ⟨b, o1, none⟩) 32 c1)), (16, .v (.int .u64 (z12 (s20 0) (s20 1))))]) (by kernel_rfl) tabOk hA20 SS20.mem rfl (by kernel_rfl) (by kernel_rfl) ⟨by kernel_rfl, by kernel_rfl, by kernel_rfl, by kernel_rfl, trivial⟩ (fun c a a' w hd h => hQ c a a' w hd h) ⟨_, SS20.cell 4 (by decide)⟩ (SS20.free 4) (fun a21 hA21 hd21 => ?_)
  show Code.wp _ _ _ _ _
  have SSn : St g T r (zs s20 4 (z11 (s20 0) (s20 1))) _ := SS20.drew.set 4 (by decide) (IntKind.u64.wrap ((s20 4) + (z11 (s20 0) (s20 1))))
  have FWn := FW20.drew.set ⟨g, 4, none⟩ (by simp) (.int .u64 (IntKind.u64.wrap ((s20 4) + (z11 (s20 0) (s20 1)))))
  have BTn := BT20.keep hbg SS20 SSn ((Fr.refl [g] _).drew.set ⟨g, 4, none⟩ (by simp) (.int .u64 (IntKind.u64.wrap ((s20 4) + (z11 (s20 0) (s20 1))))))
  generalize World.setCell _ _ _ = W21 at SSn FWn BTn ⊢
  generalize hs21 : zs s20 4 (z11 (s20 0) (s20 1)) = s21 at SSn
  have SS21 := SSn
  have FW21 := FWn
  have BT21 := BTn
  clear SSn FWn BTn SS20 FW20 BT20 hA20
  replace hd21 := hd21.trans hd20
  clear hd20
  refine reg_store (N := 643) (β := fun _ => g) (M := fun _ => stM s21) (T := TT) (n := 8) (k := 0) (i := 5) (u := .int .u64 (IntKind.u64.wrap ((s21 5) + (z12 (s20 0) (s20 1))))) (E2 := [(0, .p 0 0), (1, .v (.slice A1 n1 c1)), (4, .v (.slice (some ⟨b, o1, none⟩) 32 c1))]) (by kernel_rfl) tabOk hA21 SS21.mem rfl (by kernel_rfl) (by kernel_rfl) ⟨by kernel_rfl, by kernel_rfl, by kernel_rfl, trivial⟩ (fun c a a' w hd h => hQ c a a' w hd h) ⟨_, SS21.cell 5 (by decide)⟩ (SS21.free 5) (fun a22 hA22 hd22 => ?_)
  show Code.wp _ _ _ _ _
  have SSn : St g T r (zs s21 5 (z12 (s20 0) (s20 1))) _ := SS21.drew.set 5 (by decide) (IntKind.u64.wrap ((s21 5) + (z12 (s20 0) (s20 1))))
  have FWn := FW21.drew.set ⟨g, 5, none⟩ (by simp) (.int .u64 (IntKind.u64.wrap ((s21 5) + (z12 (s20 0) (s20 1)))))
  have BTn := BT21.keep hbg SS21 SSn ((Fr.refl [g] _).drew.set ⟨g, 5, none⟩ (by simp) (.int .u64 (IntKind.u64.wrap ((s21 5) + (z12 (s20 0) (s20 1))))))
  generalize World.setCell _ _ _ = W22 at SSn FWn BTn ⊢
  generalize hs22 : zs s21 5 (z12 (s20 0) (s20 1)) = s22 at SSn
  have SS22 := SSn
  have FW22 := FWn
  have BT22 := BTn
  clear SSn FWn BTn SS21 FW21 BT21 hA21
  replace hd22 := hd22.trans hd21
  clear hd21
  refine wp_seq ?_
  refine wp_seq ?_
  refine reg_seq (N := 643) (β := fun _ => g) (M := fun _ => stM s22) (T := TT) (n := 5) (E2 := [(0, .p 0 0), (1, .v (.slice A1 n1 c1)), (4, .v (.slice (some ⟨b, o1, none⟩) 32 c1)), (17, .v (.int .u64 (s22 2)))]) tabOk hA22 SS22.mem rfl (by kernel_rfl) ⟨by kernel_rfl, by kernel_rfl, by kernel_rfl, by kernel_rfl, trivial⟩ (fun b1 hB1 hd1 => ?_)
  show Code.wp _ _ _ _ _
  replace hd22 := hd1.trans hd22
  clear hA22 hd1
  have hA22 := hB1
  clear hB1
  refine wp_seq ?_
  refine reg_seq (N := 643) (β := fun _ => g) (M := fun _ => stM s22) (T := TT) (n := 5) (E2 := [(0, .p 0 0), (1, .v (.slice A1 n1 c1)), (4, .v (.slice (some ⟨b, o1, none⟩) 32 c1)), (17, .v (.int .u64 (s22 2))), (18, .v (.int .u64 (s22 3)))]) tabOk hA22 SS22.mem rfl (by kernel_rfl) ⟨by kernel_rfl, by kernel_rfl, by kernel_rfl, by kernel_rfl, by kernel_rfl, trivial⟩ (fun b1 hB1 hd1 => ?_)
  show Code.wp _ _ _ _ _
  replace hd22 := hd1.trans hd22
  clear hA22 hd1
  have hA22 := hB1
  clear hB1
  refine wp_seq ?_
  refine reg_seq (N := 643) (β := fun _ => g) (M := fun _ => stM s22) (T := TT) (n := 3) (E2 := [(0, .p 0 0), (1, .v (.slice A1 n1 c1)), (4, .v (.slice (some ⟨b, o1, none⟩) 32 c1)), (17, .v (.int .u64 (s22 2))), (18, .v (.int .u64 (s22 3))), (19, .v (.int .u64 (z1 (s22 2) (s22 3))))]) tabOk hA22 SS22.mem rfl (by kernel_rfl) ⟨by kernel_rfl, by kernel_rfl, by kernel_rfl, by kernel_rfl, by kernel_rfl, by kernel_rfl, trivial⟩ (fun b1 hB1 hd1 => ?_)
  show Code.wp _ _ _ _ _
  replace hd22 := hd1.trans hd22
  clear hA22 hd1
  have hA22 := hB1
  clear hB1
  refine wp_seq ?_
  refine reg_seq (N := 643) (β := fun _ => g) (M := fun _ => stM s22) (T := TT) (n := 6) (E2 := [(0, .p 0 0), (1, .v (.slice A1 n1 c1)), (4, .v (.slice (some ⟨b, o1, none⟩) 32 c1)), (17, .v (.int .u64 (s22 2))), (18, .v (.int .u64 (s22 3))), (19, .v (.int .u64 (z1 (s22 2) (s22 3)))), (20, .v (.int .u64 (z2 (s22 2) (s22 3))))]) tabOk hA22 SS22.mem rfl (by kernel_rfl) ⟨by kernel_rfl, by kernel_rfl, by kernel_rfl, by kernel_rfl, by kernel_rfl, by kernel_rfl, by kernel_rfl, trivial⟩ (fun b1 hB1 hd1 => ?_)
  show Code.wp _ _ _ _ _
  replace hd22 := hd1.trans hd22
  clear hA22 hd1
  have hA22 := hB1
  clear hB1
  refine wp_seq ?_
  refine reg_seq (N := 643) (β := fun _ => g) (M := fun _ => stM s22) (T := TT) (n := 6) (E2 := [(0, .p 0 0), (1, .v (.slice A1 n1 c1)), (4, .v (.slice (some ⟨b, o1, none⟩) 32 c1)), (17, .v (.int .u64 (s22 2))), (18, .v (.int .u64 (s22 3))), (19, .v (.int .u64 (z3 (s22 2) (s22 3)))), (20, .v (.int .u64 (z2 (s22 2) (s22 3))))]) tabOk hA22 SS22.mem rfl (by kernel_rfl) ⟨by kernel_rfl, by kernel_rfl, by kernel_rfl, by kernel_rfl, by kernel_rfl, by kernel_rfl, by kernel_rfl, trivial⟩ (fun b1 hB1 hd1 => ?_)
  show Code.wp _ _ _ _ _
  replace hd22 := hd1.trans hd22
  clear hA22 hd1
  have hA22 := hB1
  clear hB1
  refine wp_seq ?_
  refine reg_seq (N := 643) (β := fun _ => g) (M := fun _ => stM s22) (T := TT) (n := 6) (E2 := [(0, .p 0 0), (1, .v (.slice A1 n1 c1)), (4, .v (.slice (some ⟨b, o1, none⟩) 32 c1)), (17, .v (.int .u64 (s22 2))), (18, .v (.int .u64 (s22 3))), (19, .v (.int .u64 (z3 (s22 2) (s22 3)))), (20, .v (.int .u64 (z4 (s22 2) (s22 3))))]) tabOk hA22 SS22.mem rfl (by kernel_rfl) ⟨by kernel_rfl, by kernel_rfl, by kernel_rfl, by kernel_rfl, by kernel_rfl, by kernel_rfl, by kernel_rfl, trivial⟩ (fun b1 hB1 hd1 => ?_)
  show Code.wp _ _ _ _ _
  replace hd22 := hd1.trans hd22
  clear hA22 hd1
  have hA22 := hB1
  clear hB1
  refine wp_seq ?_
  refine reg_seq (N := 643) (β := fun _ => g) (M := fun _ => stM s22) (T := TT) (n := 9) (E2 := [(0, .p 0 0), (1, .v (.slice A1 n1 c1)), (4, .v (.slice (some ⟨b, o1, none⟩) 32 c1)), (17, .v (.int .u64 (s22 2))), (18, .v (.int .u64 (s22 3))), (19, .v (.int .u64 (z5 (s22 2) (s22 3)))), (20, .v (.int .u64 (z4 (s22 2) (s22 3))))]) tabOk hA22 SS22.mem rfl (by kernel_rfl) ⟨by kernel_rfl, by kernel_rfl, by kernel_rfl, by kernel_rfl, by kernel_rfl, by kernel_rfl, by kernel_rfl, trivial⟩ (fun b1 hB1 hd1 => ?_)
  show Code.wp _ _ _ _ _
  replace hd22 := hd1.trans hd22
  clear hA22 hd1
  have hA22 := hB1
  clear hB1
  refine wp_seq ?_
  refine reg_seq (N := 643) (β := fun _ => g) (M := fun _ => stM s22) (T := TT) (n := 6) (E2 := [(0, .p 0 0), (1, .v (.slice A1 n1 c1)), (4, .v (.slice (some ⟨b, o1, none⟩) 32 c1)), (17, .v (.int .u64 (s22 2))), (18, .v (.int .u64 (s22 3))), (19, .v (.int .u64 (z5 (s22 2) (s22 3)))), (20, .v (.int .u64 (z6 (s22 2) (s22 3))))]) tabOk hA22 SS22.mem rfl (by kernel_rfl) ⟨by kernel_rfl, by kernel_rfl, by kernel_rfl, by kernel_rfl, by kernel_rfl, by kernel_rfl, by kernel_rfl, trivial⟩ (fun b1 hB1 hd1 => ?_)
  show Code.wp _ _ _ _ _
  replace hd22 := hd1.trans hd22
  clear hA22 hd1
  have hA22 := hB1
  clear hB1
  refine wp_seq ?_
  refine reg_seq (N := 643) (β := fun _ => g) (M := fun _ => stM s22) (T := TT) (n := 9) (E2 := [(0, .p 0 0), (1, .v (.slice A1 n1 c1)), (4, .v (.slice (some ⟨b, o1, none⟩) 32 c1)), (17, .v (.int .u64 (s22 2))), (18, .v (.int .u64 (s22 3))), (19, .v (.int .u64 (z7 (s22 2) (s22 3)))), (20, .v (.int .u64 (z6 (s22 2) (s22 3))))]) tabOk hA22 SS22.mem rfl (by kernel_rfl) ⟨by kernel_rfl, by kernel_rfl, by kernel_rfl, by kernel_rfl, by kernel_rfl, by kernel_rfl, by kernel_rfl, trivial⟩ (fun b1 hB1 hd1 => ?_)
  show Code.wp _ _ _ _ _
  replace hd22 := hd1.trans hd22
  clear hA22 hd1
  have hA22 := hB1
  clear hB1
  refine wp_seq ?_
  refine reg_seq (N := 643) (β := fun _ => g) (M := fun _ => stM s22) (T := TT) (n := 9) (E2 := [(0, .p 0 0), (1, .v (.slice A1 n1 c1)), (4, .v (.slice (some ⟨b, o1, none⟩) 32 c1)), (17, .v (.int .u64 (s22 2))), (18, .v (.int .u64 (s22 3))), (19, .v (.int .u64 (z7 (s22 2) (s22 3)))), (20, .v (.int .u64 (z8 (s22 2) (s22 3))))]) tabOk hA22 SS22.mem rfl (by kernel_rfl) ⟨by kernel_rfl, by kernel_rfl, by kernel_rfl, by kernel_rfl, by kernel_rfl, by kernel_rfl, by kernel_rfl, trivial⟩ (fun b1 hB1 hd1 => ?_)
  show Code.wp _ _ _ _ _
  replace hd22 := hd1.trans hd22
  clear hA22 hd1
  have hA22 := hB1
  clear hB1
  refine wp_seq ?_
  refine reg_seq (N := 643) (β := fun _ => g) (M := fun _ => stM s22) (T := TT) (n := 6) (E2 := [(0, .p 0 0), (1, .v (.slice A1 n1 c1)), (4, .v (.slice (some ⟨b, o1, none⟩) 32 c1)), (17, .v (.int .u64 (s22 2))), (18, .v (.int .u64 (s22 3))), (19, .v (.int .u64 (z9 (s22 2) (s22 3)))), (20, .v (.int .u64 (z8 (s22 2) (s22 3))))]) tabOk hA22 SS22.mem rfl (by kernel_rfl) ⟨by kernel_rfl, by kernel_rfl, by kernel_rfl, by kernel_rfl, by kernel_rfl, by kernel_rfl, by kernel_rfl, trivial⟩ (fun b1 hB1 hd1 => ?_)
  show Code.wp _ _ _ _ _
  replace hd22 := hd1.trans hd22
  clear hA22 hd1
  have hA22 := hB1
  clear hB1
  refine wp_seq ?_
  refine reg_seq (N := 643) (β := fun _ => g) (M := fun _ => stM s22) (T := TT) (n := 6) (E2 := [(0, .p 0 0), (1, .v (.slice A1 n1 c1)), (4, .v (.slice (some ⟨b, o1, none⟩) 32 c1)), (17, .v (.int .u64 (s22 2))), (18, .v (.int .u64 (s22 3))), (19, .v (.int .u64 (z9 (s22 2) (s22 3)))), (20, .v (.int .u64 (z10 (s22 2) (s22 3))))]) tabOk hA22 SS22.mem rfl (by kernel_rfl) ⟨by kernel_rfl, by kernel_rfl, by kernel_rfl, by kernel_rfl, by kernel_rfl, by kernel_rfl, by kernel_rfl, trivial⟩ (fun b1 hB1 hd1 => ?_)
  show Code.wp _ _ _ _ _
  replace hd22 := hd1.trans hd22
  clear hA22 hd1
  have hA22 := hB1
  clear hB1
  refine wp_seq ?_
  refine reg_seq (N := 643) (β := fun _ => g) (M := fun _ => stM s22) (T := TT) (n := 5) (E2 := [(0, .p 0 0), (1, .v (.slice A1 n1 c1)), (4, .v (.slice (some ⟨b, o1, none⟩) 32 c1)), (17, .v (.int .u64 (s22 2))), (18, .v (.int .u64 (s22 3))), (19, .v (.int .u64 (z11 (s22 2) (s22 3)))), (20, .v (.int .u64 (z10 (s22 2) (s22 3))))]) tabOk hA22 SS22.mem rfl (by kernel_rfl) ⟨by kernel_rfl, by kernel_rfl, by kernel_rfl, by kernel_rfl, by kernel_rfl, by kernel_rfl, by kernel_rfl, trivial⟩ (fun b1 hB1 hd1 => ?_)
  show Code.wp _ _ _ _ _
  replace hd22 := hd1.trans hd22
  clear hA22 hd1
  have hA22 := hB1
  clear hB1
  refine wp_seq ?_
  refine reg_seq (N := 643) (β := fun _ => g) (M := fun _ => stM s22) (T := TT) (n := 6) (E2 := [(0, .p 0 0), (1, .v (.slice A1 n1 c1)), (4, .v (.slice (some ⟨b, o1, none⟩) 32 c1)), (17, .v (.int .u64 (s22 2))), (18, .v (.int .u64 (s22 3))), (19, .v (.int .u64 (z11 (s22 2) (s22 3)))), (20, .v (.int .u64 (z12 (s22 2) (s22 3))))]) tabOk hA22 SS22.mem rfl (by kernel_rfl) ⟨by kernel_rfl, by kernel_rfl, by kernel_rfl, by kernel_rfl, by kernel_rfl, by kernel_rfl, by kernel_rfl, trivial⟩ (fun b1 hB1 hd1 => ?_)
  show Code.wp _ _ _ _ _
  replace hd22 := hd1.trans hd22
  clear hA22 hd1
  have hA22 := hB1
  clear hB1
  refine wp_seq ?_
  refine reg_store (N := 643) (β := fun _ => g) (M := fun _ => stM s22) (T := TT) (n := 8) (k := 0) (i := 6) (u := .int .u64 (IntKind.u64.wrap ((s22 6) + (z11 (s22 2) (s22 3))))) (E2 := [(0, .p 0 0), (1, .v (.slice A1 n1 c1)), (4, .v (.slice (some ⟨b, o1, none⟩) 32 c1)), (20, .v (.int .u64 (z12 (s22 2) (s22 3))))]) (by kernel_rfl) tabOk hA22 SS22.mem rfl (by kernel_rfl) (by kernel_rfl) ⟨by kernel_rfl, by kernel_rfl, by kernel_rfl, by kernel_rfl, trivial⟩ (fun c a a' w hd h => hQ c a a' w hd h) ⟨_, SS22.cell 6 (by decide)⟩ (SS22.free 6) (fun a23 hA23 hd23 => ?_)
  show Code.wp _ _ _ _ _
  have SSn : St g T r (zs s22 6 (z11 (s22 2) (s22 3))) _ := SS22.drew.set 6 (by decide) (IntKind.u64.wrap ((s22 6) + (z11 (s22 2) (s22 3))))
  have FWn := FW22.drew.set ⟨g, 6, none⟩ (by simp) (.int .u64 (IntKind.u64.wrap ((s22 6) + (z11 (s22 2) (s22 3)))))
  have BTn := BT22.keep hbg SS22 SSn ((Fr.refl [g] _).drew.set ⟨g, 6, none⟩ (by simp) (.int .u64 (IntKind.u64.wrap ((s22 6) + (z11 (s22 2) (s22 3))))))
  generalize World.setCell _ _ _ = W23 at SSn FWn BTn ⊢
  generalize hs23 : zs s22 6 (z11 (s22 2) (s22 3)) = s23 at SSn
  have SS23 := SSn
  have FW23 := FWn
  have BT23 := BTn
  clear SSn FWn BTn SS22 FW22 BT22 hA22
  replace hd23 := hd23.trans hd22
  clear hd22
  refine reg_store (N := 643) (β := fun _ => g) (M := fun _ => stM s23) (T := TT) (n := 8) (k := 0) (i := 7) (u := .int .u64 (IntKind.u64.wrap ((s23 7) + (z12 (s22 2) (s22 3))))) (E2 := [(0, .p 0 0), (1, .v (.slice A1 n1 c1)), (4, .v (.slice (some ⟨b, o1, none⟩) 32 c1))]) (by kernel_rfl) tabOk hA23 SS23.mem rfl (by kernel_rfl) (by kernel_rfl) ⟨by kernel_rfl, by kernel_rfl, by kernel_rfl, trivial⟩ (fun c a a' w hd h => hQ c a a' w hd h) ⟨_, SS23.cell 7 (by decide)⟩ (SS23.free 7) (fun a24 hA24 hd24 => ?_)
  show Code.wp _ _ _ _ _
  have SSn : St g T r (zs s23 7 (z12 (s22 2) (s22 3))) _ := SS23.drew.set 7 (by decide) (IntKind.u64.wrap ((s23 7) + (z12 (s22 2) (s22 3))))
  have FWn := FW23.drew.set ⟨g, 7, none⟩ (by simp) (.int .u64 (IntKind.u64.wrap ((s23 7) + (z12 (s22 2) (s22 3)))))
  have BTn := BT23.keep hbg SS23 SSn ((Fr.refl [g] _).drew.set ⟨g, 7, none⟩ (by simp) (.int .u64 (IntKind.u64.wrap ((s23 7) + (z12 (s22 2) (s22 3))))))
  generalize World.setCell _ _ _ = W24 at SSn FWn BTn ⊢
  generalize hs24 : zs s23 7 (z12 (s22 2) (s22 3)) = s24 at SSn
  have SS24 := SSn
  have FW24 := FWn
  have BT24 := BTn
  clear SSn FWn BTn SS23 FW23 BT23 hA23
  replace hd24 := hd24.trans hd23
  clear hd23
  -- msg = msg[32:]
  have hU : s24 = U s0 y := by
    subst hs1
    subst hs2
    subst hs3
    subst hs4
    subst hs5
    subst hs6
    subst hs7
    subst hs8
    subst hs9
    subst hs10
    subst hs11
    subst hs12
    subst hs13
    subst hs14
    subst hs15
    subst hs16
    subst hs17
    subst hs18
    subst hs19
    subst hs20
    subst hs21
    subst hs22
    subst hs23
    subst hs24
    rfl
  refine wp_region ?_
  refine ops_ (N := 643) (β := fun _ => g) (M := fun _ => stM s24) (T := TT) (E' := [(641, .v (.slice A1 n1 c1)), (0, .p 0 0), (1, .v (.slice A1 n1 c1)), (4, .v (.slice (some ⟨b, o1, none⟩) 32 c1))]) tabOk SS24.mem [1, 2] [0] (by kernel_rfl) hA24 (fun b2 hB2 hd2 => ?_)
  obtain ⟨A', hs, hA'⟩ := sl_from W24 b o1 n1 c1 32 hn hc
  refine given_ops (N := 643) (β := fun _ => g) (i := 1) (v := .slice A' (n1 - 32) (c1 - 32)) (l := [2]) rfl rfl rfl (by decide) hB2 (op_slice rfl ?_) (fun b3 hB3 hd3 => ?_)
  · show (Instr.sliceAt _ (b2.eval (.tmp 641)) (some (.int .i64 ((32 : Nat) : Int))) none none).run _ _ = _
    rw [hB2.2 641 _ rfl, hA1]
    exact hs
  refine ops_ (N := 643) (β := fun _ => g) (M := fun _ => stM s24) (T := TT) (E' := [(1, .v (.slice A' (n1 - 32) (c1 - 32))), (642, .v (.slice A' (n1 - 32) (c1 - 32))), (641, .v (.slice A1 n1 c1)), (0, .p 0 0), (1, .v (.slice A1 n1 c1)), (4, .v (.slice (some ⟨b, o1, none⟩) 32 c1))]) tabOk SS24.mem [] [2] (by kernel_rfl) hB3 (fun b4 hB4 hd4 => ?_)
  rw [hU] at SS24
  exact hK b4 W24 A' (sub_ok hB4 ⟨by kernel_rfl, by kernel_rfl, trivial⟩) hA' (hd4.trans (hd3.trans (hd2.trans hd24))) SS24 FW24
end Go.Proofs.YtnehminojlocoaaDoor.PAll
namespace Go.Proofs.YtnehminojlocoaaDoor.PAll
open Go.RowKit Go.Proofs.YtnehminojlocoaaDoorW.PrintWords Go.Proofs.YtnehminojlocoaaDoorW.PrintLast Go.Proofs.YtnehminojlocoaaDoorW.PrintMore
set_option linter.unusedVariables false
set_option linter.unusedSimpArgs false
/-- k times 32 octets. -/
def updN : Nat → (Nat → Int) → (Nat → Int) → Nat → Int
  | 0, s, _ => s
  | k + 1, s, x => U (updN k s x) (fun i => x (k * 32 + i))
def lenOf : Value → Nat
  | .slice _ n _ => n
  | _ => 0
theorem has_sub {N : Nat} {β : Nat → Nat} {E : List (Nat × SV)} {a : Act} (h : Has N β E a) {t : Nat} {v : Value} (ht : look E t = some (.v v)) : a.eval (.tmp t) = v := h.2 t _ ht
set_option maxHeartbeats 4000000 in
set_option maxRecDepth 100000 in
theorem upd_walk (g : Nat) (T : TypeId) (r : Nat → Option Value) (s : Nat → Int) (b o n c : Nat) (x : Nat → Int) (w : World) (hs : St g T r s w) (hbg : b ≠ g ∨ 16 ≤ o) (hc : n ≤ c) (hx : Bts b o (n / 32 * 32) x w) :
    Calls Tryd.prog 47 #[.pointer (some ⟨g, 0, none⟩), .slice (some ⟨b, o, none⟩) n c] w fun e w' => e = .returned (.tuple #[]) ∧ St g T r (updN (n / 32) s x) w' ∧ Fr [g] w w' := by
  refine calls_of_wp (c := Code.block 0 (Code.loop updLoop)) Tryd.func47 rfl ?_
  have h0 := has_two (β := fun _ => g) (.p 0 0) (.v (.slice (some ⟨b, o, none⟩) n c)) 641
  refine wp_block ?_
  refine wp_loop (fun a wr => ∃ q A, q * 32 ≤ n ∧ (q * 32 < c → A = some ⟨b, o + q * 32, none⟩) ∧ Has 643 (fun _ => g) [(0, .p 0 0), (1, .v (.slice A (n - q * 32) (c - q * 32)))] a ∧ a.defers = [] ∧ St g T r (updN q s x) wr ∧ Fr [g] w wr) (fun a _ => lenOf (a.eval (.tmp 1))) ?_ ?_
  · exact ⟨0, some ⟨b, o, none⟩, by omega, fun _ => by simp, h0, rfl, hs, Fr.refl _ _⟩
  · rintro a wr ⟨q, A, hq, hA, hH, hd, hS, hF⟩
    by_cases h32 : 32 ≤ n - q * 32
    · have hA' : A = some ⟨b, o + q * 32, none⟩ := hA (by omega)
      have hB : Bts b (o + q * 32) 32 (fun i => x (q * 32 + i)) wr := (hx.keep hbg hs hS hF).from (q * 32) 32 (by omega)
      refine upd_round g T r (updN q s x) b (o + q * 32) (n - q * 32) (c - q * 32) A hA' (fun i => x (q * 32 + i)) w wr a _ _ (hbg.imp id (fun h => by omega)) h32 (by omega) hS hB hF hH (fun _ _ _ _ hd h => ⟨hd.trans h.1, h.2⟩) (fun a' W' A' h1 h2 h3 h4 h5 => ?_)
      refine ⟨⟨q + 1, A', by omega, fun h => ?_, ?_, h3.trans hd, h4, h5⟩, ?_⟩
      · rw [h2 (by omega)]
        congr 2
        omega
      · rw [show n - (q + 1) * 32 = n - q * 32 - 32 by omega, show c - (q + 1) * 32 = c - q * 32 - 32 by omega]
        exact h1
      · rw [has_sub h1 (t := 1) rfl, has_sub hH (t := 1) rfl]
        show n - q * 32 - 32 < n - q * 32
        omega
    · have hqn : n / 32 = q := by omega
      refine wp_seq ?_
      refine wp_seq ?_
      refine reg_seq (N := 643) (β := fun _ => g) (M := fun _ => stM (updN q s x)) (T := TT) (n := 3) (E2 := [(23, .v (.bool (decide (((n - q * 32 : Nat) : Int) ≥ 32))))]) tabOk hH hS.mem rfl (by kernel_rfl) ⟨by kernel_rfl, trivial⟩ (fun a1 hB1 hd1 => ?_)
      show Code.wp _ _ _ _ _
      have ht : a1.eval (.tmp 23) = .bool false := (hB1.2 23 _ rfl).trans (congrArg Value.bool (decide_eq_false (by omega)))
      refine wp_cond_false ht (wp_exit ?_)
      refine then_exit (then_exit (exit_in ?_))
      refine ⟨hd1.trans hd, _, results_none rfl _ _ _, rfl, ?_, hF⟩
      rw [hqn]
      exact hS
set_option maxHeartbeats 4000000 in
theorem update_walk (g : Nat) (T : TypeId) (r : Nat → Option Value) (s : Nat → Int) (b o n c : Nat) (x : Nat → Int) (w : World) (hs : St g T r s w) (hbg : b ≠ g ∨ 16 ≤ o) (hc : n ≤ c) (hx : Bts b o (n / 32 * 32) x w) :
    Calls Tryd.prog 40 #[.pointer (some ⟨g, 0, none⟩), .slice (some ⟨b, o, none⟩) n c] w fun e w' => e = .returned (.tuple #[]) ∧ St g T r (updN (n / 32) s x) w' ∧ Fr [g] w w' := by
  go_enter Tryd.func40, Tryd.ntmps40
  go_wp2_with fail
  refine (upd_walk g T r s b o n c x w hs hbg hc hx).mono ?_
  rintro e w1 ⟨rfl, h⟩
  have E1 := Lib.hid h
  clear h hs hx
  go_wp2_with fail
  refine bodyPost_end (results_none rfl _ _ _) rfl ?_
  exact ⟨rfl, E1.out⟩
end Go.Proofs.YtnehminojlocoaaDoor.PAll
namespace Go.Proofs.YtnehminojlocoaaDoor.PAll
open Go.RowKit Go.Proofs.YtnehminojlocoaaDoorW.PrintWords Go.Proofs.YtnehminojlocoaaDoorW.PrintLast Go.Proofs.YtnehminojlocoaaDoorW.PrintMore
set_option linter.unusedVariables false
set_option linter.unusedSimpArgs false
/-- A block: its number, its type, its size, its cells. -/
structure Bl where
  g : Nat
  T : TypeId
  n : Nat
  m : Nat → Value
def upm (m : Nat → Value) (i : Nat) (v : Value) : Nat → Value := fun j => if j = i then v else m j
def Bl.put (b : Bl) (i : Nat) (v : Value) : Bl := ⟨b.g, b.T, b.n, upm b.m i v⟩
/-- The block holds just these cells. -/
def Bl.In (b : Bl) (W : World) : Prop := ∃ cs : Array Value, W.heap[b.g]? = some (.cells cs b.T (0, 0)) ∧ cs.size = b.n ∧ ∀ i, i < b.n → cs[i]? = some (b.m i)
def bg : List Bl → Nat → Nat
  | [], _ => 0
  | b :: _, 0 => b.g
  | _ :: L, k + 1 => bg L k
def bm : List Bl → Nat → Nat → Option Value
  | [], _, _ => none
  | b :: _, 0, i => match Nat.blt i b.n with
    | true => some (b.m i)
    | false => none
  | _ :: L, k + 1, i => bm L k i
def bput : List Bl → Nat → Nat → Value → List Bl
  | [], _, _, _ => []
  | b :: L, 0, i, v => b.put i v :: L
  | b :: L, k + 1, i, v => b :: bput L k i v
/-- All of L lies in the world, in different blocks. -/
def Mm : List Bl → World → Prop
  | [], _ => True
  | b :: L, W => b.In W ∧ (∀ c ∈ L, c.g ≠ b.g) ∧ Mm L W
theorem Bl.In.cell {b : Bl} {W : World} (h : b.In W) (i : Nat) (hi : i < b.n) : W.cell? ⟨b.g, i, none⟩ = some (b.m i) := by
  obtain ⟨cs, h1, h2, h3⟩ := h
  rw [blk_cell h1]
  exact h3 i hi
theorem Bl.In.free {b : Bl} {W : World} (h : b.In W) (i : Nat) : W.frozen? ⟨b.g, i, none⟩ = false := by
  obtain ⟨cs, h1, h2, h3⟩ := h
  exact blk_frozen h1 i
theorem Bl.In.lt {b : Bl} {W : World} (h : b.In W) : b.g < W.heap.size := by
  obtain ⟨cs, h1, h2, h3⟩ := h
  exact blk_lt h1
theorem Bl.In.on {b : Bl} {S : List Nat} {W W' : World} (h : b.In W) (h' : Fr S W W') (hs : b.g ∉ S) : b.In W' := by
  obtain ⟨cs, h1, h2⟩ := h
  exact ⟨cs, h'.block h1 hs, h2⟩
theorem Bl.In.put {b : Bl} {W : World} (h : b.In W) (i : Nat) (hi : i < b.n) (v : Value) : (b.put i v).In (W.setCell ⟨b.g, i, none⟩ v) := by
  obtain ⟨cs, h1, h2, h3⟩ := h
  refine ⟨_, blk_set h1 i v, by rw [Array.size_setIfInBounds]; exact h2, fun j hj => ?_⟩
  show _ = some (upm b.m i v j)
  unfold upm
  by_cases e : j = i
  · subst e
    rw [if_pos rfl, Array.getElem?_setIfInBounds_self_of_lt (by rw [h2]; exact hi)]
  · rw [if_neg e, Array.getElem?_setIfInBounds_ne (Ne.symm e)]
    exact h3 j hj
theorem Mm.on {S : List Nat} {W W' : World} (h' : Fr S W W') : ∀ {L : List Bl}, Mm L W → (∀ b ∈ L, b.g ∉ S) → Mm L W'
  | [], _, _ => trivial
  | b :: L, h, hs => ⟨h.1.on h' (hs b (by simp)), h.2.1, Mm.on h' h.2.2 (fun c hc => hs c (by simp [hc]))⟩
theorem Mm.onB {L : List Bl} {W W' : World} (h : Mm L W) (h' : Below W.heap.size W W') : Mm L W' := Mm.on (Fr.ofBelow [] h') h (by simp)
theorem Mm.drew {W : World} : ∀ {L : List Bl}, Mm L W → Mm L W.drew
  | [], _ => trivial
  | b :: L, h => ⟨h.1, h.2.1, Mm.drew h.2.2⟩
theorem Mm.at {W : World} : ∀ {L : List Bl} {k i : Nat} {v : Value}, Mm L W → bm L k i = some v → W.cell? ⟨bg L k, i, none⟩ = some v ∧ W.frozen? ⟨bg L k, i, none⟩ = false
  | b :: L, 0, i, v, h, hv => by
    unfold bm at hv
    split at hv
    · next hi =>
      obtain rfl := Option.some.inj hv
      exact ⟨h.1.cell i (Eq.mp Nat.blt_eq hi), h.1.free i⟩
    · cases hv
  | b :: L, k + 1, i, v, h, hv => Mm.at (L := L) (k := k) h.2.2 hv
theorem Mm.mem {W : World} {L : List Bl} (h : Mm L W) : MemOk (bg L) (bm L) W := fun k i v hv => (h.at hv).1
theorem bput_g : ∀ {L : List Bl} {k i : Nat} {v : Value} {c : Bl}, c ∈ bput L k i v → ∃ b ∈ L, c.g = b.g
  | b :: L, 0, i, v, c, h => by
    rcases List.mem_cons.1 h with rfl | h
    · exact ⟨b, by simp, rfl⟩
    · exact ⟨c, by simp [h], rfl⟩
  | b :: L, k + 1, i, v, c, h => by
    rcases List.mem_cons.1 h with rfl | h
    · exact ⟨c, by simp, rfl⟩
    · obtain ⟨d, hd, e⟩ := bput_g h
      exact ⟨d, by simp [hd], e⟩
theorem bm_mem : ∀ {L : List Bl} {k i : Nat} {v : Value}, bm L k i = some v → ∃ b ∈ L, b.g = bg L k
  | b :: L, 0, i, v, h => ⟨b, by simp, rfl⟩
  | b :: L, k + 1, i, v, h => by
    obtain ⟨c, hc, e⟩ := bm_mem (L := L) (k := k) h
    exact ⟨c, by simp [hc], e⟩
theorem far_set {W : World} (p : Addr) (v : Value) : Fr [p.block] W (W.setCell p v) := (Fr.refl _ _).set p (by simp) v
theorem Mm.set {W : World} : ∀ {L : List Bl} {k i : Nat} {v0 : Value} (v : Value), Mm L W → bm L k i = some v0 → Mm (bput L k i v) (W.setCell ⟨bg L k, i, none⟩ v)
  | b :: L, 0, i, v0, v, h, hv => by
    unfold bm at hv
    split at hv
    · next hi =>
      refine ⟨h.1.put i (Eq.mp Nat.blt_eq hi) v, h.2.1, Mm.on (far_set _ v) h.2.2 (fun c hc => ?_)⟩
      have := h.2.1 c hc
      show c.g ∉ [b.g]
      simpa using this
    · cases hv
  | b :: L, k + 1, i, v0, v, h, hv => by
    obtain ⟨c, hc, e⟩ := bm_mem (L := L) (k := k) hv
    refine ⟨h.1.on (far_set _ v) ?_, fun d hd => ?_, Mm.set v h.2.2 hv⟩
    · have := h.2.1 c hc
      show b.g ∉ [bg L k]
      rw [← e]
      simpa using Ne.symm this
    · obtain ⟨d', hd', e'⟩ := bput_g hd
      rw [e']
      exact h.2.1 d' hd'
/-- A block of the world at hand is told on. -/
theorem Mm.cons {L : List Bl} {W : World} {b : Bl} (h : Mm L W) (hb : b.In W) (hne : ∀ c ∈ L, c.g ≠ b.g) : Mm (b :: L) W := ⟨hb, hne, h⟩
theorem Mm.lt {W : World} : ∀ {L : List Bl}, Mm L W → ∀ c ∈ L, c.g < W.heap.size
  | b :: L, h, c, hc => by
    rcases List.mem_cons.1 hc with rfl | hc
    · exact h.1.lt
    · exact Mm.lt h.2.2 c hc
theorem bl_new (W : World) (cs : Array Value) (T : TypeId) (m : Nat → Value) (hm : ∀ i, i < cs.size → cs[i]? = some (m i)) : (⟨W.heap.size, T, cs.size, m⟩ : Bl).In (W.alloc (.cells cs T)) := ⟨cs, (MapKept.heap_alloc W _).1, rfl, hm⟩
theorem Mm.alloc {L : List Bl} {W : World} (h : Mm L W) (cs : Array Value) (T : TypeId) (m : Nat → Value) (hm : ∀ i, i < cs.size → cs[i]? = some (m i)) : Mm (⟨W.heap.size, T, cs.size, m⟩ :: L) (W.alloc (.cells cs T)) :=
  ⟨bl_new W cs T m hm, fun c hc => Nat.ne_of_lt (Mm.lt h c hc), Mm.onB h ((Below.refl _ _).alloc (Nat.le_refl _) _)⟩
theorem Fr.comp {S S' : List Nat} {w0 w W : World} (h : Fr S w0 w) (h' : Fr S' w W) (hs : ∀ k, k ∈ S' → k ∈ S ∨ w0.heap.size ≤ k) : Fr S w0 W :=
  ⟨h'.1.trans h.1, h'.2.1.trans h.2.1, h'.2.2.1.trans h.2.2.1, Nat.le_trans h.size h'.size, fun k hk hn => (h'.2.2.2.2 k (Nat.lt_of_lt_of_le hk h.size) (fun hm => by
    rcases hs k hm with h1 | h1
    · exact hn h1
    · omega)).trans (h.2.2.2.2 k hk hn)⟩
/-- What lies in a block of n cells. -/
def tl (n : Nat) (m : Nat → Value) (i : Nat) : Option Value := if i < n then some (m i) else none
/-- The state in a known block. -/
def stm (s : Nat → Int) (m : Nat → Value) : Nat → Value := fun i => if i < 16 then .int .u64 (s i) else m i
theorem Bl.In.st {g T n : Nat} {s : Nat → Int} {m : Nat → Value} {W : World} (h : (⟨g, T, n, stm s m⟩ : Bl).In W) (hn : 16 ≤ n) : St g T (tl n m) s W := by
  obtain ⟨cs, h1, h2, h3⟩ := h
  refine ⟨cs, h1, fun i hi => ?_, fun i hi => ?_⟩
  · rw [h3 i (by show i < n; omega)]
    show some (stm s m i) = _
    rw [stm, if_pos hi]
  · unfold tl
    by_cases e : i < n
    · rw [h3 i e, if_pos e]
      show some (stm s m i) = _
      rw [stm, if_neg (by omega)]
    · rw [if_neg e, Array.getElem?_eq_none (by rw [h2]; show n ≤ i; omega)]
theorem St.bl {g T n : Nat} {s : Nat → Int} {m : Nat → Value} {W : World} (h : St g T (tl n m) s W) (hn : 16 ≤ n) : (⟨g, T, n, stm s m⟩ : Bl).In W := by
  obtain ⟨cs, h1, h2, h3⟩ := h
  have hs : cs.size = n := by
    rcases Nat.lt_trichotomy cs.size n with h | h | h
    · have h4 : ¬ cs.size < 16 := fun h5 => by
        have h6 := h2 cs.size h5
        rw [Array.getElem?_eq_none (Nat.le_refl _)] at h6
        cases h6
      have h5 := h3 cs.size (by omega)
      unfold tl at h5
      rw [Array.getElem?_eq_none (Nat.le_refl _), if_pos h] at h5
      cases h5
    · exact h
    · have h5 := h3 n hn
      unfold tl at h5
      rw [if_neg (by omega), Array.getElem?_eq_getElem h] at h5
      cases h5
  refine ⟨cs, h1, hs, fun i hi => ?_⟩
  show _ = some (stm s m i)
  unfold stm
  by_cases e : i < 16
  · rw [if_pos e]
    exact h2 i e
  · rw [if_neg e, h3 i (by omega)]
    unfold tl
    rw [if_pos hi]
/-- What a list tells of a frame that is written out. -/
def AllV (β : Nat → Nat) (a : Act) : List (Nat × SV) → Prop
  | [] => True
  | (t, x) :: E => a.eval (.tmp t) = x.den β ∧ AllV β a E
theorem has_list {N : Nat} {β : Nat → Nat} {a : Act} (hn : a.tmps.size = N) : ∀ {E : List (Nat × SV)}, AllV β a E → Has N β E a
  | [], _ => ⟨hn, fun t x hx => by cases hx⟩
  | (k, y) :: E, hs => by
    have ih := has_list (β := β) hn (E := E) hs.2
    refine ⟨hn, fun t x hx => ?_⟩
    unfold look at hx
    split at hx
    · next e =>
      obtain rfl := Nat.eq_of_beq_eq_true e
      obtain rfl := Option.some.inj hx
      exact hs.1
    · exact ih.2 t x hx
theorem bg_put : ∀ (L : List Bl) (k i : Nat) (v : Value), bg (bput L k i v) = bg L
  | [], k, i, v => rfl
  | b :: L, 0, i, v => by
    funext j
    cases j <;> rfl
  | b :: L, k + 1, i, v => by
    funext j
    cases j with
    | zero => rfl
    | succ j =>
      show bg (bput L k i v) j = bg L j
      rw [bg_put L k i v]
def bset : List Bl → Nat → (Nat → Value) → List Bl
  | [], _, _ => []
  | b :: L, 0, m => ⟨b.g, b.T, b.n, m⟩ :: L
  | b :: L, k + 1, m => b :: bset L k m
theorem bg_set : ∀ (L : List Bl) (k : Nat) (m : Nat → Value), bg (bset L k m) = bg L
  | [], k, m => rfl
  | b :: L, 0, m => by
    funext j
    cases j <;> rfl
  | b :: L, k + 1, m => by
    funext j
    cases j with
    | zero => rfl
    | succ j =>
      show bg (bset L k m) j = bg L j
      rw [bg_set L k m]
theorem bset_g : ∀ {L : List Bl} {k : Nat} {m : Nat → Value} {c : Bl}, c ∈ bset L k m → ∃ b ∈ L, c.g = b.g
  | b :: L, 0, m, c, h => by
    rcases List.mem_cons.1 h with rfl | h
    · exact ⟨b, by simp, rfl⟩
    · exact ⟨c, by simp [h], rfl⟩
  | b :: L, k + 1, m, c, h => by
    rcases List.mem_cons.1 h with rfl | h
    · exact ⟨c, by simp, rfl⟩
    · obtain ⟨d, hd, e⟩ := bset_g h
      exact ⟨d, by simp [hd], e⟩
/-- The known blocks, one of which has other cells now. -/
theorem Mm.rep {W W' : World} : ∀ {L : List Bl} {k : Nat} {b : Bl} {m : Nat → Value}, Mm L W → L[k]? = some b → Fr [b.g] W W' → (⟨b.g, b.T, b.n, m⟩ : Bl).In W' → Mm (bset L k m) W'
  | b :: L, 0, b', m, h, hk, hF, hI => by
    obtain rfl : b = b' := Option.some.inj hk
    exact ⟨hI, h.2.1, Mm.on hF h.2.2 (fun c hc => by have := h.2.1 c hc; simpa using this)⟩
  | b :: L, k + 1, b', m, h, hk, hF, hI => by
    have hk' : L[k]? = some b' := hk
    have hm : b' ∈ L := List.mem_of_getElem? hk'
    refine ⟨h.1.on hF ?_, fun d hd => ?_, Mm.rep h.2.2 hk' hF hI⟩
    · have := h.2.1 b' hm
      simpa using Ne.symm this
    · obtain ⟨d', hd', e'⟩ := bset_g hd
      rw [e']
      exact h.2.1 d' hd'
theorem Mm.get {W : World} : ∀ {L : List Bl} {k : Nat} {b : Bl}, Mm L W → L[k]? = some b → b.In W
  | b :: L, 0, b', h, hk => by
    obtain rfl : b = b' := Option.some.inj hk
    exact h.1
  | b :: L, k + 1, b', h, hk => Mm.get (L := L) (k := k) h.2.2 hk
/-- The known blocks, their numbers told by β. -/
def Mw (β : Nat → Nat) (L : List Bl) (W : World) : Prop := bg L = β ∧ Mm L W
theorem Mw.mem {β : Nat → Nat} {L : List Bl} {W : World} (h : Mw β L W) : MemOk β (bm L) W := h.1 ▸ h.2.mem
theorem Mw.drew {β : Nat → Nat} {L : List Bl} {W : World} (h : Mw β L W) : Mw β L W.drew := ⟨h.1, h.2.drew⟩
theorem Mw.onB {β : Nat → Nat} {L : List Bl} {W W' : World} (h : Mw β L W) (h' : Below W.heap.size W W') : Mw β L W' := ⟨h.1, h.2.onB h'⟩
theorem Mw.rep {β : Nat → Nat} {L : List Bl} {W W' : World} {b : Bl} {m : Nat → Value} (h : Mw β L W) (k : Nat) (hk : L[k]? = some b) (hF : Fr [b.g] W W') (hI : (⟨b.g, b.T, b.n, m⟩ : Bl).In W') : Mw β (bset L k m) W' := ⟨(bg_set L k m).trans h.1, h.2.rep hk hF hI⟩
section
variable {P : Program} {ops : Array Oper} {Q : Exit → Act → World → Prop} {N : Nat} {β : Nat → Nat} {T : TypeId → Option Ty}
/-- A region that draws its order: pure operations, one store; over known blocks. -/
theorem regM_store {id n k i : Nat} {u v0 : Value} {a : Act} {w : World} {L : List Bl} {E E2 : List (Nat × SV)} (hm : P.follows .mixedOrders = true) (hT : TabOk P T) (hA : Has N β E a) (hM : Mw β L w) (hn : ops.size = n + 1)
    (hB : (schedB ops [n] (List.range n) (Array.replicate (n + 1) false) && (readyB .any ops (marks (List.range n) (Array.replicate (n + 1) false)) ((marks (List.range n) (Array.replicate (n + 1) false)).setIfInBounds n true) n && (Region.ready .any ops ((marks (List.range n) (Array.replicate (n + 1) false)).setIfInBounds n true) == []))) = true)
    (hst : stV T ops n (evs N T (bm L) ops (List.range n) E) = some (k, i, u)) (hv0 : bm L k i = some v0) (hsub : Sub (evs N T (bm L) ops (List.range n) E) E2) (hQ : ∀ c (a a' : Act) w, a'.defers = a.defers → Q (.panic c) a w → Q (.panic c) a' w)
    (h : ∀ a' W, Has N β E2 a' → a'.defers = a.defers → Mw β (bput L k i u) W → Fr [β k] w W → Q .normal a' W) : (Code.region id ops true).wp P Q a w := by
  obtain ⟨rfl, hM⟩ := hM
  refine reg_store hm hT hA hM.mem hn hB hst hsub hQ ⟨_, (hM.at hv0).1⟩ (hM.at hv0).2 (fun a' h1 h2 => ?_)
  exact h a' _ h1 h2 ⟨bg_put _ _ _ _, Mm.set u hM.drew hv0⟩ ((Fr.refl [bg L k] w).drew.set _ (by simp) u)
/-- The same in the order of the text. -/
theorem regM_seq_store {id n k i : Nat} {u v0 : Value} {a : Act} {w : World} {L : List Bl} {E E2 : List (Nat × SV)} (hT : TabOk P T) (hA : Has N β E a) (hM : Mw β L w) (hn : ops.size = n + 1)
    (hst : stV T ops n (evs N T (bm L) ops (List.range n) E) = some (k, i, u)) (hv0 : bm L k i = some v0) (hsub : Sub (evs N T (bm L) ops (List.range n) E) E2)
    (h : ∀ a' W, Has N β E2 a' → a'.defers = a.defers → Mw β (bput L k i u) W → Fr [β k] w W → Q .normal a' W) : (Code.region id ops false).wp P Q a w := by
  obtain ⟨rfl, hM⟩ := hM
  obtain ⟨E', o, he, ho, hg, hd, hrun⟩ := stV_ok hst
  rw [he] at hsub
  refine wp_region ?_
  have key := ops_ (P := P) (ops := ops) (Q := Q) (N := N) (β := bg L) (M := bm L) (T := T) hT hM.mem [n] (List.range n) he hA (fun a' h1 h2 => ?_)
  · rw [hn, List.range_succ]
    exact key
  · unfold wpOps
    simp only [ho]
    rw [if_pos (want_ hg)]
    refine Or.inl ?_
    unfold Oper.wp
    rw [hrun a' w hT h1 ⟨_, (hM.at hv0).1⟩ (hM.at hv0).2, Oper.upon_skip, hd]
    exact h a' _ (sub_ok h1 hsub) h2 ⟨bg_put _ _ _ _, Mm.set u hM hv0⟩ ((Fr.refl [bg L k] w).set _ (by simp) u)
theorem regM_seq {id n : Nat} {a : Act} {w : World} {L : List Bl} {E E2 : List (Nat × SV)} (hT : TabOk P T) (hA : Has N β E a) (hM : Mw β L w) (hn : ops.size = n)
    (hs : (evs N T (bm L) ops (List.range n) E).isSome = true) (hsub : Sub (evs N T (bm L) ops (List.range n) E) E2)
    (h : ∀ a', Has N β E2 a' → a'.defers = a.defers → Q .normal a' w) : (Code.region id ops false).wp P Q a w := reg_seq hT hA hM.mem hn hs hsub h
/-- A region in the order of the text: pure operations, then a call. -/
theorem regM_seq_call {id n f d : Nat} {args : List SV} {fn : Func} {a : Act} {w : World} {L : List Bl} {E E2 : List (Nat × SV)} (hT : TabOk P T) (hA : Has N β E a) (hM : Mw β L w) (hn : ops.size = n + 1)
    (hcl : clV N ops n (evs N T (bm L) ops (List.range n) E) = some (f, d, args)) (hf : P.funcs[f]? = some fn) (hname : (fn.name == "runtime.NumGoroutine") = false) (hb : fn.body.isSome = true)
    (R : Value → World → Prop) (hC : Calls P f (args.map (SV.den β)).toArray w fun e W' => ∃ v, e = .returned v ∧ R v W') (hsub : Sub (evs N T (bm L) ops (List.range n) E) E2) (hnd : look E2 d = none)
    (h : ∀ a' v W, Has N β ((d, .v v) :: E2) a' → a'.defers = a.defers → R v W → Q .normal a' W) : (Code.region id ops false).wp P Q a w := by
  obtain ⟨E1, o1, he1, ho1, hg1, hd1, hN1, xs0, ts, hop1, hargs⟩ := clV_ok hcl
  have hsub2 : Sub (some E1) E2 := by
    rw [← he1]
    exact hsub
  refine wp_region ?_
  have key := ops_ (P := P) (ops := ops) (Q := Q) (N := N) (β := β) (M := bm L) (T := T) hT hM.mem [n] (List.range n) he1 hA (fun a' h1 h2 => ?_)
  · rw [hn, List.range_succ]
    exact key
  · refine call_ops ho1 hg1 hd1 hN1 h1 hf hname hb hop1 hargs R hC (fun v W' a2 hR h3 h4 => ?_)
    exact h a2 v W' (sub_ok (E := (d, .v v) :: E2) h3 ⟨by simp [look], sub_cons hnd hsub2⟩) (h4.trans h2) hR
end
theorem alloc_size (w : World) (o : Obj) : (w.alloc o).heap.size = w.heap.size + 1 := by simp
theorem bl_rep1 (w : World) (o : Obj) (n : Nat) (v : Value) (t : TypeId) : (⟨w.heap.size + 1, t, n, fun _ => v⟩ : Bl).In ((w.alloc o).alloc (.cells (Array.replicate n v) t)) := by
  refine ⟨Array.replicate n v, ?_, Array.size_replicate, fun i hi => ?_⟩
  · have h := (MapKept.heap_alloc (w.alloc o) (.cells (Array.replicate n v) t)).1
    rw [alloc_size] at h
    exact h
  · rw [Array.getElem?_replicate]
    exact if_pos hi
theorem bl_rep0 (w : World) (n : Nat) (v : Value) (t : TypeId) : (⟨w.heap.size, t, n, fun _ => v⟩ : Bl).In (w.alloc (.cells (Array.replicate n v) t)) := by
  refine ⟨_, (MapKept.heap_alloc w (.cells (Array.replicate n v) t)).1, Array.size_replicate, fun i hi => ?_⟩
  rw [Array.getElem?_replicate]
  exact if_pos hi
theorem bl_rep2 (w : World) (o : Obj) (n : Nat) (v : Value) (t : TypeId) : (⟨w.heap.size, t, n, fun _ => v⟩ : Bl).In ((w.alloc (.cells (Array.replicate n v) t)).alloc o) := (bl_rep0 w n v t).on ((Fr.refl [] _).alloc o) (by simp)
/-- The octets of a number. -/
def byt (v : Int) : Nat → Int
  | 0 => v % 256
  | 1 => v / 256 % 256
  | 2 => v / 65536 % 256
  | 3 => v / 16777216 % 256
  | 4 => v / 4294967296 % 256
  | 5 => v / 1099511627776 % 256
  | 6 => v / 281474976710656 % 256
  | 7 => v / 72057594037927936 % 256
  | _ => 0
def putB (m : Nat → Value) (o : Nat) (v : Int) : Nat → Value := fun i => if o ≤ i ∧ i < o + 8 then .int .u8 (byt v (i - o)) else m i
theorem p64_get (cur : Array Value) (o : Nat) (v : Int) (i : Nat) (ho : o + 8 ≤ cur.size) (hi : i < cur.size) : (p64C cur o v)[i]? = if o ≤ i ∧ i < o + 8 then some (.int .u8 (byt v (i - o))) else cur[i]? := by
  unfold p64C
  by_cases h : o ≤ i ∧ i < o + 8
  · rw [if_pos h]
    obtain ⟨j, hj, rfl⟩ : ∃ j, j < 8 ∧ i = o + j := ⟨i - o, by omega, by omega⟩
    rw [Nat.add_sub_cancel_left]
    match j, hj with
    | 0, _ => simp [Array.getElem?_setIfInBounds, byt]; omega
    | 1, _ => simp [Array.getElem?_setIfInBounds, byt]; omega
    | 2, _ => simp [Array.getElem?_setIfInBounds, byt]; omega
    | 3, _ => simp [Array.getElem?_setIfInBounds, byt]; omega
    | 4, _ => simp [Array.getElem?_setIfInBounds, byt]; omega
    | 5, _ => simp [Array.getElem?_setIfInBounds, byt]; omega
    | 6, _ => simp [Array.getElem?_setIfInBounds, byt]; omega
    | 7, _ => simp [Array.getElem?_setIfInBounds, byt]; omega
  · rw [if_neg h]
    simp only [Array.getElem?_setIfInBounds]
    repeat rw [if_neg (by omega)]
theorem put_bl {b : Bl} {w : World} (h : b.In w) (o n c : Nat) (v : Int) (hn : 8 ≤ n) (ho : o + 8 ≤ b.n) :
    Calls Tryd.prog 51 #[.agg #[], .slice (some ⟨b.g, o, none⟩) n c, .int .u64 v] w fun e w' => e = .returned (.tuple #[]) ∧ (⟨b.g, b.T, b.n, putB b.m o v⟩ : Bl).In w' ∧ Fr [b.g] w w' := by
  obtain ⟨cs, h1, h2, h3⟩ := h
  refine (p64_walk b.g b.T o n c v hn cs w h1 (by omega)).mono fun e w' hh => ⟨hh.1, ⟨_, hh.2.1, ?_, fun i hi => ?_⟩, hh.2.2⟩
  · unfold p64C
    simp only [Array.size_setIfInBounds]
    exact h2
  · have hi' : i < b.n := hi
    rw [p64_get cs o v i (by omega) (by omega)]
    show _ = some (putB b.m o v i)
    unfold putB
    split
    · rfl
    · exact h3 i hi
end Go.Proofs.YtnehminojlocoaaDoor.PAll
