/- HighwayHash: what a digest's block holds while it is made: 82 cells, of which the key's are noughts and the last one a number. -/
import Derived.Test.YtnehminojlocoaaDoorHwBase
import Derived.Laws.CopyRow
import Derived.Laws.CopyOwn
namespace Go.Proofs.YtnehminojlocoaaDoor.PAll
open Go.RowKit Go.Proofs.YtnehminojlocoaaDoorW.PrintWords Go.Proofs.YtnehminojlocoaaDoorW.PrintLast Go.Proofs.YtnehminojlocoaaDoorW.PrintMore
set_option linter.unusedVariables false
set_option linter.unusedSimpArgs false
def Row82 (cs : Array Value) : Prop := cs.size = 82 ∧ (∀ i, 16 ≤ i → i < 48 → cs[i]? = some (.int .u8 0)) ∧ ∃ sz, cs[81]? = some (.int .i64 sz)
def Dg (T g : Nat) (W : World) : Prop := ∃ cs, W.heap[g]? = some (.cells cs T (0, 0)) ∧ Row82 cs
theorem row82_set {cs : Array Value} (h : Row82 cs) (i : Nat) (hi : i < 16 ∨ i = 80) (v : Value) : Row82 (cs.setIfInBounds i v) := by
  obtain ⟨h1, h2, sz, h3⟩ := h
  refine ⟨by rw [Array.size_setIfInBounds, h1], fun j h16 h48 => ?_, sz, ?_⟩
  · rw [Array.getElem?_setIfInBounds_ne (by omega)]
    exact h2 j h16 h48
  · rw [Array.getElem?_setIfInBounds_ne (by omega)]
    exact h3
theorem row82_size {cs : Array Value} (h : Row82 cs) (z : Int) : Row82 (cs.setIfInBounds 81 (.int .i64 z)) := by
  obtain ⟨h1, h2, sz, h3⟩ := h
  refine ⟨by rw [Array.size_setIfInBounds, h1], fun j h16 h48 => ?_, z, ?_⟩
  · rw [Array.getElem?_setIfInBounds_ne (by omega)]
    exact h2 j h16 h48
  · rw [Array.getElem?_setIfInBounds_self_of_lt (by omega)]
theorem splice_get (l cs : List Value) (o : Nat) (ho : o + cs.length ≤ l.length) (i : Nat) : (l.take o ++ cs ++ l.drop (o + cs.length))[i]? = if o ≤ i ∧ i < o + cs.length then cs[i - o]? else l[i]? := by
  rw [List.append_assoc, List.getElem?_append, List.length_take, Nat.min_eq_left (by omega)]
  split
  · rw [if_neg (by omega), List.getElem?_take_of_lt (by assumption)]
  · rw [List.getElem?_append]
    split
    · rw [if_pos (by omega)]
    · rw [if_neg (by omega), List.getElem?_drop]
      congr 1
      omega
theorem row82_splice {cs : Array Value} (h : Row82 cs) (o : Nat) (l : List Value) (ho : o + l.length ≤ 16 ∨ (o = 16 ∧ l = List.replicate 32 (.int .u8 0))) : Row82 (cs.toList.take o ++ l ++ cs.toList.drop (o + l.length)).toArray := by
  obtain ⟨h1, h2, sz, h3⟩ := h
  have hl : cs.toList.length = 82 := by rw [Array.length_toList, h1]
  have hol : o + l.length ≤ 48 := by
    rcases ho with h | ⟨rfl, rfl⟩
    · omega
    · rw [List.length_replicate]; omega
  refine ⟨?_, fun j h16 h48 => ?_, sz, ?_⟩
  · rw [List.size_toArray, List.length_append, List.length_append, List.length_take, List.length_drop, hl]
    omega
  · rw [List.getElem?_toArray, splice_get _ _ _ (by omega)]
    split
    · rcases ho with h | ⟨rfl, rfl⟩
      · omega
      · rw [List.getElem?_replicate, if_pos (by omega)]
    · rw [Array.getElem?_toList]
      exact h2 j h16 h48
  · rw [List.getElem?_toArray, splice_get _ _ _ (by omega), if_neg (by omega), Array.getElem?_toList]
    exact h3
theorem hb_on {W W' : World} {g : Nat} {o : Obj} (h : W.heap[g]? = some o) (h' : Below W.heap.size W W') : W'.heap[g]? = some o := (h'.block _ (blk_lt h)).trans h
theorem Dg.on {T g : Nat} {W W' : World} (h : Dg T g W) (h' : Below W.heap.size W W') : Dg T g W' := by
  obtain ⟨cs, h1, h2⟩ := h
  exact ⟨cs, hb_on h1 h', h2⟩
theorem Dg.alloc {T g : Nat} {W : World} (h : Dg T g W) (o : Obj) : Dg T g (W.alloc o) := by
  obtain ⟨cs, h1, h2⟩ := h
  exact ⟨cs, blk_alloc h1 _, h2⟩
theorem Dg.drew {T g : Nat} {W : World} (h : Dg T g W) : Dg T g W.drew := h
theorem hb_set {W : World} {g t : Nat} {cs : Array Value} {fr : Nat × Nat} (h : W.heap[g]? = some (.cells cs t fr)) (i : Nat) (u : Value) : (W.setCell ⟨g, i, none⟩ u).heap[g]? = some (.cells (cs.setIfInBounds i u) t fr) := by
  simp [World.setCell, Array.getElem?_modify, h]
theorem hb_far {W : World} {g : Nat} {o : Obj} (h : W.heap[g]? = some o) {p : Addr} (hp : g ≠ p.block) (u : Value) : (W.setCell p u).heap[g]? = some o := (Below.heap_setCell W p u g hp).trans h
theorem Dg.set {T g : Nat} {W : World} (h : Dg T g W) (i : Nat) (hi : i < 16 ∨ i = 80) (v : Value) : Dg T g (W.setCell ⟨g, i, none⟩ v) := by
  obtain ⟨cs, h1, h2⟩ := h
  exact ⟨_, hb_set h1 i v, row82_set h2 i hi v⟩
theorem Dg.far {T g : Nat} {W : World} (h : Dg T g W) (p : Addr) (hp : g ≠ p.block) (v : Value) : Dg T g (W.setCell p v) := by
  obtain ⟨cs, h1, h2⟩ := h
  exact ⟨cs, hb_far h1 hp v, h2⟩
theorem Dg.key {T g : Nat} {W : World} (h : Dg T g W) (i : Nat) (h16 : 16 ≤ i) (h48 : i < 48) : W.cell? ⟨g, i, none⟩ = some (.int .u8 0) := by
  obtain ⟨cs, h1, h2⟩ := h
  rw [blk_cell h1]
  exact h2.2.1 i h16 h48
theorem Dg.size {T g : Nat} {W : World} (h : Dg T g W) : ∃ sz, W.cell? ⟨g, 81, none⟩ = some (.int .i64 sz) := by
  obtain ⟨cs, h1, h2⟩ := h
  obtain ⟨sz, h3⟩ := h2.2.2
  exact ⟨sz, by rw [blk_cell h1]; exact h3⟩
theorem Dg.slot {T g : Nat} {W : World} (h : Dg T g W) (i : Nat) (hi : i < 82) : (∃ v, W.cell? ⟨g, i, none⟩ = some v) ∧ W.frozen? ⟨g, i, none⟩ = false := by
  obtain ⟨cs, h1, h2⟩ := h
  refine ⟨⟨cs[i]'(by rw [h2.1]; exact hi), ?_⟩, blk_frozen h1 i⟩
  rw [blk_cell h1]
  exact Array.getElem?_eq_getElem _
theorem Dg.lt {T g : Nat} {W : World} (h : Dg T g W) : g < W.heap.size := by
  obtain ⟨cs, h1, h2⟩ := h
  exact blk_lt h1
/-- A block of four numbers. -/
def K4 (g : Nat) (W : World) : Prop := ∃ a b c d : Int, W.heap[g]? = some (.cells #[.int .u64 a, .int .u64 b, .int .u64 c, .int .u64 d] 61 (0, 0))
theorem K4.on {g : Nat} {W W' : World} (h : K4 g W) (h' : Below W.heap.size W W') : K4 g W' := by
  obtain ⟨a, b, c, d, h1⟩ := h
  exact ⟨a, b, c, d, hb_on h1 h'⟩
theorem K4.alloc {g : Nat} {W : World} (h : K4 g W) (o : Obj) : K4 g (W.alloc o) := by
  obtain ⟨a, b, c, d, h1⟩ := h
  exact ⟨a, b, c, d, blk_alloc h1 _⟩
theorem K4.drew {g : Nat} {W : World} (h : K4 g W) : K4 g W.drew := h
theorem K4.far {g : Nat} {W : World} (h : K4 g W) (p : Addr) (hp : g ≠ p.block) (v : Value) : K4 g (W.setCell p v) := by
  obtain ⟨a, b, c, d, h1⟩ := h
  exact ⟨a, b, c, d, hb_far h1 hp v⟩
theorem K4.set {g : Nat} {W : World} (h : K4 g W) (i : Nat) (hi : i < 4) (x : Int) : K4 g (W.setCell ⟨g, i, none⟩ (.int .u64 x)) := by
  obtain ⟨a, b, c, d, h1⟩ := h
  have h2 := hb_set h1 i (.int .u64 x)
  match i, hi with
  | 0, _ => exact ⟨x, b, c, d, h2⟩
  | 1, _ => exact ⟨a, x, c, d, h2⟩
  | 2, _ => exact ⟨a, b, x, d, h2⟩
  | 3, _ => exact ⟨a, b, c, x, h2⟩
theorem K4.cell {g : Nat} {W : World} (h : K4 g W) (i : Nat) (hi : i < 4) : (∃ x : Int, W.cell? ⟨g, i, none⟩ = some (.int .u64 x)) ∧ W.frozen? ⟨g, i, none⟩ = false := by
  obtain ⟨a, b, c, d, h1⟩ := h
  refine ⟨?_, blk_frozen h1 i⟩
  rw [blk_cell h1]
  match i, hi with
  | 0, _ => exact ⟨a, rfl⟩
  | 1, _ => exact ⟨b, rfl⟩
  | 2, _ => exact ⟨c, rfl⟩
  | 3, _ => exact ⟨d, rfl⟩
theorem K4.lt {g : Nat} {W : World} (h : K4 g W) : g < W.heap.size := by
  obtain ⟨a, b, c, d, h1⟩ := h
  exact blk_lt h1
theorem K4.row {g k : Nat} {W : World} (h : K4 g W) (hk : g ≠ k) (cs : Array Value) : K4 g (W.setRow k cs) := by
  obtain ⟨a, b, c, d, h1⟩ := h
  exact ⟨a, b, c, d, (setRow_other W k g cs hk).trans h1⟩
/-- copy of four numbers into a digest's first cells. -/
theorem run_copy4 {T g k o n c : Nat} {W : World} (hd : Dg T g W) (hk : K4 k W) (ho : o + 4 ≤ 16) (hn : 4 ≤ n) (ty : TypeId) :
    ∃ W', (Builtin.copy_ #[91, 91] ty #[.slice (some ⟨g, o, none⟩) n c, .slice (some ⟨k, 0, none⟩) 4 4]).run Tryd.prog W = .ok (goInt 4) W' ∧ Dg T g W' ∧ (∀ j, j ≠ g → K4 j W → K4 j W') ∧ (∀ B w0, B ≤ g → Below B w0 W → Below B w0 W') ∧ W'.heap.size = W.heap.size := by
  obtain ⟨cs, h1, h2⟩ := hd
  obtain ⟨a, b, cc, d, h3⟩ := hk
  refine ⟨_, run_copy_row Tryd.prog W 91 91 ty 31 g o n c ⟨k, 0, none⟩ 4 4 cs T [.int .u64 a, .int .u64 b, .int .u64 cc, .int .u64 d] Tryd.underlying91 (by kernel_rfl) h1 ?_ ?_ ?_ ?_, ⟨_, setRow_heap W g cs _ T (0, 0) h1, row82_splice h2 o _ (Or.inl ho)⟩, fun j hj h => h.row hj _, fun B w0 hB h => below_setRow h hB _, by simp⟩
  · show 4 = Nat.min 4 n
    exact (Nat.min_eq_left hn).symm
  · intro j v hj
    have e : (Addr.add ⟨k, 0, none⟩ j) = ⟨k, j, none⟩ := by
      simp [Addr.add]
      omega
    rw [e, blk_cell h3]
    rw [← List.getElem?_toArray] at hj
    exact hj
  · show o + 4 ≤ cs.size
    rw [h2.1]
    omega
  · intro v hv
    simp only [List.mem_cons, List.not_mem_nil, or_false] at hv
    rcases hv with rfl | rfl | rfl | rfl <;> rfl
end Go.Proofs.YtnehminojlocoaaDoor.PAll
