/- Bits of reference numbers, one place or another: what the laws' function literals are made of. -/
import Derived.Test.YtiifnofghicnaaaPlusLaw
namespace Go.Proofs.Ytiifnofghicnaaa.PAll
open Go.RowKit Go.Proofs.YtiifnofghicnaaaW.PrintWords Go.Proofs.YtiifnofghicnaaaW.PrintLast Go.Proofs.YtiifnofghicnaaaW.PrintMore
theorem bit_sub (x i n : Nat) (hi : i < 128) (hn : n < 128) : spec_Big_Bit.f (Dig.dg x) ((i : Int) - (n : Int)) = some (decide (n ≤ i) && x.testBit (i - n)) := by
  by_cases h : n ≤ i
  · have e : (i : Int) - (n : Int) = ((i - n : Nat) : Int) := by omega
    rw [e, bit_law x (i - n) (by omega), decide_eq_true h, Bool.true_and]
  · unfold spec_Big_Bit.f
    rw [if_neg (by omega), decide_eq_false h, Bool.false_and]
theorem bit_add (x i n : Nat) (hi : i < 128) (hn : n < 128) : spec_Big_Bit.f (Dig.dg x) ((i : Int) + (n : Int)) = some (x.testBit (i + n)) := by
  have e : (i : Int) + (n : Int) = ((i + n : Nat) : Int) := by omega
  rw [e, bit_law x (i + n) (by omega)]
/-- A value of a reference number: what it reads does not hang on what lies above. -/
theorem V_at {w : World} {base : Nat} {v : Value} {l : List Int} (h : Kd.V (Kd.int .i64) 3 w base (fun k => base ≤ k) v l) : ∃ A c, v = .slice A l.length c ∧ l.length ≤ c ∧ ∀ W, Below w.heap.size w W → Kd.C (Kd.int .i64) W A l.length l := by
  obtain ⟨A, c, rfl⟩ := Kd.V_slice h
  exact ⟨A, c, rfl, (Kd.V_reads' h).2.1, fun W hW => (Kd.V_reads' (Kd.V_below h hW)).2.2⟩
theorem box1 (w : World) (o : Obj) : (w.alloc o).heap[w.heap.size]? = some o ∧ Below w.heap.size w (w.alloc o) ∧ (w.alloc o).heap.size = w.heap.size + 1 :=
  ⟨(MapKept.heap_alloc w _).1, (Below.refl _ _).alloc (Nat.le_refl _) _, World.size_alloc _ _⟩
theorem box2 (w : World) (o p : Obj) : ((w.alloc o).alloc p).heap[w.heap.size]? = some o ∧ ((w.alloc o).alloc p).heap[w.heap.size + 1]? = some p ∧ Below w.heap.size w ((w.alloc o).alloc p) ∧ ((w.alloc o).alloc p).heap.size = w.heap.size + 2 := by
  obtain ⟨h1, h2, h3⟩ := box1 w o
  obtain ⟨h4, h5, h6⟩ := box1 (w.alloc o) p
  rw [h3] at h4 h6
  exact ⟨blk_alloc h1 _, h4, h2.trans (h5.mono (by rw [h3]; exact Nat.le_succ _)), h6⟩
/-- What lies below stays as calls go on. -/
theorem on_ {w W W' : World} {n : Nat} (h : Below n w W) (hn : n ≤ W.heap.size) (h' : Below W.heap.size W W') : Below n w W' := h.trans (h'.mono hn)
theorem blk_on {W W' : World} {g : Nat} {o : Obj} (h : W.heap[g]? = some o) (h' : Below W.heap.size W W') : W'.heap[g]? = some o := (h'.block _ (blk_lt h)).trans h
theorem trim_9 (m : Nat) (hm : m < 340282366920938463463374607431768211456) : spec_trim.f 100 (Dig.digs 9 m) = some (Dig.dg m) :=
  trim_digs 9 m 100 (Nat.lt_trans hm (by decide)) (by decide) (by decide)
theorem ofb_128 (b : Nat → Bool) : Dig.ofb b 128 < 340282366920938463463374607431768211456 := Dig.ofb_lt b 128
/-- OfBits of 128 bits, its answer told as a number. -/
theorem ofBits_128 (w : World) (fid : Nat) (caps : Array Value) (b : Nat → Bool)
    (hcf : ∀ (args : Array Value) (w : World), (callFunc fid args).run Try.prog w = .ok (.enter fid args) w)
    (hcl : Hid (∀ (i : Nat) (W : World), i < 128 → Below w.heap.size w W → Calls Try.prog fid (#[.int .i64 i] ++ caps) W (fun e W' => e = .returned (.bool (b i)) ∧ Below W.heap.size W W'))) :
    Calls Try.prog 39 #[.int .i64 128, .func (.func fid) #[] caps] w fun e w' => ∃ v0_ : Value, e = .returned (v0_) ∧ Kd.V (Kd.int .i64) 3 w' w.heap.size (fun k_ => (w.heap.size ≤ k_)) v0_ (Dig.dg (Dig.ofb b 128)) ∧ Below w.heap.size w w' :=
  spec_OfBits.calls w fid caps b hcf hcl 100 _ (trim_9 _ (ofb_128 b))
end Go.Proofs.Ytiifnofghicnaaa.PAll
