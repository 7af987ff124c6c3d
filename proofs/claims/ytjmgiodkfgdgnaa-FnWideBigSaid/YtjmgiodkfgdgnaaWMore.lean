
import Derived.Test.YtjmgiodkfgdgnaaWWords
import Derived.Test.YtjmgiodkfgdgnaaWLast
import Derived.Test.YtjmgiodkfgdgnaaWQPut
import Derived.Test.YtjmgiodkfgdgnaaWApart
import Derived.Test.YtjmgiodkfgdgnaaWZeros
import Derived.Test.YtjmgiodkfgdgnaaWFoot
import Derived.Test.YtjmgiodkfgdgnaaWKept
import Derived.Test.YtjmgiodkfgdgnaaWNEv
namespace Go.Proofs.YtjmgiodkfgdgnaaW.PrintMore
open Go.RowKit Go.Proofs.YtjmgiodkfgdgnaaW.PrintWords
namespace Kd
open Go.Proofs.YtjmgiodkfgdgnaaW.PrintWords.Kd
end Kd
namespace Kd
open Go.Proofs.YtjmgiodkfgdgnaaW.PrintWords.Kd
section
variable {α : Type} {d : Kd α} {e base g N : Nat} {ok : Nat → Prop} {W w1 : World} {u v : Value} {xs : List α}
end
end Kd
theorem max2_int (k k' : IntKind) (x y : Int) : Builtin.max2 (.int k x) (.int k' y) = pure (.int k (if x < y then y else x)) := by simp only [Builtin.max2, gt_iff_lt]
theorem min2_int (k k' : IntKind) (x y : Int) : Builtin.min2 (.int k x) (.int k' y) = pure (.int k (if y < x then y else x)) := by simp only [Builtin.min2]
theorem max_two (ats : Array TypeId) (ty : TypeId) (a b : Value) : Builtin.max_ ats ty #[a, b] = (Builtin.max2 a b >>= fun s => pure s) := by simp only [Builtin.max_, List.foldlM_cons, List.foldlM_nil]
theorem min_two (ats : Array TypeId) (ty : TypeId) (a b : Value) : Builtin.min_ ats ty #[a, b] = (Builtin.min2 a b >>= fun s => pure s) := by simp only [Builtin.min_, List.foldlM_cons, List.foldlM_nil]
theorem max_three (ats : Array TypeId) (ty : TypeId) (a b c : Value) : Builtin.max_ ats ty #[a, b, c] = (Builtin.max2 a b >>= fun s => Builtin.max2 s c >>= fun s => pure s) := by simp only [Builtin.max_, List.foldlM_cons, List.foldlM_nil]
theorem min_three (ats : Array TypeId) (ty : TypeId) (a b c : Value) : Builtin.min_ ats ty #[a, b, c] = (Builtin.min2 a b >>= fun s => Builtin.min2 s c >>= fun s => pure s) := by simp only [Builtin.min_, List.foldlM_cons, List.foldlM_nil]
theorem max_four (ats : Array TypeId) (ty : TypeId) (a b c d : Value) : Builtin.max_ ats ty #[a, b, c, d] = (Builtin.max2 a b >>= fun s => Builtin.max2 s c >>= fun s => Builtin.max2 s d >>= fun s => pure s) := by simp only [Builtin.max_, List.foldlM_cons, List.foldlM_nil]
theorem min_four (ats : Array TypeId) (ty : TypeId) (a b c d : Value) : Builtin.min_ ats ty #[a, b, c, d] = (Builtin.min2 a b >>= fun s => Builtin.min2 s c >>= fun s => Builtin.min2 s d >>= fun s => pure s) := by simp only [Builtin.min_, List.foldlM_cons, List.foldlM_nil]
end Go.Proofs.YtjmgiodkfgdgnaaW.PrintMore
namespace Go.Proofs.YtjmgiodkfgdgnaaW.PrintWords
open Go.RowKit
section
variable {P : Program} {ops : Array Oper} {rest : List Oper} {o : Oper} {a : Act} {Q : Exit → Act → World → Prop} {W : World}
theorem gate_callee {f : FuncId} {as : Array Operand} {ts : Array TypeId} (_ho : o.op = .call { callee := .value (.func f), args := as, argTypes := ts }) (h : wpList P ops Q (o :: rest) a W) : wpList P ops Q (o :: rest) a W := h
theorem gate_builtin {b : Builtin} {xs : Array Operand} {ts : Array TypeId} (_ho : o.op = .call { callee := .builtin b, args := xs, argTypes := ts }) (h : wpList P ops Q (o :: rest) a W) : wpList P ops Q (o :: rest) a W := h
end
def mx (a b : Int) : Int := if a < b then b else a
def mn (a b : Int) : Int := if b < a then b else a
def shl (k : IntKind) (x y : Int) : Int := k.wrap (x * 2 ^ min y.toNat k.bits)
def shr (k : IntKind) (x y : Int) : Int := x / 2 ^ min y.toNat k.bits
theorem shl_small {k : IntKind} {x y j : Int} (h : shl k x y = j) (hy : y ≤ k.bits) : k.wrap (x * 2 ^ y.toNat) = j := by rw [← h]; unfold shl; rw [Nat.min_eq_left (by omega)]
theorem shr_small {k : IntKind} {x y j : Int} (h : shr k x y = j) (hy : y ≤ k.bits) : x / 2 ^ y.toNat = j := by rw [← h]; unfold shr; rw [Nat.min_eq_left (by omega)]
namespace Kd
section
variable {α : Type} {d : Kd α} {e base : Nat} {ok : Nat → Prop} {W w1 : World} {v : Value} {xs : List α}
end
section
variable {α : Type} {d : Kd α} {e base g n cap : Nat} {ok oki okp : Nat → Prop} {W : World} {xs : List α} {i : Int} {c : List Value}
end
section
variable {α : Type} {d : Kd α} {e base b b' g N : Nat} {ok ok1 : Nat → Prop} {W W2 w1 : World} {u v : Value} {xs ys : List α} {S : Nat → Prop}
end
end Kd
end Go.Proofs.YtjmgiodkfgdgnaaW.PrintWords
namespace Go.Proofs.YtjmgiodkfgdgnaaW.PrintWords
open Go.RowKit
namespace Kd
def V {α : Type} (d : Kd α) (_e : Nat) (W : World) (_base : Nat) (ok : Nat → Prop) (v : Value) (xs : List α) : Prop := ∃ A c, v = .slice A xs.length c ∧ xs.length ≤ c ∧ F d W ok A xs.length xs
section
variable {α β : Type} {d : Kd α} {e base base' n m c g N' lo hi : Nat} {ok ok' S : Nat → Prop} {w W w1 : World} {A : Option Addr} {ad : Addr} {u v v1 : Value} {xs : List α}
theorem V_map (h : V d e W base ok v xs) (hF : ∀ A, F d W ok A xs.length xs → F d w1 ok' A xs.length xs) : V d e w1 base' ok' v xs := by
  obtain ⟨A, c, hv, hl, hf⟩ := h
  exact ⟨A, c, hv, hl, hF A hf⟩
theorem V_mk (hl : xs.length ≤ c) (hf : F d W ok A xs.length xs) : V d e W base ok (.slice A xs.length c) xs := ⟨A, c, rfl, hl, hf⟩
theorem V_slice (h : V d e W base ok v xs) : ∃ A c, v = .slice A xs.length c := by
  obtain ⟨A, c, hv, _⟩ := h
  exact ⟨A, c, hv⟩
theorem V_at (h : V d e W base ok (.slice A n c) xs) : n = xs.length ∧ n ≤ c ∧ F d W ok A xs.length xs := by
  obtain ⟨A', c', hv, hl, hf⟩ := h
  injection hv with ha hn hc
  subst ha; subst hc
  exact ⟨hn, by rw [hn]; exact hl, hf⟩
theorem V_reads' (h : V d e W base ok (.slice A n c) xs) : n = xs.length ∧ n ≤ c ∧ d.C W A xs.length xs := ⟨(V_at h).1, (V_at h).2.1, F_now (V_at h).2.2⟩
theorem V_nil (d : Kd α) (e : Nat) (W : World) (base : Nat) (ok : Nat → Prop) : V d e W base ok (.slice none 0 0) [] := ⟨none, 0, rfl, Nat.le_refl _, F_nil d W ok⟩
theorem R_V (h : d.R e W base ok v xs) : V d e W base' ok v xs := by
  obtain ⟨A, c, rfl⟩ := R_slice h
  exact ⟨A, c, rfl, (R_reads' h).2.1, R_F h⟩
theorem V_mono (h : V d e W base ok v xs) (hok : ∀ k, ok k → ok' k) : V d e W base ok' v xs := V_map h (fun _ hf => F_mono hf hok)
theorem V_lower (h : V d e W base ok v xs) (_ : base' ≤ base) : V d e W base' ok v xs := h
theorem V_below (h : V d e W base ok v xs) (hb : Below W.heap.size W w1) : V d e w1 base ok v xs := V_map h (fun _ hf => F_below hf hb)
theorem V_alloc (h : V d e W base ok v xs) (o : Obj) : V d e (W.alloc o) base ok v xs := V_map h (fun _ hf => F_alloc hf o)
theorem V_drew (h : V d e W base ok v xs) : V d e W.drew base ok v xs := V_map h (fun _ hf => F_drew hf)
theorem V_drewN (h : V d e W base ok v xs) (m : Nat) : V d e (W.drewN m) base ok v xs := V_map h (fun _ hf => F_drewN hf m)
theorem V_far (h : V d e W base ok v xs) {p : Addr} (hok : ∀ k, ok k → k ≠ p.block) (u : Value) : V d e (W.setCell p u) base ok v xs := V_map h (fun _ hf => F_far hf hok u)
theorem V_elder' (h : V d e W base ok v xs) (hbase : ∀ k, u.ownBlock = some k → W.heap.size ≤ k) (hb : Below W.heap.size W w1) : V d e w1 base (fun k => ok k ∧ some k ≠ u.ownBlock) v xs := V_map h (fun _ hf => F_elder' hf hbase hb)
theorem V_elderB (h : V d e W base ok v xs) (a : Nat) (ha : W.heap.size ≤ a) : V d e W base (fun k => ok k ∧ k ≠ a) v xs := V_map h (fun _ hf => F_elderB hf a ha)
theorem F_take (h : F d W ok A xs.length xs) (hm : m ≤ xs.length) : F d W ok A (xs.take m).length (xs.take m) := F_imp h (fun _ hC => C_take hC hm)
end
end Kd
end Go.Proofs.YtjmgiodkfgdgnaaW.PrintWords
