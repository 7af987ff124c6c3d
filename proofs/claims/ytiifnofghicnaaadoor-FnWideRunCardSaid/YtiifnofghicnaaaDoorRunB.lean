/- RunB: StepBase, StepClo, StepWalk. -/
import Derived.Test.YtiifnofghicnaaaDoorRunA
import Derived.Test.YtiifnofghicnaaaDoorQAllx5
namespace Go.Proofs.YtiifnofghicnaaaDoor.PAll
open Go.RowKit Go.Proofs.YtiifnofghicnaaaDoorW.PrintWords Go.Proofs.YtiifnofghicnaaaDoorW.PrintLast Go.Proofs.YtiifnofghicnaaaDoorW.PrintMore
set_option linter.unusedVariables false
/-- A value reads a number, in blocks below b other than g. -/
def RV (g b : Nat) (W : World) (v : Value) (m : Nat) : Prop := Kd.V (Kd.int .i64) 3 W 0 (fun k => k ≠ g ∧ k < b) v (Dig.dg m)
/-- The registers: n cells of block g. -/
def Rg (g b n : Nat) (rs : Nat → Nat) (W : World) : Prop := ∃ cs, W.heap[g]? = some (.cells cs 30 (0, 0)) ∧ n ≤ cs.size ∧ ∀ i, i < n → ∃ v, cs[i]? = some v ∧ RV g b W v (rs i)
def upd (rs : Nat → Nat) (i m : Nat) : Nat → Nat := fun j => if j = i then m else rs j
theorem rg_on {W W' : World} {g : Nat} {o : Obj} (h : W.heap[g]? = some o) (h' : Below W.heap.size W W') : W'.heap[g]? = some o := (h'.block _ (blk_lt h)).trans h
theorem rg_far {W : World} {g : Nat} {o : Obj} (h : W.heap[g]? = some o) {p : Addr} (hp : g ≠ p.block) (u : Value) : (W.setCell p u).heap[g]? = some o := (Below.heap_setCell W p u g hp).trans h
theorem rg_set {W : World} {g t : Nat} {cs : Array Value} {fr : Nat × Nat} (h : W.heap[g]? = some (.cells cs t fr)) (i : Nat) (u : Value) : (W.setCell ⟨g, i, none⟩ u).heap[g]? = some (.cells (cs.setIfInBounds i u) t fr) := by
  simp [World.setCell, Array.getElem?_modify, h]
theorem RV.on {g b : Nat} {W W' : World} {v : Value} {m : Nat} (h : RV g b W v m) (h' : Below W.heap.size W W') : RV g b W' v m := Kd.V_below h h'
theorem RV.alloc {g b : Nat} {W : World} {v : Value} {m : Nat} (h : RV g b W v m) (o : Obj) : RV g b (W.alloc o) v m := Kd.V_alloc h o
theorem RV.drew {g b : Nat} {W : World} {v : Value} {m : Nat} (h : RV g b W v m) : RV g b W.drew v m := Kd.V_drew h
theorem RV.far {g b : Nat} {W : World} {v : Value} {m : Nat} (h : RV g b W v m) {p : Addr} (hp : p.block = g ∨ b ≤ p.block) (u : Value) : RV g b (W.setCell p u) v m :=
  Kd.V_far h (fun k hk => by
    rcases hp with hp | hp
    · rw [hp]; exact hk.1
    · exact Nat.ne_of_lt (Nat.lt_of_lt_of_le hk.2 hp)) u
theorem RV.up {g b b' : Nat} {W : World} {v : Value} {m : Nat} (h : RV g b W v m) (hb : b ≤ b') : RV g b' W v m := Kd.V_mono h (fun k hk => ⟨hk.1, Nat.lt_of_lt_of_le hk.2 hb⟩)
theorem RV.read {g b : Nat} {W : World} {v : Value} {m : Nat} (h : RV g b W v m) : ∃ A c, v = .slice A (Dig.dg m).length c ∧ (Dig.dg m).length ≤ c ∧ ∀ W', Below W.heap.size W W' → Kd.C (Kd.int .i64) W' A (Dig.dg m).length (Dig.dg m) := by
  obtain ⟨A, c, rfl⟩ := Kd.V_slice h
  exact ⟨A, c, rfl, (Kd.V_reads' h).2.1, fun W' hW => (Kd.V_reads' (Kd.V_below h hW)).2.2⟩
theorem RV.of {g base : Nat} {W : World} {v : Value} {m : Nat} (h : Kd.V (Kd.int .i64) 3 W base (fun k => base ≤ k) v (Dig.dg m)) (hg : g < base) : RV g W.heap.size W v m :=
  Kd.V_mono (Kd.V_bound h) (fun k hk => ⟨Nat.ne_of_gt (Nat.lt_of_lt_of_le hg hk.1), hk.2⟩)
theorem Rg.on {g b n : Nat} {rs : Nat → Nat} {W W' : World} (h : Rg g b n rs W) (h' : Below W.heap.size W W') : Rg g b n rs W' := by
  obtain ⟨cs, h1, h2, h3⟩ := h
  exact ⟨cs, rg_on h1 h', h2, fun i hi => let ⟨v, e, r⟩ := h3 i hi; ⟨v, e, r.on h'⟩⟩
theorem Rg.alloc {g b n : Nat} {rs : Nat → Nat} {W : World} (h : Rg g b n rs W) (o : Obj) : Rg g b n rs (W.alloc o) := by
  obtain ⟨cs, h1, h2, h3⟩ := h
  exact ⟨cs, blk_alloc h1 _, h2, fun i hi => let ⟨v, e, r⟩ := h3 i hi; ⟨v, e, r.alloc o⟩⟩
theorem Rg.drew {g b n : Nat} {rs : Nat → Nat} {W : World} (h : Rg g b n rs W) : Rg g b n rs W.drew := by
  obtain ⟨cs, h1, h2, h3⟩ := h
  exact ⟨cs, h1, h2, fun i hi => let ⟨v, e, r⟩ := h3 i hi; ⟨v, e, r.drew⟩⟩
theorem Rg.far {g b n : Nat} {rs : Nat → Nat} {W : World} (h : Rg g b n rs W) {p : Addr} (hp : b ≤ p.block) (hg : g < b) (u : Value) : Rg g b n rs (W.setCell p u) := by
  obtain ⟨cs, h1, h2, h3⟩ := h
  exact ⟨cs, rg_far h1 (Nat.ne_of_lt (Nat.lt_of_lt_of_le hg hp)) u, h2, fun i hi => let ⟨v, e, r⟩ := h3 i hi; ⟨v, e, r.far (Or.inr hp) u⟩⟩
theorem Rg.up {g b b' n : Nat} {rs : Nat → Nat} {W : World} (h : Rg g b n rs W) (hb : b ≤ b') : Rg g b' n rs W := by
  obtain ⟨cs, h1, h2, h3⟩ := h
  exact ⟨cs, h1, h2, fun i hi => let ⟨v, e, r⟩ := h3 i hi; ⟨v, e, r.up hb⟩⟩
theorem Rg.put {g b n : Nat} {rs : Nat → Nat} {W : World} (h : Rg g b n rs W) (i : Nat) (hi : i < n) (v : Value) (m : Nat) (hv : RV g b W v m) : Rg g b n (upd rs i m) (W.setCell ⟨g, i, none⟩ v) := by
  obtain ⟨cs, h1, h2, h3⟩ := h
  refine ⟨_, rg_set h1 i v, by rw [Array.size_setIfInBounds]; exact h2, fun j hj => ?_⟩
  by_cases e : j = i
  · subst e
    refine ⟨v, by rw [Array.getElem?_setIfInBounds_self_of_lt (by omega)], ?_⟩
    unfold upd
    rw [if_pos rfl]
    exact hv.far (Or.inl rfl) v
  · obtain ⟨u, e1, r⟩ := h3 j hj
    refine ⟨u, by rw [Array.getElem?_setIfInBounds_ne (by omega)]; exact e1, ?_⟩
    unfold upd
    rw [if_neg e]
    exact r.far (Or.inl rfl) v
theorem Rg.cell {g b n : Nat} {rs : Nat → Nat} {W : World} (h : Rg g b n rs W) (i : Nat) (hi : i < n) : ∃ v, W.cell? ⟨g, i, none⟩ = some v ∧ W.frozen? ⟨g, i, none⟩ = false ∧ RV g b W v (rs i) := by
  obtain ⟨cs, h1, h2, h3⟩ := h
  obtain ⟨v, e, r⟩ := h3 i hi
  exact ⟨v, by rw [blk_cell h1]; exact e, blk_frozen h1 i, r⟩
theorem Rg.lt {g b n : Nat} {rs : Nat → Nat} {W : World} (h : Rg g b n rs W) : g < W.heap.size := by
  obtain ⟨cs, h1, _⟩ := h
  exact blk_lt h1
end Go.Proofs.YtiifnofghicnaaaDoor.PAll
namespace Go.Proofs.YtiifnofghicnaaaDoor.PAll
open Go.RowKit Go.Proofs.YtiifnofghicnaaaDoorW.PrintWords Go.Proofs.YtiifnofghicnaaaDoorW.PrintLast Go.Proofs.YtiifnofghicnaaaDoorW.PrintMore
set_option linter.unusedVariables false
set_option maxHeartbeats 1000000 in
set_option maxRecDepth 100000 in
theorem step_1 (u v : Bool) (W : World) : Calls Tryd.prog 77 #[.bool u, .bool v] W (fun e W' => e = .returned (.bool ((fun u v => u && v) u v)) ∧ Below W.heap.size W W') := by
  cases u <;> cases v <;>
  · go_enter Tryd.func77, Tryd.ntmps77
    go_wp2
    go_ret
    exact ⟨rfl, Below.refl _ _⟩
set_option maxHeartbeats 1000000 in
set_option maxRecDepth 100000 in
theorem step_2 (u v : Bool) (W : World) : Calls Tryd.prog 78 #[.bool u, .bool v] W (fun e W' => e = .returned (.bool ((fun u v => u || v) u v)) ∧ Below W.heap.size W W') := by
  cases u <;> cases v <;>
  · go_enter Tryd.func78, Tryd.ntmps78
    go_wp2
    go_ret
    exact ⟨rfl, Below.refl _ _⟩
set_option maxHeartbeats 1000000 in
set_option maxRecDepth 100000 in
theorem step_3 (u v : Bool) (W : World) : Calls Tryd.prog 79 #[.bool u, .bool v] W (fun e W' => e = .returned (.bool ((fun u v => u != v) u v)) ∧ Below W.heap.size W W') := by
  cases u <;> cases v <;>
  · go_enter Tryd.func79, Tryd.ntmps79
    go_wp2
    go_ret
    exact ⟨rfl, Below.refl _ _⟩
set_option maxHeartbeats 1000000 in
set_option maxRecDepth 100000 in
theorem step_4 (n i x p q : Nat) (A : Option Addr) (c : Nat) (w : World) (hi : i < 128) (hn : n < 256) (p0 : w.cell? ⟨p, 0, none⟩ = some (.int .i64 (n : Int))) (q0 : w.cell? ⟨q, 0, none⟩ = some (.slice A (Dig.dg x).length c)) (hc : (Dig.dg x).length ≤ c) (hr : Kd.C (Kd.int .i64) w A (Dig.dg x).length (Dig.dg x)) :
    Calls Tryd.prog 81 #[.int .i64 (i : Int), .pointer (some ⟨p, 0, none⟩), .pointer (some ⟨q, 0, none⟩)] w fun e w' => e = .returned (.bool (decide (n < 128) && (decide (n ≤ i) && x.testBit (i - n)))) ∧ Below w.heap.size w w' := by
  by_cases h : n < 128
  · rw [decide_eq_true h, Bool.true_and]
    go_enter Tryd.func81, Tryd.ntmps81
    go_wp2_with fail
    refine (spec_Big_Bit.calls A c _ ((i : Int) - (n : Int)) _ w hr hc (bit_sub x i n hi h)).mono ?_
    rintro e w1 ⟨rfl, hb⟩
    go_wp2
    go_ret
    exact ⟨rfl, hb.below⟩
  · rw [decide_eq_false h, Bool.false_and]
    go_enter Tryd.func81, Tryd.ntmps81
    go_wp2_with fail
    go_ret
    exact ⟨rfl, Below.refl _ _⟩
set_option maxHeartbeats 1000000 in
set_option maxRecDepth 100000 in
theorem step_5 (n i x p q : Nat) (A : Option Addr) (c : Nat) (w : World) (hi : i < 128) (hn : n < 256) (p0 : w.cell? ⟨p, 0, none⟩ = some (.int .i64 (n : Int))) (q0 : w.cell? ⟨q, 0, none⟩ = some (.slice A (Dig.dg x).length c)) (hc : (Dig.dg x).length ≤ c) (hr : Kd.C (Kd.int .i64) w A (Dig.dg x).length (Dig.dg x)) :
    Calls Tryd.prog 82 #[.int .i64 (i : Int), .pointer (some ⟨p, 0, none⟩), .pointer (some ⟨q, 0, none⟩)] w fun e w' => e = .returned (.bool (decide (n < 128) && (x.testBit (i + n)))) ∧ Below w.heap.size w w' := by
  by_cases h : n < 128
  · rw [decide_eq_true h, Bool.true_and]
    go_enter Tryd.func82, Tryd.ntmps82
    go_wp2_with fail
    refine (spec_Big_Bit.calls A c _ ((i : Int) + (n : Int)) _ w hr hc (bit_add x i n hi h)).mono ?_
    rintro e w1 ⟨rfl, hb⟩
    go_wp2
    go_ret
    exact ⟨rfl, hb.below⟩
  · rw [decide_eq_false h, Bool.false_and]
    go_enter Tryd.func82, Tryd.ntmps82
    go_wp2_with fail
    go_ret
    exact ⟨rfl, Below.refl _ _⟩
set_option maxHeartbeats 1000000 in
set_option maxRecDepth 100000 in
theorem step_6 (n i x p q : Nat) (A : Option Addr) (c : Nat) (w : World) (hi : i < 128) (hn : n < 256) (p0 : w.cell? ⟨p, 0, none⟩ = some (.int .i64 (n : Int))) (q0 : w.cell? ⟨q, 0, none⟩ = some (.slice A (Dig.dg x).length c)) (hc : (Dig.dg x).length ≤ c) (hr : Kd.C (Kd.int .i64) w A (Dig.dg x).length (Dig.dg x)) :
    Calls Tryd.prog 83 #[.int .i64 (i : Int), .pointer (some ⟨q, 0, none⟩), .pointer (some ⟨p, 0, none⟩)] w fun e w' => e = .returned (.bool (x.testBit ((i + 256 - n) % 128))) ∧ Below w.heap.size w w' := by
  have hB : Hid (spec_Big_Bit.f (Dig.dg x) (((i : Int) + 256 - (n : Int)) % 128) = some (x.testBit ((i + 256 - n) % 128))) := by
    have e : ((i : Int) + 256 - (n : Int)) % 128 = (((i + 256 - n) % 128 : Nat) : Int) := by omega
    rw [e]
    exact bit_law x _ (by omega)
  generalize x.testBit ((i + 256 - n) % 128) = r at hB ⊢
  go_enter Tryd.func83, Tryd.ntmps83
  go_wp2_with fail
  refine (spec_Big_Bit.calls A c _ (((i : Int) + 256 - (n : Int)) % 128) r w hr hc hB).mono ?_
  rintro e w1 ⟨rfl, hb⟩
  clear hB q0 hr hc
  go_wp2
  go_ret
  exact ⟨rfl, hb.below⟩
set_option maxHeartbeats 1000000 in
set_option maxRecDepth 100000 in
theorem step_7 (i x q : Nat) (A : Option Addr) (c : Nat) (w : World) (hi : i < 128)  (q0 : w.cell? ⟨q, 0, none⟩ = some (.slice A (Dig.dg x).length c)) (hc : (Dig.dg x).length ≤ c) (hr : Kd.C (Kd.int .i64) w A (Dig.dg x).length (Dig.dg x)) :
    Calls Tryd.prog 84 #[.int .i64 (i : Int), .pointer (some ⟨q, 0, none⟩)] w fun e w' => e = .returned (.bool (x.testBit (127 - i))) ∧ Below w.heap.size w w' := by
  have hB : Hid (spec_Big_Bit.f (Dig.dg x) (127 - (i : Int)) = some (x.testBit (127 - i))) := by
    have e : 127 - (i : Int) = ((127 - i : Nat) : Int) := by omega
    rw [e]
    exact bit_law x _ (by omega)
  generalize x.testBit (127 - i) = r at hB ⊢
  go_enter Tryd.func84, Tryd.ntmps84
  go_wp2_with fail
  refine (spec_Big_Bit.calls A c _ (127 - (i : Int)) r w hr hc hB).mono ?_
  rintro e w1 ⟨rfl, hb⟩
  clear hB q0 hr hc
  go_wp2
  go_ret
  exact ⟨rfl, hb.below⟩
set_option maxHeartbeats 1000000 in
set_option maxRecDepth 100000 in
theorem step_8 (i x q : Nat) (A : Option Addr) (c : Nat) (w : World) (hi : i < 128)  (q0 : w.cell? ⟨q, 0, none⟩ = some (.slice A (Dig.dg x).length c)) (hc : (Dig.dg x).length ≤ c) (hr : Kd.C (Kd.int .i64) w A (Dig.dg x).length (Dig.dg x)) :
    Calls Tryd.prog 85 #[.int .i64 (i : Int), .pointer (some ⟨q, 0, none⟩)] w fun e w' => e = .returned (.bool (x.testBit (8 * (15 - i / 8) + i % 8))) ∧ Below w.heap.size w w' := by
  have hB : Hid (spec_Big_Bit.f (Dig.dg x) (8 * (15 - (i : Int) / 8) + (i : Int) % 8) = some (x.testBit (8 * (15 - i / 8) + i % 8))) := by
    have e : 8 * (15 - (i : Int) / 8) + (i : Int) % 8 = ((8 * (15 - i / 8) + i % 8 : Nat) : Int) := by omega
    rw [e]
    exact bit_law x _ (by omega)
  generalize x.testBit (8 * (15 - i / 8) + i % 8) = r at hB ⊢
  go_enter Tryd.func85, Tryd.ntmps85
  go_wp2_with fail
  refine (spec_Big_Bit.calls A c _ (8 * (15 - (i : Int) / 8) + (i : Int) % 8) r w hr hc hB).mono ?_
  rintro e w1 ⟨rfl, hb⟩
  clear hB q0 hr hc
  go_wp2
  go_ret
  exact ⟨rfl, hb.below⟩
set_option maxHeartbeats 1000000 in
set_option maxRecDepth 100000 in
theorem step_9 (i x q : Nat) (A : Option Addr) (c : Nat) (w : World) (hi : i < 128)  (q0 : w.cell? ⟨q, 0, none⟩ = some (.slice A (Dig.dg x).length c)) (hc : (Dig.dg x).length ≤ c) (hr : Kd.C (Kd.int .i64) w A (Dig.dg x).length (Dig.dg x)) :
    Calls Tryd.prog 86 #[.int .i64 (i : Int), .pointer (some ⟨q, 0, none⟩)] w fun e w' => e = .returned (.bool (x.testBit (i))) ∧ Below w.heap.size w w' := by
  have hB : Hid (spec_Big_Bit.f (Dig.dg x) ((i : Int)) = some (x.testBit (i))) := by
    have e : (i : Int) = ((i : Nat) : Int) := by omega
    rw [e]
    exact bit_law x _ (by omega)
  generalize x.testBit (i) = r at hB ⊢
  go_enter Tryd.func86, Tryd.ntmps86
  go_wp2_with fail
  refine (spec_Big_Bit.calls A c _ ((i : Int)) r w hr hc hB).mono ?_
  rintro e w1 ⟨rfl, hb⟩
  clear hB q0 hr hc
  go_wp2
  go_ret
  exact ⟨rfl, hb.below⟩
end Go.Proofs.YtiifnofghicnaaaDoor.PAll
namespace Go.Proofs.YtiifnofghicnaaaDoor.PAll
open Go.RowKit Go.Proofs.YtiifnofghicnaaaDoorW.PrintWords Go.Proofs.YtiifnofghicnaaaDoorW.PrintLast Go.Proofs.YtiifnofghicnaaaDoorW.PrintMore
set_option linter.unusedVariables false
set_option linter.unusedSimpArgs false
/-- Other blocks than g are as they were. -/
def Oth (g : Nat) (w W : World) : Prop := ∀ k, k ≠ g → k < w.heap.size → W.heap[k]? = w.heap[k]?
/-- What a step's answer is, ahead of its cut to 128 bits. -/
def outN (k x y n : Nat) : Nat :=
  if k = 0 then x + y else if k = 1 then x + 340282366920938463463374607431768211456 - y else if k = 2 then x * y
  else if k = 3 then Dig.ofb (fun i => x.testBit i && y.testBit i) 128 else if k = 4 then Dig.ofb (fun i => x.testBit i || y.testBit i) 128 else if k = 5 then Dig.ofb (fun i => x.testBit i != y.testBit i) 128
  else if k = 6 then Dig.ofb (fun i => decide (n < 128) && (decide (n ≤ i) && x.testBit (i - n))) 128 else if k = 7 then Dig.ofb (fun i => decide (n < 128) && (x.testBit (i + n))) 128
  else if k = 8 then Dig.ofb (fun i => x.testBit ((i + 256 - n) % 128)) 128 else if k = 9 then Dig.ofb (fun i => x.testBit (127 - i)) 128 else if k = 10 then Dig.ofb (fun i => x.testBit (8 * (15 - i / 8) + i % 8)) 128
  else if y = 0 then x else x / y
/-- The registers behind a step. -/
def stepN (k x y n a b : Nat) (rs : Nat → Nat) : Nat → Nat := upd (if k = 11 ∧ y ≠ 0 then upd rs b (x % y) else rs) a (Dig.ofb (fun i => (outN k x y n).testBit i) 128)
theorem oth_of {g n : Nat} {w W : World} (h : Below n w W) (hn : w.heap.size ≤ n) : Oth g w W := fun k _ hk => h.block k (Nat.lt_of_lt_of_le hk hn)
theorem Oth.set {g i : Nat} {w W : World} (h : Oth g w W) (v : Value) : Oth g w (W.setCell ⟨g, i, none⟩ v) := fun k hk hl => (Below.heap_setCell W ⟨g, i, none⟩ v k hk).trans (h k hk hl)
theorem Oth.on {g : Nat} {w W W' : World} (h : Oth g w W) (hs : w.heap.size ≤ W.heap.size) (hb : Below W.heap.size W W') : Oth g w W' := fun k hk hl => (hb.block k (Nat.lt_of_lt_of_le hl hs)).trans (h k hk hl)
theorem drew_b (n : Nat) (w : World) : Below n w w.drew := (Below.refl n w).drew
theorem tmod_nat (x n : Nat) : Int.tmod (x : Int) (n : Int) = ((x % n : Nat) : Int) := by
  rw [Int.tmod_eq_emod_of_nonneg (Int.natCast_nonneg x)]
  rfl
set_option maxHeartbeats 4000000 in
set_option maxRecDepth 100000 in
theorem step_walk (g c n : Nat) (rs : Nat → Nat) (kd sa sb sn a b : Nat) (ea : sa % n = a) (eb : sb % n = b) (x y : Nat) (ex : rs a = x) (ey : rs b = y) (hkd : kd < 256) (hsa : sa < 256) (hsb : sb < 256) (hsn : sn < 256) (hn0 : 0 < n) (hn9 : n ≤ 9) (hx : x < 340282366920938463463374607431768211456) (hy : y < 340282366920938463463374607431768211456) (hnx : Dig.nd x ≤ 8) (hny : Dig.nd y ≤ 8) (w : World) (b0 : Nat) (hb0 : b0 ≤ w.heap.size) (hR0 : Rg g b0 n rs w) :
    Calls Tryd.prog 38 #[.slice (some ⟨g, 0, none⟩) n c, .agg #[.int .u8 (kd : Int), .int .u8 (sa : Int), .int .u8 (sb : Int), .int .u8 (sn : Int)]] w fun e w' => e = .returned (.tuple #[]) ∧ (∃ b', b' ≤ w'.heap.size ∧ Rg g b' n (stepN (kd % 12) x y sn a b rs) w') ∧ Below g w w' ∧ Oth g w w' := by
  have hR := hR0.up hb0
  clear hR0 hb0
  have hlt := hR.lt
  have RR := hR.alloc (.cells #[.int .u8 (kd : Int), .int .u8 (sa : Int), .int .u8 (sb : Int), .int .u8 (sn : Int)] 60)
  have PS := (MapKept.heap_alloc w (.cells #[.int .u8 (kd : Int), .int .u8 (sa : Int), .int .u8 (sb : Int), .int .u8 (sn : Int)] 60)).1
  have BW := (Below.refl w.heap.size w).alloc (Nat.le_refl _) (.cells #[.int .u8 (kd : Int), .int .u8 (sa : Int), .int .u8 (sb : Int), .int .u8 (sn : Int)] 60)
  have hnz : (n = 0) = False := eq_false (by omega)
  have wsa : wrap64 (sa : Int) = (sa : Int) := by unfold wrap64; omega
  have wsb : wrap64 (sb : Int) = (sb : Int) := by unfold wrap64; omega
  have wsn : wrap64 (sn : Int) = (sn : Int) := by unfold wrap64; omega
  have hta : Int.tmod (sa : Int) (n : Int) = (a : Int) := by rw [tmod_nat, ea]
  have htb : Int.tmod (sb : Int) (n : Int) = (b : Int) := by rw [tmod_nat, eb]
  have E0 := Lib.hid (And.intro RR (And.intro PS BW))
  clear RR PS BW
  go_enter Tryd.func38, Tryd.ntmps38
  go_wp2_with fail
  obtain ⟨RR, PS, BW⟩ := E0.out
  clear E0
  generalize hps : w.heap.size = ps at RR PS BW hR hlt ⊢
  generalize w.alloc (.cells #[.int .u8 (kd : Int), .int .u8 (sa : Int), .int .u8 (sb : Int), .int .u8 (sn : Int)] 60) = V0 at RR PS BW ⊢
  refine start_ (n := 14) (S := fun w' => w'.cell? ⟨ps, 1, none⟩ = some (.int .u8 (sa : Int)) ∧ w'.cell? ⟨ps, 2, none⟩ = some (.int .u8 (sb : Int))) (ds := []) #[false, false, false, false, false, false, false, false, false, false, false, false, false, false] (by kernel_rfl) rfl rfl ⟨(blk_cell PS 1).trans rfl, (blk_cell PS 2).trans rfl⟩ (fun hHeld => ?_)
  replace RR := RR.drew
  replace PS : V0.drew.heap[ps]? = _ := PS
  replace BW := BW.drew
  generalize V0.drew = V1 at RR PS BW hHeld ⊢
  refine pure_ (i := 0) (N := some 10) (v := ?_) (a' := ?_) #[true, false, false, false, false, false, false, false, false, false, false, false, false, false] rfl rfl (by kernel_rfl) (fun _ _ _ h => h) (Or.inl ⟨by rfl, ?_⟩) ?_ ?_
  rotate_left
  · intro w'
    go_simp
    with_reducible rfl
  rotate_left
  · simp only [Act.put, List.setIfInBounds_toArray, List.set_cons_zero, List.set_cons_succ, i64_w, i32_w]
    rfl
  refine pure_ (i := 3) (N := some 13) (v := ?_) (a' := ?_) #[true, false, false, true, false, false, false, false, false, false, false, false, false, false] rfl rfl (by kernel_rfl) (fun _ _ _ h => h) (Or.inl ⟨by rfl, ?_⟩) ?_ ?_
  rotate_left
  · intro w'
    go_simp
    with_reducible rfl
  rotate_left
  · simp only [Act.put, List.setIfInBounds_toArray, List.set_cons_zero, List.set_cons_succ, i64_w, i32_w]
    rfl
  refine pure_ (i := 4) (N := some 14) (v := ?_) (a' := ?_) #[true, false, false, true, true, false, false, false, false, false, false, false, false, false] rfl rfl (by kernel_rfl) (fun _ _ _ h => h) (Or.inl ⟨by rfl, ?_⟩) ?_ ?_
  rotate_left
  · intro w'
    go_simp
    with_reducible rfl
  rotate_left
  · simp only [Act.put, List.setIfInBounds_toArray, List.set_cons_zero, List.set_cons_succ, i64_w, i32_w]
    rfl
  refine pure_ (i := 6) (N := some 16) (v := ?_) (a' := ?_) #[true, false, false, true, true, false, true, false, false, false, false, false, false, false] rfl rfl (by kernel_rfl) (fun _ _ _ h => h) (Or.inl ⟨by rfl, ?_⟩) ?_ ?_
  rotate_left
  · intro w'
    go_simp
    with_reducible rfl
  rotate_left
  · simp only [Act.put, List.setIfInBounds_toArray, List.set_cons_zero, List.set_cons_succ, i64_w, i32_w]
    rfl
  refine pure_ (i := 9) (N := some 19) (v := ?_) (a' := ?_) #[true, false, false, true, true, false, true, false, false, true, false, false, false, false] rfl rfl (by kernel_rfl) (fun _ _ _ h => h) (Or.inl ⟨by rfl, ?_⟩) ?_ ?_
  rotate_left
  · intro w'
    go_simp
    with_reducible rfl
  rotate_left
  · simp only [Act.put, List.setIfInBounds_toArray, List.set_cons_zero, List.set_cons_succ, i64_w, i32_w]
    rfl
  refine pure_ (i := 10) (N := some 20) (v := ?_) (a' := ?_) #[true, false, false, true, true, false, true, false, false, true, true, false, false, false] rfl rfl (by kernel_rfl) (fun _ _ _ h => h) (Or.inl ⟨by rfl, ?_⟩) ?_ ?_
  rotate_left
  · intro w'
    go_simp
    with_reducible rfl
  rotate_left
  · simp only [Act.put, List.setIfInBounds_toArray, List.set_cons_zero, List.set_cons_succ, i64_w, i32_w]
    rfl
  refine take_ (i := 1) (N := some 11) (v := ?_) (a' := ?_) #[true, true, false, true, true, false, true, false, false, true, true, false, false, false] rfl rfl (by kernel_rfl) (fun _ _ _ h => h) (Or.inl ⟨by rfl, ?_⟩) hHeld ?_ ?_
  rotate_left
  · rintro w' ⟨s0, s1⟩
    go_simp
    with_reducible rfl
  rotate_left
  · simp only [Act.put, List.setIfInBounds_toArray, List.set_cons_zero, List.set_cons_succ, i64_w, i32_w]
    rfl
  refine pure_ (i := 2) (N := some 12) (v := ?_) (a' := ?_) #[true, true, true, true, true, false, true, false, false, true, true, false, false, false] rfl rfl (by kernel_rfl) (fun _ _ _ h => h) (Or.inl ⟨by rfl, ?_⟩) ?_ ?_
  rotate_left
  · intro w'
    go_simp
    with_reducible rfl
  rotate_left
  · simp only [Act.put, List.setIfInBounds_toArray, List.set_cons_zero, List.set_cons_succ, i64_w, i32_w]
    rfl
  refine pure_ (i := 5) (N := some 15) (v := ?_) (a' := ?_) #[true, true, true, true, true, true, true, false, false, true, true, false, false, false] rfl rfl (by kernel_rfl) (fun _ _ _ h => h) (Or.inl ⟨by rfl, ?_⟩) ?_ ?_
  rotate_left
  · intro w'
    go_simp
    with_reducible rfl
  rotate_left
  · simp only [Act.put, List.setIfInBounds_toArray, List.set_cons_zero, List.set_cons_succ, i64_w, i32_w]
    rfl
  refine pure_ (i := 12) (N := some 4) (v := ?_) (a' := ?_) #[true, true, true, true, true, true, true, false, false, true, true, false, true, false] rfl rfl (by kernel_rfl) (fun _ _ _ h => h) (Or.inl ⟨by rfl, ?_⟩) ?_ ?_
  rotate_left
  · intro w'
    go_simp
    with_reducible rfl
  rotate_left
  · simp only [Act.put, List.setIfInBounds_toArray, List.set_cons_zero, List.set_cons_succ, i64_w, i32_w]
    rfl
  refine take_ (i := 7) (N := some 17) (v := ?_) (a' := ?_) #[true, true, true, true, true, true, true, true, false, true, true, false, true, false] rfl rfl (by kernel_rfl) (fun _ _ _ h => h) (Or.inl ⟨by rfl, ?_⟩) hHeld ?_ ?_
  rotate_left
  · rintro w' ⟨s0, s1⟩
    go_simp
    with_reducible rfl
  rotate_left
  · simp only [Act.put, List.setIfInBounds_toArray, List.set_cons_zero, List.set_cons_succ, i64_w, i32_w]
    rfl
  refine pure_ (i := 8) (N := some 18) (v := ?_) (a' := ?_) #[true, true, true, true, true, true, true, true, true, true, true, false, true, false] rfl rfl (by kernel_rfl) (fun _ _ _ h => h) (Or.inl ⟨by rfl, ?_⟩) ?_ ?_
  rotate_left
  · intro w'
    go_simp
    with_reducible rfl
  rotate_left
  · simp only [Act.put, List.setIfInBounds_toArray, List.set_cons_zero, List.set_cons_succ, i64_w, i32_w]
    rfl
  refine pure_ (i := 11) (N := some 21) (v := ?_) (a' := ?_) #[true, true, true, true, true, true, true, true, true, true, true, true, true, false] rfl rfl (by kernel_rfl) (fun _ _ _ h => h) (Or.inl ⟨by rfl, ?_⟩) ?_ ?_
  rotate_left
  · intro w'
    go_simp
    with_reducible rfl
  rotate_left
  · simp only [Act.put, List.setIfInBounds_toArray, List.set_cons_zero, List.set_cons_succ, i64_w, i32_w]
    rfl
  refine pure_ (i := 13) (N := some 5) (v := ?_) (a' := ?_) #[true, true, true, true, true, true, true, true, true, true, true, true, true, true] rfl rfl (by kernel_rfl) (fun _ _ _ h => h) (Or.inl ⟨by rfl, ?_⟩) ?_ ?_
  rotate_left
  · intro w'
    go_simp
    with_reducible rfl
  rotate_left
  · simp only [Act.put, List.setIfInBounds_toArray, List.set_cons_zero, List.set_cons_succ, i64_w, i32_w]
    rfl
  refine done_ (by kernel_rfl) ?_
  go_wp2_with fail
  have hma : a < n := by rw [← ea]; exact Nat.mod_lt _ hn0
  have hmb : b < n := by rw [← eb]; exact Nat.mod_lt _ hn0
  obtain ⟨va, ca, _, rva⟩ := RR.cell _ hma
  obtain ⟨vb, cb, _, rvb⟩ := RR.cell _ hmb
  rw [ex] at rva
  rw [ey] at rvb
  obtain ⟨Aa, la, rfl, hla, hra⟩ := rva.read
  obtain ⟨Ab, lb, rfl, hlb, hrb⟩ := rvb.read
  refine start_ (n := 16) (S := fun w' => w'.cell? ⟨g, a, none⟩ = some (.slice Aa (Dig.dg x).length la) ∧ w'.cell? ⟨g, b, none⟩ = some (.slice Ab (Dig.dg y).length lb) ∧ w'.cell? ⟨ps, 3, none⟩ = some (.int .u8 (sn : Int))) (ds := []) #[false, false, false, false, false, false, false, false, false, false, false, false, false, false, false, false] (by kernel_rfl) rfl rfl ⟨ca, cb, (blk_cell PS 3).trans rfl⟩ (fun hHeld => ?_)
  replace RR := RR.drew
  replace PS : V1.drew.heap[ps]? = _ := PS
  replace BW := BW.drew
  replace ca : V1.drew.cell? _ = _ := ca
  replace cb : V1.drew.cell? _ = _ := cb
  replace hra : ∀ W', Below V1.drew.heap.size V1.drew W' → _ := fun W' h => hra W' ((drew_b _ V1).trans h)
  replace hrb : ∀ W', Below V1.drew.heap.size V1.drew W' → _ := fun W' h => hrb W' ((drew_b _ V1).trans h)
  replace rva := rva.drew
  generalize V1.drew = V2 at RR PS BW ca cb hra hrb rva hHeld ⊢
  have cs3 := (blk_cell PS 3).trans (show _ = some (.int .u8 (sn : Int)) from rfl)
  have BW2 := Below.refl V2.heap.size V2
  refine pure_ (i := 0) (N := some 22) (v := ?_) (a' := ?_) #[true, false, false, false, false, false, false, false, false, false, false, false, false, false, false, false] rfl rfl (by kernel_rfl) (fun _ _ _ h => h) (Or.inl ⟨by rfl, ?_⟩) ?_ ?_
  rotate_left
  · intro w'
    go_simp
    with_reducible rfl
  rotate_left
  · simp only [Act.put, List.setIfInBounds_toArray, List.set_cons_zero, List.set_cons_succ, i64_w, i32_w]
    rfl
  refine pure_ (i := 1) (N := some 23) (v := ?_) (a' := ?_) #[true, true, false, false, false, false, false, false, false, false, false, false, false, false, false, false] rfl rfl (by kernel_rfl) (fun _ _ _ h => h) (Or.inl ⟨by rfl, ?_⟩) ?_ ?_
  rotate_left
  · intro w'
    go_simp
    with_reducible rfl
  rotate_left
  · simp only [Act.put, List.setIfInBounds_toArray, List.set_cons_zero, List.set_cons_succ, i64_w, i32_w]
    rfl
  refine pure_ (i := 2) (N := some 24) (v := ?_) (a' := ?_) #[true, true, true, false, false, false, false, false, false, false, false, false, false, false, false, false] rfl rfl (by kernel_rfl) (fun _ _ _ h => h) (Or.inl ⟨by rfl, ?_⟩) ?_ ?_
  rotate_left
  · intro w'
    go_simp
    with_reducible rfl
  rotate_left
  · simp only [Act.put, List.setIfInBounds_toArray, List.set_cons_zero, List.set_cons_succ, i64_w, i32_w]
    rfl
  refine pure_ (i := 4) (N := some 26) (v := ?_) (a' := ?_) #[true, true, true, false, true, false, false, false, false, false, false, false, false, false, false, false] rfl rfl (by kernel_rfl) (fun _ _ _ h => h) (Or.inl ⟨by rfl, ?_⟩) ?_ ?_
  rotate_left
  · intro w'
    go_simp
    with_reducible rfl
  rotate_left
  · simp only [Act.put, List.setIfInBounds_toArray, List.set_cons_zero, List.set_cons_succ, i64_w, i32_w]
    rfl
  refine pure_ (i := 5) (N := some 27) (v := ?_) (a' := ?_) #[true, true, true, false, true, true, false, false, false, false, false, false, false, false, false, false] rfl rfl (by kernel_rfl) (fun _ _ _ h => h) (Or.inl ⟨by rfl, ?_⟩) ?_ ?_
  rotate_left
  · intro w'
    go_simp
    with_reducible rfl
  rotate_left
  · simp only [Act.put, List.setIfInBounds_toArray, List.set_cons_zero, List.set_cons_succ, i64_w, i32_w]
    rfl
  refine pure_ (i := 6) (N := some 28) (v := ?_) (a' := ?_) #[true, true, true, false, true, true, true, false, false, false, false, false, false, false, false, false] rfl rfl (by kernel_rfl) (fun _ _ _ h => h) (Or.inl ⟨by rfl, ?_⟩) ?_ ?_
  rotate_left
  · intro w'
    go_simp
    with_reducible rfl
  rotate_left
  · simp only [Act.put, List.setIfInBounds_toArray, List.set_cons_zero, List.set_cons_succ, i64_w, i32_w]
    rfl
  refine pure_ (i := 8) (N := some 30) (v := ?_) (a' := ?_) #[true, true, true, false, true, true, true, false, true, false, false, false, false, false, false, false] rfl rfl (by kernel_rfl) (fun _ _ _ h => h) (Or.inl ⟨by rfl, ?_⟩) ?_ ?_
  rotate_left
  · intro w'
    go_simp
    with_reducible rfl
  rotate_left
  · simp only [Act.put, List.setIfInBounds_toArray, List.set_cons_zero, List.set_cons_succ, i64_w, i32_w]
    rfl
  refine take_ (i := 3) (N := some 25) (v := ?_) (a' := ?_) #[true, true, true, true, true, true, true, false, true, false, false, false, false, false, false, false] rfl rfl (by kernel_rfl) (fun _ _ _ h => h) (Or.inl ⟨by rfl, ?_⟩) hHeld ?_ ?_
  rotate_left
  · rintro w' ⟨s0, s1, s2⟩
    go_simp
    with_reducible rfl
  rotate_left
  · simp only [Act.put, List.setIfInBounds_toArray, List.set_cons_zero, List.set_cons_succ, i64_w, i32_w]
    rfl
  refine take_ (i := 7) (N := some 29) (v := ?_) (a' := ?_) #[true, true, true, true, true, true, true, true, true, false, false, false, false, false, false, false] rfl rfl (by kernel_rfl) (fun _ _ _ h => h) (Or.inl ⟨by rfl, ?_⟩) hHeld ?_ ?_
  rotate_left
  · rintro w' ⟨s0, s1, s2⟩
    go_simp
    with_reducible rfl
  rotate_left
  · simp only [Act.put, List.setIfInBounds_toArray, List.set_cons_zero, List.set_cons_succ, i64_w, i32_w]
    rfl
  refine take_ (i := 9) (N := some 31) (v := ?_) (a' := ?_) #[true, true, true, true, true, true, true, true, true, true, false, false, false, false, false, false] rfl rfl (by kernel_rfl) (fun _ _ _ h => h) (Or.inl ⟨by rfl, ?_⟩) hHeld ?_ ?_
  rotate_left
  · rintro w' ⟨s0, s1, s2⟩
    go_simp
    with_reducible rfl
  rotate_left
  · simp only [Act.put, List.setIfInBounds_toArray, List.set_cons_zero, List.set_cons_succ, i64_w, i32_w]
    rfl
  refine pure_ (i := 10) (N := some 32) (v := ?_) (a' := ?_) #[true, true, true, true, true, true, true, true, true, true, true, false, false, false, false, false] rfl rfl (by kernel_rfl) (fun _ _ _ h => h) (Or.inl ⟨by rfl, ?_⟩) ?_ ?_
  rotate_left
  · intro w'
    go_simp
    with_reducible rfl
  rotate_left
  · simp only [Act.put, List.setIfInBounds_toArray, List.set_cons_zero, List.set_cons_succ, i64_w, i32_w]
    rfl
  refine join_ (σ := Nat × Nat) 3 #[true, true, true, true, true, true, true, true, true, true, true, true, true, false, false, false] (fun s => [(6, .pointer (some ⟨s.1, 0, none⟩)), (8, .pointer (some ⟨s.2, 0, none⟩))]) (fun s w' => Below V2.heap.size V2 w' ∧ V2.heap.size ≤ s.1 ∧ w'.heap[s.1]? = some (.cells #[.slice none 0 0] 30 (0, 0)) ∧ V2.heap.size ≤ s.2 ∧ w'.heap[s.2]? = some (.cells #[.int .i64 0] 3 (0, 0)) ∧ s.1 ≠ s.2) ?_ ?_
  rotate_left
  · intro hJ11_12
    refine join_ (σ := Nat × Nat) 4 #[true, true, true, true, true, true, true, true, true, true, true, true, false, false, false, false] (fun s => [(6, .pointer (some ⟨s.1, 0, none⟩))]) (fun s w' => Below V2.heap.size V2 w' ∧ V2.heap.size ≤ s.1 ∧ w'.heap[s.1]? = some (.cells #[.slice none 0 0] 30 (0, 0))) ?_ ?_
    rotate_left
    · intro hJ11
      refine join_ (σ := Nat × Nat) 4 #[true, true, true, true, true, true, true, true, true, true, true, false, true, false, false, false] (fun s => [(8, .pointer (some ⟨s.2, 0, none⟩))]) (fun s w' => Below V2.heap.size V2 w' ∧ V2.heap.size ≤ s.2 ∧ w'.heap[s.2]? = some (.cells #[.int .i64 0] 3 (0, 0))) ?_ ?_
      rotate_left
      · intro hJ12
        refine two_ (i := 11) (j := 12) (Ni := some 6) (Nj := some 8) #[true, true, true, true, true, true, true, true, true, true, true, true, false, false, false, false] #[true, true, true, true, true, true, true, true, true, true, true, false, true, false, false, false] rfl rfl rfl rfl (by kernel_rfl) (by decide) (by decide) (fun K hK => ?_) (fun K hK => ?_)
        · skip
          refine value_ (w1 := ?_) (v := ?_) (by rfl) rfl ?_ ?_
          rotate_left 2
          · go_simp
            constructor
            · rfl
            · rfl
          refine hK.out _ _ ⟨(((BW2.trans (((Below.refl _ _).alloc (Nat.le_refl _) _).mono BW2.size)).cell (World.block_lt_of_cell? V2 _ ca)).trans ca), (((BW2.trans (((Below.refl _ _).alloc (Nat.le_refl _) _).mono BW2.size)).cell (World.block_lt_of_cell? V2 _ cb)).trans cb), (((BW2.trans (((Below.refl _ _).alloc (Nat.le_refl _) _).mono BW2.size)).cell (World.block_lt_of_cell? V2 _ cs3)).trans cs3)⟩ (fun hHeld => ?_)
          clear hK K
          refine norm_ (a' := ?_) ?_ ?_
          rotate_left
          · show Act.put _ (some 6) _ = _
            simp only [Act.put, List.setIfInBounds_toArray, List.set_cons_zero, List.set_cons_succ, i64_w, i32_w]
            rfl
          exact norm_ (by first | (simp only [putAll, Act.put, List.setIfInBounds_toArray, List.set_cons_zero, List.set_cons_succ]; done) | (simp only [putAll, Act.put, List.setIfInBounds_toArray, List.set_cons_zero, List.set_cons_succ]; rfl)) (hJ11 ⟨_, 0⟩ _ ⟨(BW2.trans (((Below.refl _ _).alloc (Nat.le_refl _) _).mono BW2.size)), BW2.size, (MapKept.heap_alloc _ _).1⟩)
        · skip
          refine value_ (w1 := ?_) (v := ?_) (by rfl) rfl ?_ ?_
          rotate_left 2
          · go_simp
            constructor
            · rfl
            · rfl
          refine hK.out _ _ ⟨(((BW2.trans (((Below.refl _ _).alloc (Nat.le_refl _) _).mono BW2.size)).cell (World.block_lt_of_cell? V2 _ ca)).trans ca), (((BW2.trans (((Below.refl _ _).alloc (Nat.le_refl _) _).mono BW2.size)).cell (World.block_lt_of_cell? V2 _ cb)).trans cb), (((BW2.trans (((Below.refl _ _).alloc (Nat.le_refl _) _).mono BW2.size)).cell (World.block_lt_of_cell? V2 _ cs3)).trans cs3)⟩ (fun hHeld => ?_)
          clear hK K
          refine norm_ (a' := ?_) ?_ ?_
          rotate_left
          · show Act.put _ (some 8) _ = _
            simp only [Act.put, List.setIfInBounds_toArray, List.set_cons_zero, List.set_cons_succ, i64_w, i32_w]
            rfl
          exact norm_ (by first | (simp only [putAll, Act.put, List.setIfInBounds_toArray, List.set_cons_zero, List.set_cons_succ]; done) | (simp only [putAll, Act.put, List.setIfInBounds_toArray, List.set_cons_zero, List.set_cons_succ]; rfl)) (hJ12 ⟨0, _⟩ _ ⟨(BW2.trans (((Below.refl _ _).alloc (Nat.le_refl _) _).mono BW2.size)), BW2.size, (MapKept.heap_alloc _ _).1⟩)
      · skip
        rintro ⟨px, pn⟩ W ⟨BW2, l8, h8⟩
        replace BW2 : Below V2.heap.size V2 W := BW2
        replace h8 : W.heap[pn]? = some (.cells #[.int .i64 0] 3 (0, 0)) := h8
        replace l8 : V2.heap.size ≤ pn := l8
        have hHeld : W.cell? ⟨g, a, none⟩ = some (.slice Aa (Dig.dg x).length la) ∧ W.cell? ⟨g, b, none⟩ = some (.slice Ab (Dig.dg y).length lb) ∧ W.cell? ⟨ps, 3, none⟩ = some (.int .u8 (sn : Int)) := ⟨((BW2.cell (World.block_lt_of_cell? V2 _ ca)).trans ca), ((BW2.cell (World.block_lt_of_cell? V2 _ cb)).trans cb), ((BW2.cell (World.block_lt_of_cell? V2 _ cs3)).trans cs3)⟩
        refine norm_ (a' := ?_) ?_ ?_
        rotate_left
        · simp only [putAll, Act.put, List.setIfInBounds_toArray, List.set_cons_zero, List.set_cons_succ]
          rfl
        refine one_ (i := 11) (N := some 6) #[true, true, true, true, true, true, true, true, true, true, true, true, true, false, false, false] rfl rfl (by kernel_rfl) (by decide) (fun K hK => ?_)
        refine value_ (w1 := ?_) (v := ?_) (by rfl) rfl ?_ ?_
        rotate_left 2
        · go_simp
          constructor
          · rfl
          · rfl
        refine hK.out _ _ ⟨(((BW2.trans (((Below.refl _ _).alloc (Nat.le_refl _) _).mono BW2.size)).cell (World.block_lt_of_cell? V2 _ ca)).trans ca), (((BW2.trans (((Below.refl _ _).alloc (Nat.le_refl _) _).mono BW2.size)).cell (World.block_lt_of_cell? V2 _ cb)).trans cb), (((BW2.trans (((Below.refl _ _).alloc (Nat.le_refl _) _).mono BW2.size)).cell (World.block_lt_of_cell? V2 _ cs3)).trans cs3)⟩ (fun hHeld => ?_)
        clear hK K
        refine norm_ (a' := ?_) ?_ ?_
        rotate_left
        · show Act.put _ (some 6) _ = _
          simp only [Act.put, List.setIfInBounds_toArray, List.set_cons_zero, List.set_cons_succ, i64_w, i32_w]
          rfl
        exact norm_ (by first | (simp only [putAll, Act.put, List.setIfInBounds_toArray, List.set_cons_zero, List.set_cons_succ]; done) | (simp only [putAll, Act.put, List.setIfInBounds_toArray, List.set_cons_zero, List.set_cons_succ]; rfl)) (hJ11_12 ⟨_, pn⟩ _ ⟨(BW2.trans (((Below.refl _ _).alloc (Nat.le_refl _) _).mono BW2.size)), BW2.size, (MapKept.heap_alloc _ _).1, l8, blk_alloc h8 _, (Nat.ne_of_gt (blk_lt h8))⟩)
    · skip
      rintro ⟨px, pn⟩ W ⟨BW2, l6, h6⟩
      replace BW2 : Below V2.heap.size V2 W := BW2
      replace h6 : W.heap[px]? = some (.cells #[.slice none 0 0] 30 (0, 0)) := h6
      replace l6 : V2.heap.size ≤ px := l6
      have hHeld : W.cell? ⟨g, a, none⟩ = some (.slice Aa (Dig.dg x).length la) ∧ W.cell? ⟨g, b, none⟩ = some (.slice Ab (Dig.dg y).length lb) ∧ W.cell? ⟨ps, 3, none⟩ = some (.int .u8 (sn : Int)) := ⟨((BW2.cell (World.block_lt_of_cell? V2 _ ca)).trans ca), ((BW2.cell (World.block_lt_of_cell? V2 _ cb)).trans cb), ((BW2.cell (World.block_lt_of_cell? V2 _ cs3)).trans cs3)⟩
      refine norm_ (a' := ?_) ?_ ?_
      rotate_left
      · simp only [putAll, Act.put, List.setIfInBounds_toArray, List.set_cons_zero, List.set_cons_succ]
        rfl
      refine one_ (i := 12) (N := some 8) #[true, true, true, true, true, true, true, true, true, true, true, true, true, false, false, false] rfl rfl (by kernel_rfl) (by decide) (fun K hK => ?_)
      refine value_ (w1 := ?_) (v := ?_) (by rfl) rfl ?_ ?_
      rotate_left 2
      · go_simp
        constructor
        · rfl
        · rfl
      refine hK.out _ _ ⟨(((BW2.trans (((Below.refl _ _).alloc (Nat.le_refl _) _).mono BW2.size)).cell (World.block_lt_of_cell? V2 _ ca)).trans ca), (((BW2.trans (((Below.refl _ _).alloc (Nat.le_refl _) _).mono BW2.size)).cell (World.block_lt_of_cell? V2 _ cb)).trans cb), (((BW2.trans (((Below.refl _ _).alloc (Nat.le_refl _) _).mono BW2.size)).cell (World.block_lt_of_cell? V2 _ cs3)).trans cs3)⟩ (fun hHeld => ?_)
      clear hK K
      refine norm_ (a' := ?_) ?_ ?_
      rotate_left
      · show Act.put _ (some 8) _ = _
        simp only [Act.put, List.setIfInBounds_toArray, List.set_cons_zero, List.set_cons_succ, i64_w, i32_w]
        rfl
      exact norm_ (by first | (simp only [putAll, Act.put, List.setIfInBounds_toArray, List.set_cons_zero, List.set_cons_succ]; done) | (simp only [putAll, Act.put, List.setIfInBounds_toArray, List.set_cons_zero, List.set_cons_succ]; rfl)) (hJ11_12 ⟨px, _⟩ _ ⟨(BW2.trans (((Below.refl _ _).alloc (Nat.le_refl _) _).mono BW2.size)), l6, blk_alloc h6 _, BW2.size, (MapKept.heap_alloc _ _).1, (Nat.ne_of_lt (blk_lt h6))⟩)
  rintro ⟨px, pn⟩ W ⟨BW2, l6, h6, l8, h8, nn⟩
  replace BW2 : Below V2.heap.size V2 W := BW2
  replace h6 : W.heap[px]? = some (.cells #[.slice none 0 0] 30 (0, 0)) := h6
  replace l6 : V2.heap.size ≤ px := l6
  replace h8 : W.heap[pn]? = some (.cells #[.int .i64 0] 3 (0, 0)) := h8
  replace l8 : V2.heap.size ≤ pn := l8
  replace nn : px ≠ pn := nn
  have hHeld : W.cell? ⟨g, a, none⟩ = some (.slice Aa (Dig.dg x).length la) ∧ W.cell? ⟨g, b, none⟩ = some (.slice Ab (Dig.dg y).length lb) ∧ W.cell? ⟨ps, 3, none⟩ = some (.int .u8 (sn : Int)) := ⟨((BW2.cell (World.block_lt_of_cell? V2 _ ca)).trans ca), ((BW2.cell (World.block_lt_of_cell? V2 _ cb)).trans cb), ((BW2.cell (World.block_lt_of_cell? V2 _ cs3)).trans cs3)⟩
  refine norm_ (a' := ?_) ?_ ?_
  rotate_left
  · simp only [putAll, Act.put, List.setIfInBounds_toArray, List.set_cons_zero, List.set_cons_succ]
    rfl
  refine one_ (i := 13) (N := none) #[true, true, true, true, true, true, true, true, true, true, true, true, true, true, false, false] rfl rfl (by kernel_rfl) (by decide) (fun K hK => ?_)
  have c0 := (blk_cell h6 0).trans (show _ = some (.slice none 0 0) from rfl)
  have f0 := blk_frozen h6 0
  refine skip_ (w1 := ?_) (by rfl) rfl ?_ ?_
  rotate_left
  · go_simp
    rfl
  clear c0 f0
  generalize hW : World.setCell _ _ _ = W5
  have k6 : W5.heap[px]? = some (.cells #[.slice Aa (Dig.dg x).length la] 30 (0, 0)) := by
    rw [← hW]
    exact blk_put h6 0 _ rfl
  have k8 : W5.heap[pn]? = some (.cells #[.int .i64 0] 3 (0, 0)) := by
    rw [← hW]
    exact rg_far h8 (Ne.symm nn) _
  have BW3 : Below V2.heap.size V2 W5 := by
    rw [← hW]
    exact BW2.setCell (p := ⟨px, 0, none⟩) l6 _
  clear hW BW2 h6 h8
  have BW2 := BW3
  have h6 := k6
  have h8 := k8
  clear BW3 k6 k8
  refine hK.out _ _ ⟨((BW2.cell (World.block_lt_of_cell? V2 _ ca)).trans ca), ((BW2.cell (World.block_lt_of_cell? V2 _ cb)).trans cb), ((BW2.cell (World.block_lt_of_cell? V2 _ cs3)).trans cs3)⟩ (fun hHeld => ?_)
  clear hK K
  refine pure_ (i := 14) (N := some 7) (v := ?_) (a' := ?_) #[true, true, true, true, true, true, true, true, true, true, true, true, true, true, true, false] rfl rfl (by kernel_rfl) (fun _ _ _ h => h) (Or.inl ⟨by rfl, ?_⟩) ?_ ?_
  rotate_left
  · intro w'
    go_simp
    with_reducible rfl
  rotate_left
  · simp only [Act.put, List.setIfInBounds_toArray, List.set_cons_zero, List.set_cons_succ, i64_w, i32_w]
    rfl
  refine one_ (i := 15) (N := none) #[true, true, true, true, true, true, true, true, true, true, true, true, true, true, true, true] rfl rfl (by kernel_rfl) (by decide) (fun K hK => ?_)
  have c0 := (blk_cell h8 0).trans (show _ = some (.int .i64 0) from rfl)
  have f0 := blk_frozen h8 0
  refine skip_ (w1 := ?_) (by rfl) rfl ?_ ?_
  rotate_left
  · go_simp
    rfl
  clear c0 f0
  generalize hW : World.setCell _ _ _ = W6
  have k6 : W6.heap[px]? = some (.cells #[.slice Aa (Dig.dg x).length la] 30 (0, 0)) := by
    rw [← hW]
    exact rg_far h6 nn _
  have k8 : W6.heap[pn]? = some (.cells #[.int .i64 (sn : Int)] 3 (0, 0)) := by
    rw [← hW]
    exact blk_put h8 0 _ rfl
  have BW3 : Below V2.heap.size V2 W6 := by
    rw [← hW]
    exact BW2.setCell (p := ⟨pn, 0, none⟩) l8 _
  clear hW BW2 h6 h8
  have BW2 := BW3
  have h6 := k6
  have h8 := k8
  clear BW3 k6 k8
  refine hK.out _ _ ⟨((BW2.cell (World.block_lt_of_cell? V2 _ ca)).trans ca), ((BW2.cell (World.block_lt_of_cell? V2 _ cb)).trans cb), ((BW2.cell (World.block_lt_of_cell? V2 _ cs3)).trans cs3)⟩ (fun hHeld => ?_)
  clear hK K
  refine done_ (by kernel_rfl) ?_
  have hps2 : ps < V2.heap.size := blk_lt PS
  have BW6 := BW.trans (BW2.mono (Nat.le_of_lt hps2))
  have PS6 := (BW2.block _ (blk_lt PS)).trans PS
  have RR6 := RR.on BW2
  have hra6 : ∀ W', Below W6.heap.size W6 W' → Kd.C (Kd.int .i64) W' Aa (Dig.dg x).length (Dig.dg x) := fun W' h => hra W' (BW2.trans (h.mono BW2.size))
  have hrb6 : ∀ W', Below W6.heap.size W6 W' → Kd.C (Kd.int .i64) W' Ab (Dig.dg y).length (Dig.dg y) := fun W' h => hrb W' (BW2.trans (h.mono BW2.size))
  have rva6 := rva.on BW2
  have hpx : ps ≤ px := by omega
  have hpn : ps ≤ pn := by omega
  have c6 := (blk_cell h6 0).trans (show _ = some (.slice Aa (Dig.dg x).length la) from rfl)
  have hpo6 : px < W6.heap.size ∧ pn < W6.heap.size := ⟨blk_lt h6, blk_lt h8⟩
  have E6 := Lib.hid (And.intro RR6 (And.intro PS6 (And.intro h6 (And.intro h8 (And.intro BW6 (And.intro hra6 (And.intro hrb6 rva6)))))))
  clear RR6 PS6 h6 h8 BW6 hra6 hrb6 rva6 RR PS BW BW2 hra hrb rva rvb ca cb cs3 hHeld
  go_upto_region 4 with (fail)
  obtain ⟨RR, PS, h6, h8, BW, hra, hrb, rva⟩ := E6.out
  clear E6 c6
  replace RR := RR.alloc (.cells #[.slice Aa (Dig.dg x).length la] 30)
  replace PS := blk_alloc PS (.cells #[.slice Aa (Dig.dg x).length la] 30)
  replace h6 := blk_alloc h6 (.cells #[.slice Aa (Dig.dg x).length la] 30)
  replace h8 := blk_alloc h8 (.cells #[.slice Aa (Dig.dg x).length la] 30)
  have PO := (MapKept.heap_alloc W6 (.cells #[.slice Aa (Dig.dg x).length la] 30)).1
  have B67 := (Below.refl W6.heap.size W6).alloc (Nat.le_refl _) (.cells #[.slice Aa (Dig.dg x).length la] 30)
  replace BW := BW.trans (B67.mono (by have h := BW.size; omega))
  replace hra : ∀ W', Below (W6.alloc (.cells #[.slice Aa (Dig.dg x).length la] 30)).heap.size (W6.alloc (.cells #[.slice Aa (Dig.dg x).length la] 30)) W' → _ := fun W' h => hra W' (B67.trans (h.mono B67.size))
  replace hrb : ∀ W', Below (W6.alloc (.cells #[.slice Aa (Dig.dg x).length la] 30)).heap.size (W6.alloc (.cells #[.slice Aa (Dig.dg x).length la] 30)) W' → _ := fun W' h => hrb W' (B67.trans (h.mono B67.size))
  replace rva := rva.alloc (.cells #[.slice Aa (Dig.dg x).length la] 30)
  clear B67
  have hpo : ps ≤ W6.heap.size := by omega
  have hpo7 : W6.heap.size < (W6.alloc (.cells #[.slice Aa (Dig.dg x).length la] 30)).heap.size := blk_lt PO
  generalize hpoe : W6.heap.size = po at PO hpo6 hpo hpo7 ⊢
  generalize W6.alloc (.cells #[.slice Aa (Dig.dg x).length la] 30) = W7 at RR PS h6 h8 PO BW hra hrb rva hpo7 ⊢
  clear hpoe W6
  have hk12 : kd % 12 < 12 := Nat.mod_lt _ (by decide)
  obtain hk | hk | hk | hk | hk | hk | hk | hk | hk | hk | hk | hk : kd % 12 = 0 ∨ kd % 12 = 1 ∨ kd % 12 = 2 ∨ kd % 12 = 3 ∨ kd % 12 = 4 ∨ kd % 12 = 5 ∨ kd % 12 = 6 ∨ kd % 12 = 7 ∨ kd % 12 = 8 ∨ kd % 12 = 9 ∨ kd % 12 = 10 ∨ kd % 12 = 11 := by omega
  · have hk1 : Int.tmod (kd : Int) 12 = 0 := by
      rw [show (12 : Int) = ((12 : Nat) : Int) from rfl, tmod_nat, hk]
      rfl
    have hk2 : (kd : Int) % 12 = 0 := by omega
    have ck := (blk_cell PS 0).trans (show _ = some (.int .u8 (kd : Int)) from rfl)
    have c6 := (blk_cell h6 0).trans (show _ = some (.slice Aa (Dig.dg x).length la) from rfl)
    have hmf : ∀ (fn : Fn) (first cap : Array Value) (w : World), (Instr.makeFunc fn first cap).run Tryd.prog w = .ok (.func fn first cap) w := fun _ _ _ _ => rfl
    have E7 := Lib.hid (And.intro RR (And.intro PS (And.intro h6 (And.intro h8 (And.intro PO (And.intro BW (And.intro hra (And.intro hrb rva))))))))
    clear RR PS h6 h8 PO BW hra hrb rva
    have LW := Lib.hid (plus_law x y 100 (by omega) (by omega) (by omega))
    clear hnx hny hx hy
    go_wp2_with fail
    obtain ⟨RR, PS, h6, h8, PO, BW, hra, hrb, rva⟩ := id E7
    refine (spec_Plus.calls 100 Aa la _ Ab lb _ _ _ (hra _ (Below.refl _ _)) hla (hrb _ (Below.refl _ _)) hlb LW.out).mono ?_
    rintro e w8 ⟨v, rfl, hv, hb8⟩
    have PO8 := rg_on PO hb8
    have RR8 := (RR.on hb8).far (p := ⟨po, 0, none⟩) hpo hlt v
    have BW8 := BW.trans (hb8.mono (by have h := BW.size; omega))
    have hv9 := Kd.V_far hv (p := ⟨po, 0, none⟩) (fun k hk => Nat.ne_of_gt (Nat.lt_of_lt_of_le hpo7 hk)) v
    obtain ⟨A9, c9, rfl, hc9, hr9⟩ := V_at hv9
    have PO9 := blk_put PO8 0 (.slice A9 (Dig.dg (x + y)).length c9) rfl
    have BG9 := BW8.setCell (p := ⟨po, 0, none⟩) hpo (.slice A9 (Dig.dg (x + y)).length c9)
    have OW9 : Oth g w _ := oth_of BG9 (Nat.le_of_eq hps)
    replace BG9 := BG9.mono (Nat.le_of_lt hlt)
    have RR9 := RR8
    have hB9 : ps ≤ (w8.setCell ⟨po, 0, none⟩ (.slice A9 (Dig.dg (x + y)).length c9)).heap.size := by
      have h := BW8.size
      rw [hps] at h
      simpa [World.setCell] using h
    have hgB9 := hlt
    have c9o := (blk_cell PO8 0).trans (show _ = some (.slice Aa (Dig.dg x).length la) from rfl)
    have f9o := blk_frozen PO8 0
    clear PO8 RR8 BW8 hv hv9 hb8 RR PS h6 h8 PO BW hra hrb rva E7 c6 ck
    have E8 := Lib.hid (And.intro PO9 (And.intro hr9 (And.intro RR9 (And.intro BG9 (And.intro OW9 hB9)))))
    clear PO9 hr9 RR9 BG9 OW9 hB9
    go_upto_region 29 with (fail)
    obtain ⟨PO9, hr9, RR9, BG9, OW9, hB9⟩ := E8.out
    clear E8 c9o f9o
    generalize w8.setCell ⟨po, 0, none⟩ (.slice A9 (Dig.dg (x + y)).length c9) = W9 at PO9 hr9 RR9 BG9 OW9 hB9 ⊢
    have E9 := Lib.hid (And.intro RR9 (And.intro BG9 OW9))
    clear RR9 BG9 OW9
    go_wp2_with fail
    refine (ofBits_128 _ 86 _ (fun i => (x + y).testBit i) (fun _ _ => rfl) (Lib.hid fun i W hi hW => ?_)).mono ?_
    · exact step_9 i (x + y) po A9 c9 W hi ((blk_cell (rg_on PO9 hW) 0).trans rfl) hc9 (hr9 W hW)
    rintro e w10 ⟨v2, rfl, hv2, hb10⟩
    obtain ⟨RR9, BG9, OW9⟩ := E9.out
    have RR10 := (RR9.on hb10).up (Nat.le_trans hB9 hb10.size)
    have rv2 := RV.of hv2 (Nat.lt_of_lt_of_le hgB9 hB9)
    obtain ⟨A2, c2, rfl, _, _⟩ := V_at hv2
    obtain ⟨u9, cu9, fu9, _⟩ := RR10.cell _ hma
    have hsz9 : w.heap.size ≤ _ := BG9.size
    have BG10 := BG9.trans (hb10.mono (Nat.le_of_lt (Nat.lt_of_lt_of_le hgB9 hB9)))
    have OW10 := OW9.on hsz9 hb10
    have F10 := RR10.put _ hma _ _ rv2
    have E10 := Lib.hid (And.intro F10 (And.intro (BG10.setCell (p := ⟨g, a, none⟩) (Nat.le_refl _) (.slice A2 (Dig.dg (Dig.ofb (fun i => (x + y).testBit i) 128)).length c2)) (OW10.set (i := a) (.slice A2 (Dig.dg (Dig.ofb (fun i => (x + y).testBit i) 128)).length c2))))
    clear RR9 BG9 OW9 RR10 rv2 hv2 hb10 BG10 OW10 F10 E9 PO9 hr9 hc9 hsz9
    go_wp2_with fail
    refine bodyPost_end (results_none rfl _ _ _) rfl ?_
    obtain ⟨F10, BG10, OW10⟩ := E10.out
    have es : stepN (kd % 12) x y sn a b rs = upd rs a (Dig.ofb (fun i => (x + y).testBit i) 128) := by
      rw [hk]
      rfl
    rw [es]
    exact ⟨rfl, ⟨w10.heap.size, Nat.le_of_eq (by simp [World.setCell]), F10⟩, BG10, OW10⟩
  · have hk1 : Int.tmod (kd : Int) 12 = 1 := by
      rw [show (12 : Int) = ((12 : Nat) : Int) from rfl, tmod_nat, hk]
      rfl
    have hk2 : (kd : Int) % 12 = 1 := by omega
    have ck := (blk_cell PS 0).trans (show _ = some (.int .u8 (kd : Int)) from rfl)
    have c6 := (blk_cell h6 0).trans (show _ = some (.slice Aa (Dig.dg x).length la) from rfl)
    have hmf : ∀ (fn : Fn) (first cap : Array Value) (w : World), (Instr.makeFunc fn first cap).run Tryd.prog w = .ok (.func fn first cap) w := fun _ _ _ _ => rfl
    have E7 := Lib.hid (And.intro RR (And.intro PS (And.intro h6 (And.intro h8 (And.intro PO (And.intro BW (And.intro hra (And.intro hrb rva))))))))
    clear RR PS h6 h8 PO BW hra hrb rva
    have LW := Lib.hid (less_law x y hx hy)
    clear hnx hny hx hy
    go_wp2_with fail
    obtain ⟨RR, PS, h6, h8, PO, BW, hra, hrb, rva⟩ := id E7
    refine (laws_wideLess.calls 100 Aa la _ Ab lb _ _ _ (hra _ (Below.refl _ _)) hla (hrb _ (Below.refl _ _)) hlb LW.out).mono ?_
    rintro e w8 ⟨v, rfl, hv, hb8⟩
    have PO8 := rg_on PO hb8
    have RR8 := (RR.on hb8).far (p := ⟨po, 0, none⟩) hpo hlt v
    have BW8 := BW.trans (hb8.mono (by have h := BW.size; omega))
    have hv9 := Kd.V_far hv (p := ⟨po, 0, none⟩) (fun k hk => Nat.ne_of_gt (Nat.lt_of_lt_of_le hpo7 hk)) v
    obtain ⟨A9, c9, rfl, hc9, hr9⟩ := V_at hv9
    have PO9 := blk_put PO8 0 (.slice A9 (Dig.dg (x + 340282366920938463463374607431768211456 - y)).length c9) rfl
    have BG9 := BW8.setCell (p := ⟨po, 0, none⟩) hpo (.slice A9 (Dig.dg (x + 340282366920938463463374607431768211456 - y)).length c9)
    have OW9 : Oth g w _ := oth_of BG9 (Nat.le_of_eq hps)
    replace BG9 := BG9.mono (Nat.le_of_lt hlt)
    have RR9 := RR8
    have hB9 : ps ≤ (w8.setCell ⟨po, 0, none⟩ (.slice A9 (Dig.dg (x + 340282366920938463463374607431768211456 - y)).length c9)).heap.size := by
      have h := BW8.size
      rw [hps] at h
      simpa [World.setCell] using h
    have hgB9 := hlt
    have c9o := (blk_cell PO8 0).trans (show _ = some (.slice Aa (Dig.dg x).length la) from rfl)
    have f9o := blk_frozen PO8 0
    clear PO8 RR8 BW8 hv hv9 hb8 RR PS h6 h8 PO BW hra hrb rva E7 c6 ck
    have E8 := Lib.hid (And.intro PO9 (And.intro hr9 (And.intro RR9 (And.intro BG9 (And.intro OW9 hB9)))))
    clear PO9 hr9 RR9 BG9 OW9 hB9
    go_upto_region 29 with (fail)
    obtain ⟨PO9, hr9, RR9, BG9, OW9, hB9⟩ := E8.out
    clear E8 c9o f9o
    generalize w8.setCell ⟨po, 0, none⟩ (.slice A9 (Dig.dg (x + 340282366920938463463374607431768211456 - y)).length c9) = W9 at PO9 hr9 RR9 BG9 OW9 hB9 ⊢
    have E9 := Lib.hid (And.intro RR9 (And.intro BG9 OW9))
    clear RR9 BG9 OW9
    go_wp2_with fail
    refine (ofBits_128 _ 86 _ (fun i => (x + 340282366920938463463374607431768211456 - y).testBit i) (fun _ _ => rfl) (Lib.hid fun i W hi hW => ?_)).mono ?_
    · exact step_9 i (x + 340282366920938463463374607431768211456 - y) po A9 c9 W hi ((blk_cell (rg_on PO9 hW) 0).trans rfl) hc9 (hr9 W hW)
    rintro e w10 ⟨v2, rfl, hv2, hb10⟩
    obtain ⟨RR9, BG9, OW9⟩ := E9.out
    have RR10 := (RR9.on hb10).up (Nat.le_trans hB9 hb10.size)
    have rv2 := RV.of hv2 (Nat.lt_of_lt_of_le hgB9 hB9)
    obtain ⟨A2, c2, rfl, _, _⟩ := V_at hv2
    obtain ⟨u9, cu9, fu9, _⟩ := RR10.cell _ hma
    have hsz9 : w.heap.size ≤ _ := BG9.size
    have BG10 := BG9.trans (hb10.mono (Nat.le_of_lt (Nat.lt_of_lt_of_le hgB9 hB9)))
    have OW10 := OW9.on hsz9 hb10
    have F10 := RR10.put _ hma _ _ rv2
    have E10 := Lib.hid (And.intro F10 (And.intro (BG10.setCell (p := ⟨g, a, none⟩) (Nat.le_refl _) (.slice A2 (Dig.dg (Dig.ofb (fun i => (x + 340282366920938463463374607431768211456 - y).testBit i) 128)).length c2)) (OW10.set (i := a) (.slice A2 (Dig.dg (Dig.ofb (fun i => (x + 340282366920938463463374607431768211456 - y).testBit i) 128)).length c2))))
    clear RR9 BG9 OW9 RR10 rv2 hv2 hb10 BG10 OW10 F10 E9 PO9 hr9 hc9 hsz9
    go_wp2_with fail
    refine bodyPost_end (results_none rfl _ _ _) rfl ?_
    obtain ⟨F10, BG10, OW10⟩ := E10.out
    have es : stepN (kd % 12) x y sn a b rs = upd rs a (Dig.ofb (fun i => (x + 340282366920938463463374607431768211456 - y).testBit i) 128) := by
      rw [hk]
      rfl
    rw [es]
    exact ⟨rfl, ⟨w10.heap.size, Nat.le_of_eq (by simp [World.setCell]), F10⟩, BG10, OW10⟩
  · have hk1 : Int.tmod (kd : Int) 12 = 2 := by
      rw [show (12 : Int) = ((12 : Nat) : Int) from rfl, tmod_nat, hk]
      rfl
    have hk2 : (kd : Int) % 12 = 2 := by omega
    have ck := (blk_cell PS 0).trans (show _ = some (.int .u8 (kd : Int)) from rfl)
    have c6 := (blk_cell h6 0).trans (show _ = some (.slice Aa (Dig.dg x).length la) from rfl)
    have hmf : ∀ (fn : Fn) (first cap : Array Value) (w : World), (Instr.makeFunc fn first cap).run Tryd.prog w = .ok (.func fn first cap) w := fun _ _ _ _ => rfl
    have E7 := Lib.hid (And.intro RR (And.intro PS (And.intro h6 (And.intro h8 (And.intro PO (And.intro BW (And.intro hra (And.intro hrb rva))))))))
    clear RR PS h6 h8 PO BW hra hrb rva
    have LW := Lib.hid (product_128 hnx hny)
    clear hnx hny hx hy
    go_wp2_with fail
    obtain ⟨RR, PS, h6, h8, PO, BW, hra, hrb, rva⟩ := id E7
    refine (spec_Product.calls 400 Aa la _ Ab lb _ _ _ (hra _ (Below.refl _ _)) hla (hrb _ (Below.refl _ _)) hlb LW.out).mono ?_
    rintro e w8 ⟨v, rfl, hv, hb8⟩
    have PO8 := rg_on PO hb8
    have RR8 := (RR.on hb8).far (p := ⟨po, 0, none⟩) hpo hlt v
    have BW8 := BW.trans (hb8.mono (by have h := BW.size; omega))
    have hv9 := Kd.V_far hv (p := ⟨po, 0, none⟩) (fun k hk => Nat.ne_of_gt (Nat.lt_of_lt_of_le hpo7 hk)) v
    obtain ⟨A9, c9, rfl, hc9, hr9⟩ := V_at hv9
    have PO9 := blk_put PO8 0 (.slice A9 (Dig.dg (x * y)).length c9) rfl
    have BG9 := BW8.setCell (p := ⟨po, 0, none⟩) hpo (.slice A9 (Dig.dg (x * y)).length c9)
    have OW9 : Oth g w _ := oth_of BG9 (Nat.le_of_eq hps)
    replace BG9 := BG9.mono (Nat.le_of_lt hlt)
    have RR9 := RR8
    have hB9 : ps ≤ (w8.setCell ⟨po, 0, none⟩ (.slice A9 (Dig.dg (x * y)).length c9)).heap.size := by
      have h := BW8.size
      rw [hps] at h
      simpa [World.setCell] using h
    have hgB9 := hlt
    have c9o := (blk_cell PO8 0).trans (show _ = some (.slice Aa (Dig.dg x).length la) from rfl)
    have f9o := blk_frozen PO8 0
    clear PO8 RR8 BW8 hv hv9 hb8 RR PS h6 h8 PO BW hra hrb rva E7 c6 ck
    have E8 := Lib.hid (And.intro PO9 (And.intro hr9 (And.intro RR9 (And.intro BG9 (And.intro OW9 hB9)))))
    clear PO9 hr9 RR9 BG9 OW9 hB9
    go_upto_region 29 with (fail)
    obtain ⟨PO9, hr9, RR9, BG9, OW9, hB9⟩ := E8.out
    clear E8 c9o f9o
    generalize w8.setCell ⟨po, 0, none⟩ (.slice A9 (Dig.dg (x * y)).length c9) = W9 at PO9 hr9 RR9 BG9 OW9 hB9 ⊢
    have E9 := Lib.hid (And.intro RR9 (And.intro BG9 OW9))
    clear RR9 BG9 OW9
    go_wp2_with fail
    refine (ofBits_128 _ 86 _ (fun i => (x * y).testBit i) (fun _ _ => rfl) (Lib.hid fun i W hi hW => ?_)).mono ?_
    · exact step_9 i (x * y) po A9 c9 W hi ((blk_cell (rg_on PO9 hW) 0).trans rfl) hc9 (hr9 W hW)
    rintro e w10 ⟨v2, rfl, hv2, hb10⟩
    obtain ⟨RR9, BG9, OW9⟩ := E9.out
    have RR10 := (RR9.on hb10).up (Nat.le_trans hB9 hb10.size)
    have rv2 := RV.of hv2 (Nat.lt_of_lt_of_le hgB9 hB9)
    obtain ⟨A2, c2, rfl, _, _⟩ := V_at hv2
    obtain ⟨u9, cu9, fu9, _⟩ := RR10.cell _ hma
    have hsz9 : w.heap.size ≤ _ := BG9.size
    have BG10 := BG9.trans (hb10.mono (Nat.le_of_lt (Nat.lt_of_lt_of_le hgB9 hB9)))
    have OW10 := OW9.on hsz9 hb10
    have F10 := RR10.put _ hma _ _ rv2
    have E10 := Lib.hid (And.intro F10 (And.intro (BG10.setCell (p := ⟨g, a, none⟩) (Nat.le_refl _) (.slice A2 (Dig.dg (Dig.ofb (fun i => (x * y).testBit i) 128)).length c2)) (OW10.set (i := a) (.slice A2 (Dig.dg (Dig.ofb (fun i => (x * y).testBit i) 128)).length c2))))
    clear RR9 BG9 OW9 RR10 rv2 hv2 hb10 BG10 OW10 F10 E9 PO9 hr9 hc9 hsz9
    go_wp2_with fail
    refine bodyPost_end (results_none rfl _ _ _) rfl ?_
    obtain ⟨F10, BG10, OW10⟩ := E10.out
    have es : stepN (kd % 12) x y sn a b rs = upd rs a (Dig.ofb (fun i => (x * y).testBit i) 128) := by
      rw [hk]
      rfl
    rw [es]
    exact ⟨rfl, ⟨w10.heap.size, Nat.le_of_eq (by simp [World.setCell]), F10⟩, BG10, OW10⟩
  · have hk1 : Int.tmod (kd : Int) 12 = 3 := by
      rw [show (12 : Int) = ((12 : Nat) : Int) from rfl, tmod_nat, hk]
      rfl
    have hk2 : (kd : Int) % 12 = 3 := by omega
    have ck := (blk_cell PS 0).trans (show _ = some (.int .u8 (kd : Int)) from rfl)
    have c6 := (blk_cell h6 0).trans (show _ = some (.slice Aa (Dig.dg x).length la) from rfl)
    have hmf : ∀ (fn : Fn) (first cap : Array Value) (w : World), (Instr.makeFunc fn first cap).run Tryd.prog w = .ok (.func fn first cap) w := fun _ _ _ _ => rfl
    have E7 := Lib.hid (And.intro RR (And.intro PS (And.intro h6 (And.intro h8 (And.intro PO (And.intro BW (And.intro hra (And.intro hrb rva))))))))
    clear RR PS h6 h8 PO BW hra hrb rva
    clear hnx hny hx hy
    go_wp2_with fail
    obtain ⟨RR, PS, h6, h8, PO, BW, hra, hrb, rva⟩ := id E7
    refine (wideBits_calls x y (fun u v => u && v) 77 Aa Ab la lb _ (fun _ _ => rfl) (fun u v W => step_1 u v W) hla hra hlb hrb).mono ?_
    rintro e w8 ⟨v, rfl, hv, hb8⟩
    have PO8 := rg_on PO hb8
    have RR8 := (RR.on hb8).far (p := ⟨po, 0, none⟩) hpo hlt v
    have BW8 := BW.trans (hb8.mono (by have h := BW.size; omega))
    have hv9 := Kd.V_far hv (p := ⟨po, 0, none⟩) (fun k hk => Nat.ne_of_gt (Nat.lt_of_lt_of_le hpo7 hk)) v
    obtain ⟨A9, c9, rfl, hc9, hr9⟩ := V_at hv9
    have PO9 := blk_put PO8 0 (.slice A9 (Dig.dg (Dig.ofb (fun i => (fun u v => u && v) (x.testBit i) (y.testBit i)) 128)).length c9) rfl
    have BG9 := BW8.setCell (p := ⟨po, 0, none⟩) hpo (.slice A9 (Dig.dg (Dig.ofb (fun i => (fun u v => u && v) (x.testBit i) (y.testBit i)) 128)).length c9)
    have OW9 : Oth g w _ := oth_of BG9 (Nat.le_of_eq hps)
    replace BG9 := BG9.mono (Nat.le_of_lt hlt)
    have RR9 := RR8
    have hB9 : ps ≤ (w8.setCell ⟨po, 0, none⟩ (.slice A9 (Dig.dg (Dig.ofb (fun i => (fun u v => u && v) (x.testBit i) (y.testBit i)) 128)).length c9)).heap.size := by
      have h := BW8.size
      rw [hps] at h
      simpa [World.setCell] using h
    have hgB9 := hlt
    have c9o := (blk_cell PO8 0).trans (show _ = some (.slice Aa (Dig.dg x).length la) from rfl)
    have f9o := blk_frozen PO8 0
    clear PO8 RR8 BW8 hv hv9 hb8 RR PS h6 h8 PO BW hra hrb rva E7 c6 ck
    have E8 := Lib.hid (And.intro PO9 (And.intro hr9 (And.intro RR9 (And.intro BG9 (And.intro OW9 hB9)))))
    clear PO9 hr9 RR9 BG9 OW9 hB9
    go_upto_region 29 with (fail)
    obtain ⟨PO9, hr9, RR9, BG9, OW9, hB9⟩ := E8.out
    clear E8 c9o f9o
    generalize w8.setCell ⟨po, 0, none⟩ (.slice A9 (Dig.dg (Dig.ofb (fun i => (fun u v => u && v) (x.testBit i) (y.testBit i)) 128)).length c9) = W9 at PO9 hr9 RR9 BG9 OW9 hB9 ⊢
    have E9 := Lib.hid (And.intro RR9 (And.intro BG9 OW9))
    clear RR9 BG9 OW9
    go_wp2_with fail
    refine (ofBits_128 _ 86 _ (fun i => (Dig.ofb (fun i => (fun u v => u && v) (x.testBit i) (y.testBit i)) 128).testBit i) (fun _ _ => rfl) (Lib.hid fun i W hi hW => ?_)).mono ?_
    · exact step_9 i (Dig.ofb (fun i => (fun u v => u && v) (x.testBit i) (y.testBit i)) 128) po A9 c9 W hi ((blk_cell (rg_on PO9 hW) 0).trans rfl) hc9 (hr9 W hW)
    rintro e w10 ⟨v2, rfl, hv2, hb10⟩
    obtain ⟨RR9, BG9, OW9⟩ := E9.out
    have RR10 := (RR9.on hb10).up (Nat.le_trans hB9 hb10.size)
    have rv2 := RV.of hv2 (Nat.lt_of_lt_of_le hgB9 hB9)
    obtain ⟨A2, c2, rfl, _, _⟩ := V_at hv2
    obtain ⟨u9, cu9, fu9, _⟩ := RR10.cell _ hma
    have hsz9 : w.heap.size ≤ _ := BG9.size
    have BG10 := BG9.trans (hb10.mono (Nat.le_of_lt (Nat.lt_of_lt_of_le hgB9 hB9)))
    have OW10 := OW9.on hsz9 hb10
    have F10 := RR10.put _ hma _ _ rv2
    have E10 := Lib.hid (And.intro F10 (And.intro (BG10.setCell (p := ⟨g, a, none⟩) (Nat.le_refl _) (.slice A2 (Dig.dg (Dig.ofb (fun i => (Dig.ofb (fun i => (fun u v => u && v) (x.testBit i) (y.testBit i)) 128).testBit i) 128)).length c2)) (OW10.set (i := a) (.slice A2 (Dig.dg (Dig.ofb (fun i => (Dig.ofb (fun i => (fun u v => u && v) (x.testBit i) (y.testBit i)) 128).testBit i) 128)).length c2))))
    clear RR9 BG9 OW9 RR10 rv2 hv2 hb10 BG10 OW10 F10 E9 PO9 hr9 hc9 hsz9
    go_wp2_with fail
    refine bodyPost_end (results_none rfl _ _ _) rfl ?_
    obtain ⟨F10, BG10, OW10⟩ := E10.out
    have es : stepN (kd % 12) x y sn a b rs = upd rs a (Dig.ofb (fun i => (Dig.ofb (fun i => (fun u v => u && v) (x.testBit i) (y.testBit i)) 128).testBit i) 128) := by
      rw [hk]
      rfl
    rw [es]
    exact ⟨rfl, ⟨w10.heap.size, Nat.le_of_eq (by simp [World.setCell]), F10⟩, BG10, OW10⟩
  · have hk1 : Int.tmod (kd : Int) 12 = 4 := by
      rw [show (12 : Int) = ((12 : Nat) : Int) from rfl, tmod_nat, hk]
      rfl
    have hk2 : (kd : Int) % 12 = 4 := by omega
    have ck := (blk_cell PS 0).trans (show _ = some (.int .u8 (kd : Int)) from rfl)
    have c6 := (blk_cell h6 0).trans (show _ = some (.slice Aa (Dig.dg x).length la) from rfl)
    have hmf : ∀ (fn : Fn) (first cap : Array Value) (w : World), (Instr.makeFunc fn first cap).run Tryd.prog w = .ok (.func fn first cap) w := fun _ _ _ _ => rfl
    have E7 := Lib.hid (And.intro RR (And.intro PS (And.intro h6 (And.intro h8 (And.intro PO (And.intro BW (And.intro hra (And.intro hrb rva))))))))
    clear RR PS h6 h8 PO BW hra hrb rva
    clear hnx hny hx hy
    go_wp2_with fail
    obtain ⟨RR, PS, h6, h8, PO, BW, hra, hrb, rva⟩ := id E7
    refine (wideBits_calls x y (fun u v => u || v) 78 Aa Ab la lb _ (fun _ _ => rfl) (fun u v W => step_2 u v W) hla hra hlb hrb).mono ?_
    rintro e w8 ⟨v, rfl, hv, hb8⟩
    have PO8 := rg_on PO hb8
    have RR8 := (RR.on hb8).far (p := ⟨po, 0, none⟩) hpo hlt v
    have BW8 := BW.trans (hb8.mono (by have h := BW.size; omega))
    have hv9 := Kd.V_far hv (p := ⟨po, 0, none⟩) (fun k hk => Nat.ne_of_gt (Nat.lt_of_lt_of_le hpo7 hk)) v
    obtain ⟨A9, c9, rfl, hc9, hr9⟩ := V_at hv9
    have PO9 := blk_put PO8 0 (.slice A9 (Dig.dg (Dig.ofb (fun i => (fun u v => u || v) (x.testBit i) (y.testBit i)) 128)).length c9) rfl
    have BG9 := BW8.setCell (p := ⟨po, 0, none⟩) hpo (.slice A9 (Dig.dg (Dig.ofb (fun i => (fun u v => u || v) (x.testBit i) (y.testBit i)) 128)).length c9)
    have OW9 : Oth g w _ := oth_of BG9 (Nat.le_of_eq hps)
    replace BG9 := BG9.mono (Nat.le_of_lt hlt)
    have RR9 := RR8
    have hB9 : ps ≤ (w8.setCell ⟨po, 0, none⟩ (.slice A9 (Dig.dg (Dig.ofb (fun i => (fun u v => u || v) (x.testBit i) (y.testBit i)) 128)).length c9)).heap.size := by
      have h := BW8.size
      rw [hps] at h
      simpa [World.setCell] using h
    have hgB9 := hlt
    have c9o := (blk_cell PO8 0).trans (show _ = some (.slice Aa (Dig.dg x).length la) from rfl)
    have f9o := blk_frozen PO8 0
    clear PO8 RR8 BW8 hv hv9 hb8 RR PS h6 h8 PO BW hra hrb rva E7 c6 ck
    have E8 := Lib.hid (And.intro PO9 (And.intro hr9 (And.intro RR9 (And.intro BG9 (And.intro OW9 hB9)))))
    clear PO9 hr9 RR9 BG9 OW9 hB9
    go_upto_region 29 with (fail)
    obtain ⟨PO9, hr9, RR9, BG9, OW9, hB9⟩ := E8.out
    clear E8 c9o f9o
    generalize w8.setCell ⟨po, 0, none⟩ (.slice A9 (Dig.dg (Dig.ofb (fun i => (fun u v => u || v) (x.testBit i) (y.testBit i)) 128)).length c9) = W9 at PO9 hr9 RR9 BG9 OW9 hB9 ⊢
    have E9 := Lib.hid (And.intro RR9 (And.intro BG9 OW9))
    clear RR9 BG9 OW9
    go_wp2_with fail
    refine (ofBits_128 _ 86 _ (fun i => (Dig.ofb (fun i => (fun u v => u || v) (x.testBit i) (y.testBit i)) 128).testBit i) (fun _ _ => rfl) (Lib.hid fun i W hi hW => ?_)).mono ?_
    · exact step_9 i (Dig.ofb (fun i => (fun u v => u || v) (x.testBit i) (y.testBit i)) 128) po A9 c9 W hi ((blk_cell (rg_on PO9 hW) 0).trans rfl) hc9 (hr9 W hW)
    rintro e w10 ⟨v2, rfl, hv2, hb10⟩
    obtain ⟨RR9, BG9, OW9⟩ := E9.out
    have RR10 := (RR9.on hb10).up (Nat.le_trans hB9 hb10.size)
    have rv2 := RV.of hv2 (Nat.lt_of_lt_of_le hgB9 hB9)
    obtain ⟨A2, c2, rfl, _, _⟩ := V_at hv2
    obtain ⟨u9, cu9, fu9, _⟩ := RR10.cell _ hma
    have hsz9 : w.heap.size ≤ _ := BG9.size
    have BG10 := BG9.trans (hb10.mono (Nat.le_of_lt (Nat.lt_of_lt_of_le hgB9 hB9)))
    have OW10 := OW9.on hsz9 hb10
    have F10 := RR10.put _ hma _ _ rv2
    have E10 := Lib.hid (And.intro F10 (And.intro (BG10.setCell (p := ⟨g, a, none⟩) (Nat.le_refl _) (.slice A2 (Dig.dg (Dig.ofb (fun i => (Dig.ofb (fun i => (fun u v => u || v) (x.testBit i) (y.testBit i)) 128).testBit i) 128)).length c2)) (OW10.set (i := a) (.slice A2 (Dig.dg (Dig.ofb (fun i => (Dig.ofb (fun i => (fun u v => u || v) (x.testBit i) (y.testBit i)) 128).testBit i) 128)).length c2))))
    clear RR9 BG9 OW9 RR10 rv2 hv2 hb10 BG10 OW10 F10 E9 PO9 hr9 hc9 hsz9
    go_wp2_with fail
    refine bodyPost_end (results_none rfl _ _ _) rfl ?_
    obtain ⟨F10, BG10, OW10⟩ := E10.out
    have es : stepN (kd % 12) x y sn a b rs = upd rs a (Dig.ofb (fun i => (Dig.ofb (fun i => (fun u v => u || v) (x.testBit i) (y.testBit i)) 128).testBit i) 128) := by
      rw [hk]
      rfl
    rw [es]
    exact ⟨rfl, ⟨w10.heap.size, Nat.le_of_eq (by simp [World.setCell]), F10⟩, BG10, OW10⟩
  · have hk1 : Int.tmod (kd : Int) 12 = 5 := by
      rw [show (12 : Int) = ((12 : Nat) : Int) from rfl, tmod_nat, hk]
      rfl
    have hk2 : (kd : Int) % 12 = 5 := by omega
    have ck := (blk_cell PS 0).trans (show _ = some (.int .u8 (kd : Int)) from rfl)
    have c6 := (blk_cell h6 0).trans (show _ = some (.slice Aa (Dig.dg x).length la) from rfl)
    have hmf : ∀ (fn : Fn) (first cap : Array Value) (w : World), (Instr.makeFunc fn first cap).run Tryd.prog w = .ok (.func fn first cap) w := fun _ _ _ _ => rfl
    have E7 := Lib.hid (And.intro RR (And.intro PS (And.intro h6 (And.intro h8 (And.intro PO (And.intro BW (And.intro hra (And.intro hrb rva))))))))
    clear RR PS h6 h8 PO BW hra hrb rva
    clear hnx hny hx hy
    go_wp2_with fail
    obtain ⟨RR, PS, h6, h8, PO, BW, hra, hrb, rva⟩ := id E7
    refine (wideBits_calls x y (fun u v => u != v) 79 Aa Ab la lb _ (fun _ _ => rfl) (fun u v W => step_3 u v W) hla hra hlb hrb).mono ?_
    rintro e w8 ⟨v, rfl, hv, hb8⟩
    have PO8 := rg_on PO hb8
    have RR8 := (RR.on hb8).far (p := ⟨po, 0, none⟩) hpo hlt v
    have BW8 := BW.trans (hb8.mono (by have h := BW.size; omega))
    have hv9 := Kd.V_far hv (p := ⟨po, 0, none⟩) (fun k hk => Nat.ne_of_gt (Nat.lt_of_lt_of_le hpo7 hk)) v
    obtain ⟨A9, c9, rfl, hc9, hr9⟩ := V_at hv9
    have PO9 := blk_put PO8 0 (.slice A9 (Dig.dg (Dig.ofb (fun i => (fun u v => u != v) (x.testBit i) (y.testBit i)) 128)).length c9) rfl
    have BG9 := BW8.setCell (p := ⟨po, 0, none⟩) hpo (.slice A9 (Dig.dg (Dig.ofb (fun i => (fun u v => u != v) (x.testBit i) (y.testBit i)) 128)).length c9)
    have OW9 : Oth g w _ := oth_of BG9 (Nat.le_of_eq hps)
    replace BG9 := BG9.mono (Nat.le_of_lt hlt)
    have RR9 := RR8
    have hB9 : ps ≤ (w8.setCell ⟨po, 0, none⟩ (.slice A9 (Dig.dg (Dig.ofb (fun i => (fun u v => u != v) (x.testBit i) (y.testBit i)) 128)).length c9)).heap.size := by
      have h := BW8.size
      rw [hps] at h
      simpa [World.setCell] using h
    have hgB9 := hlt
    have c9o := (blk_cell PO8 0).trans (show _ = some (.slice Aa (Dig.dg x).length la) from rfl)
    have f9o := blk_frozen PO8 0
    clear PO8 RR8 BW8 hv hv9 hb8 RR PS h6 h8 PO BW hra hrb rva E7 c6 ck
    have E8 := Lib.hid (And.intro PO9 (And.intro hr9 (And.intro RR9 (And.intro BG9 (And.intro OW9 hB9)))))
    clear PO9 hr9 RR9 BG9 OW9 hB9
    go_upto_region 29 with (fail)
    obtain ⟨PO9, hr9, RR9, BG9, OW9, hB9⟩ := E8.out
    clear E8 c9o f9o
    generalize w8.setCell ⟨po, 0, none⟩ (.slice A9 (Dig.dg (Dig.ofb (fun i => (fun u v => u != v) (x.testBit i) (y.testBit i)) 128)).length c9) = W9 at PO9 hr9 RR9 BG9 OW9 hB9 ⊢
    have E9 := Lib.hid (And.intro RR9 (And.intro BG9 OW9))
    clear RR9 BG9 OW9
    go_wp2_with fail
    refine (ofBits_128 _ 86 _ (fun i => (Dig.ofb (fun i => (fun u v => u != v) (x.testBit i) (y.testBit i)) 128).testBit i) (fun _ _ => rfl) (Lib.hid fun i W hi hW => ?_)).mono ?_
    · exact step_9 i (Dig.ofb (fun i => (fun u v => u != v) (x.testBit i) (y.testBit i)) 128) po A9 c9 W hi ((blk_cell (rg_on PO9 hW) 0).trans rfl) hc9 (hr9 W hW)
    rintro e w10 ⟨v2, rfl, hv2, hb10⟩
    obtain ⟨RR9, BG9, OW9⟩ := E9.out
    have RR10 := (RR9.on hb10).up (Nat.le_trans hB9 hb10.size)
    have rv2 := RV.of hv2 (Nat.lt_of_lt_of_le hgB9 hB9)
    obtain ⟨A2, c2, rfl, _, _⟩ := V_at hv2
    obtain ⟨u9, cu9, fu9, _⟩ := RR10.cell _ hma
    have hsz9 : w.heap.size ≤ _ := BG9.size
    have BG10 := BG9.trans (hb10.mono (Nat.le_of_lt (Nat.lt_of_lt_of_le hgB9 hB9)))
    have OW10 := OW9.on hsz9 hb10
    have F10 := RR10.put _ hma _ _ rv2
    have E10 := Lib.hid (And.intro F10 (And.intro (BG10.setCell (p := ⟨g, a, none⟩) (Nat.le_refl _) (.slice A2 (Dig.dg (Dig.ofb (fun i => (Dig.ofb (fun i => (fun u v => u != v) (x.testBit i) (y.testBit i)) 128).testBit i) 128)).length c2)) (OW10.set (i := a) (.slice A2 (Dig.dg (Dig.ofb (fun i => (Dig.ofb (fun i => (fun u v => u != v) (x.testBit i) (y.testBit i)) 128).testBit i) 128)).length c2))))
    clear RR9 BG9 OW9 RR10 rv2 hv2 hb10 BG10 OW10 F10 E9 PO9 hr9 hc9 hsz9
    go_wp2_with fail
    refine bodyPost_end (results_none rfl _ _ _) rfl ?_
    obtain ⟨F10, BG10, OW10⟩ := E10.out
    have es : stepN (kd % 12) x y sn a b rs = upd rs a (Dig.ofb (fun i => (Dig.ofb (fun i => (fun u v => u != v) (x.testBit i) (y.testBit i)) 128).testBit i) 128) := by
      rw [hk]
      rfl
    rw [es]
    exact ⟨rfl, ⟨w10.heap.size, Nat.le_of_eq (by simp [World.setCell]), F10⟩, BG10, OW10⟩
  · have hk1 : Int.tmod (kd : Int) 12 = 6 := by
      rw [show (12 : Int) = ((12 : Nat) : Int) from rfl, tmod_nat, hk]
      rfl
    have hk2 : (kd : Int) % 12 = 6 := by omega
    have ck := (blk_cell PS 0).trans (show _ = some (.int .u8 (kd : Int)) from rfl)
    have c6 := (blk_cell h6 0).trans (show _ = some (.slice Aa (Dig.dg x).length la) from rfl)
    have hmf : ∀ (fn : Fn) (first cap : Array Value) (w : World), (Instr.makeFunc fn first cap).run Tryd.prog w = .ok (.func fn first cap) w := fun _ _ _ _ => rfl
    have E7 := Lib.hid (And.intro RR (And.intro PS (And.intro h6 (And.intro h8 (And.intro PO (And.intro BW (And.intro hra (And.intro hrb rva))))))))
    clear RR PS h6 h8 PO BW hra hrb rva
    clear hnx hny hx hy
    go_wp2_with fail
    obtain ⟨RR, PS, h6, h8, PO, BW, hra, hrb, rva⟩ := id E7
    refine (ofBits_128 _ 81 _ (fun i => decide (sn < 128) && (decide (sn ≤ i) && x.testBit (i - sn))) (fun _ _ => rfl) (Lib.hid fun i W hi hW => ?_)).mono ?_
    · exact step_4 sn i x _ _ Aa la W hi hsn ((blk_cell (rg_on h8 hW) 0).trans rfl) ((blk_cell (rg_on h6 hW) 0).trans rfl) hla (hra W hW)
    rintro e w8 ⟨v, rfl, hv, hb8⟩
    have PO8 := rg_on PO hb8
    have RR8 := (RR.on hb8).far (p := ⟨po, 0, none⟩) hpo hlt v
    have BW8 := BW.trans (hb8.mono (by have h := BW.size; omega))
    have hv9 := Kd.V_far hv (p := ⟨po, 0, none⟩) (fun k hk => Nat.ne_of_gt (Nat.lt_of_lt_of_le hpo7 hk)) v
    obtain ⟨A9, c9, rfl, hc9, hr9⟩ := V_at hv9
    have PO9 := blk_put PO8 0 (.slice A9 (Dig.dg (Dig.ofb (fun i => decide (sn < 128) && (decide (sn ≤ i) && x.testBit (i - sn))) 128)).length c9) rfl
    have BG9 := BW8.setCell (p := ⟨po, 0, none⟩) hpo (.slice A9 (Dig.dg (Dig.ofb (fun i => decide (sn < 128) && (decide (sn ≤ i) && x.testBit (i - sn))) 128)).length c9)
    have OW9 : Oth g w _ := oth_of BG9 (Nat.le_of_eq hps)
    replace BG9 := BG9.mono (Nat.le_of_lt hlt)
    have RR9 := RR8
    have hB9 : ps ≤ (w8.setCell ⟨po, 0, none⟩ (.slice A9 (Dig.dg (Dig.ofb (fun i => decide (sn < 128) && (decide (sn ≤ i) && x.testBit (i - sn))) 128)).length c9)).heap.size := by
      have h := BW8.size
      rw [hps] at h
      simpa [World.setCell] using h
    have hgB9 := hlt
    have c9o := (blk_cell PO8 0).trans (show _ = some (.slice Aa (Dig.dg x).length la) from rfl)
    have f9o := blk_frozen PO8 0
    clear PO8 RR8 BW8 hv hv9 hb8 RR PS h6 h8 PO BW hra hrb rva E7 c6 ck
    have E8 := Lib.hid (And.intro PO9 (And.intro hr9 (And.intro RR9 (And.intro BG9 (And.intro OW9 hB9)))))
    clear PO9 hr9 RR9 BG9 OW9 hB9
    go_upto_region 29 with (fail)
    obtain ⟨PO9, hr9, RR9, BG9, OW9, hB9⟩ := E8.out
    clear E8 c9o f9o
    generalize w8.setCell ⟨po, 0, none⟩ (.slice A9 (Dig.dg (Dig.ofb (fun i => decide (sn < 128) && (decide (sn ≤ i) && x.testBit (i - sn))) 128)).length c9) = W9 at PO9 hr9 RR9 BG9 OW9 hB9 ⊢
    have E9 := Lib.hid (And.intro RR9 (And.intro BG9 OW9))
    clear RR9 BG9 OW9
    go_wp2_with fail
    refine (ofBits_128 _ 86 _ (fun i => (Dig.ofb (fun i => decide (sn < 128) && (decide (sn ≤ i) && x.testBit (i - sn))) 128).testBit i) (fun _ _ => rfl) (Lib.hid fun i W hi hW => ?_)).mono ?_
    · exact step_9 i (Dig.ofb (fun i => decide (sn < 128) && (decide (sn ≤ i) && x.testBit (i - sn))) 128) po A9 c9 W hi ((blk_cell (rg_on PO9 hW) 0).trans rfl) hc9 (hr9 W hW)
    rintro e w10 ⟨v2, rfl, hv2, hb10⟩
    obtain ⟨RR9, BG9, OW9⟩ := E9.out
    have RR10 := (RR9.on hb10).up (Nat.le_trans hB9 hb10.size)
    have rv2 := RV.of hv2 (Nat.lt_of_lt_of_le hgB9 hB9)
    obtain ⟨A2, c2, rfl, _, _⟩ := V_at hv2
    obtain ⟨u9, cu9, fu9, _⟩ := RR10.cell _ hma
    have hsz9 : w.heap.size ≤ _ := BG9.size
    have BG10 := BG9.trans (hb10.mono (Nat.le_of_lt (Nat.lt_of_lt_of_le hgB9 hB9)))
    have OW10 := OW9.on hsz9 hb10
    have F10 := RR10.put _ hma _ _ rv2
    have E10 := Lib.hid (And.intro F10 (And.intro (BG10.setCell (p := ⟨g, a, none⟩) (Nat.le_refl _) (.slice A2 (Dig.dg (Dig.ofb (fun i => (Dig.ofb (fun i => decide (sn < 128) && (decide (sn ≤ i) && x.testBit (i - sn))) 128).testBit i) 128)).length c2)) (OW10.set (i := a) (.slice A2 (Dig.dg (Dig.ofb (fun i => (Dig.ofb (fun i => decide (sn < 128) && (decide (sn ≤ i) && x.testBit (i - sn))) 128).testBit i) 128)).length c2))))
    clear RR9 BG9 OW9 RR10 rv2 hv2 hb10 BG10 OW10 F10 E9 PO9 hr9 hc9 hsz9
    go_wp2_with fail
    refine bodyPost_end (results_none rfl _ _ _) rfl ?_
    obtain ⟨F10, BG10, OW10⟩ := E10.out
    have es : stepN (kd % 12) x y sn a b rs = upd rs a (Dig.ofb (fun i => (Dig.ofb (fun i => decide (sn < 128) && (decide (sn ≤ i) && x.testBit (i - sn))) 128).testBit i) 128) := by
      rw [hk]
      rfl
    rw [es]
    exact ⟨rfl, ⟨w10.heap.size, Nat.le_of_eq (by simp [World.setCell]), F10⟩, BG10, OW10⟩
  · have hk1 : Int.tmod (kd : Int) 12 = 7 := by
      rw [show (12 : Int) = ((12 : Nat) : Int) from rfl, tmod_nat, hk]
      rfl
    have hk2 : (kd : Int) % 12 = 7 := by omega
    have ck := (blk_cell PS 0).trans (show _ = some (.int .u8 (kd : Int)) from rfl)
    have c6 := (blk_cell h6 0).trans (show _ = some (.slice Aa (Dig.dg x).length la) from rfl)
    have hmf : ∀ (fn : Fn) (first cap : Array Value) (w : World), (Instr.makeFunc fn first cap).run Tryd.prog w = .ok (.func fn first cap) w := fun _ _ _ _ => rfl
    have E7 := Lib.hid (And.intro RR (And.intro PS (And.intro h6 (And.intro h8 (And.intro PO (And.intro BW (And.intro hra (And.intro hrb rva))))))))
    clear RR PS h6 h8 PO BW hra hrb rva
    clear hnx hny hx hy
    go_wp2_with fail
    obtain ⟨RR, PS, h6, h8, PO, BW, hra, hrb, rva⟩ := id E7
    refine (ofBits_128 _ 82 _ (fun i => decide (sn < 128) && (x.testBit (i + sn))) (fun _ _ => rfl) (Lib.hid fun i W hi hW => ?_)).mono ?_
    · exact step_5 sn i x _ _ Aa la W hi hsn ((blk_cell (rg_on h8 hW) 0).trans rfl) ((blk_cell (rg_on h6 hW) 0).trans rfl) hla (hra W hW)
    rintro e w8 ⟨v, rfl, hv, hb8⟩
    have PO8 := rg_on PO hb8
    have RR8 := (RR.on hb8).far (p := ⟨po, 0, none⟩) hpo hlt v
    have BW8 := BW.trans (hb8.mono (by have h := BW.size; omega))
    have hv9 := Kd.V_far hv (p := ⟨po, 0, none⟩) (fun k hk => Nat.ne_of_gt (Nat.lt_of_lt_of_le hpo7 hk)) v
    obtain ⟨A9, c9, rfl, hc9, hr9⟩ := V_at hv9
    have PO9 := blk_put PO8 0 (.slice A9 (Dig.dg (Dig.ofb (fun i => decide (sn < 128) && (x.testBit (i + sn))) 128)).length c9) rfl
    have BG9 := BW8.setCell (p := ⟨po, 0, none⟩) hpo (.slice A9 (Dig.dg (Dig.ofb (fun i => decide (sn < 128) && (x.testBit (i + sn))) 128)).length c9)
    have OW9 : Oth g w _ := oth_of BG9 (Nat.le_of_eq hps)
    replace BG9 := BG9.mono (Nat.le_of_lt hlt)
    have RR9 := RR8
    have hB9 : ps ≤ (w8.setCell ⟨po, 0, none⟩ (.slice A9 (Dig.dg (Dig.ofb (fun i => decide (sn < 128) && (x.testBit (i + sn))) 128)).length c9)).heap.size := by
      have h := BW8.size
      rw [hps] at h
      simpa [World.setCell] using h
    have hgB9 := hlt
    have c9o := (blk_cell PO8 0).trans (show _ = some (.slice Aa (Dig.dg x).length la) from rfl)
    have f9o := blk_frozen PO8 0
    clear PO8 RR8 BW8 hv hv9 hb8 RR PS h6 h8 PO BW hra hrb rva E7 c6 ck
    have E8 := Lib.hid (And.intro PO9 (And.intro hr9 (And.intro RR9 (And.intro BG9 (And.intro OW9 hB9)))))
    clear PO9 hr9 RR9 BG9 OW9 hB9
    go_upto_region 29 with (fail)
    obtain ⟨PO9, hr9, RR9, BG9, OW9, hB9⟩ := E8.out
    clear E8 c9o f9o
    generalize w8.setCell ⟨po, 0, none⟩ (.slice A9 (Dig.dg (Dig.ofb (fun i => decide (sn < 128) && (x.testBit (i + sn))) 128)).length c9) = W9 at PO9 hr9 RR9 BG9 OW9 hB9 ⊢
    have E9 := Lib.hid (And.intro RR9 (And.intro BG9 OW9))
    clear RR9 BG9 OW9
    go_wp2_with fail
    refine (ofBits_128 _ 86 _ (fun i => (Dig.ofb (fun i => decide (sn < 128) && (x.testBit (i + sn))) 128).testBit i) (fun _ _ => rfl) (Lib.hid fun i W hi hW => ?_)).mono ?_
    · exact step_9 i (Dig.ofb (fun i => decide (sn < 128) && (x.testBit (i + sn))) 128) po A9 c9 W hi ((blk_cell (rg_on PO9 hW) 0).trans rfl) hc9 (hr9 W hW)
    rintro e w10 ⟨v2, rfl, hv2, hb10⟩
    obtain ⟨RR9, BG9, OW9⟩ := E9.out
    have RR10 := (RR9.on hb10).up (Nat.le_trans hB9 hb10.size)
    have rv2 := RV.of hv2 (Nat.lt_of_lt_of_le hgB9 hB9)
    obtain ⟨A2, c2, rfl, _, _⟩ := V_at hv2
    obtain ⟨u9, cu9, fu9, _⟩ := RR10.cell _ hma
    have hsz9 : w.heap.size ≤ _ := BG9.size
    have BG10 := BG9.trans (hb10.mono (Nat.le_of_lt (Nat.lt_of_lt_of_le hgB9 hB9)))
    have OW10 := OW9.on hsz9 hb10
    have F10 := RR10.put _ hma _ _ rv2
    have E10 := Lib.hid (And.intro F10 (And.intro (BG10.setCell (p := ⟨g, a, none⟩) (Nat.le_refl _) (.slice A2 (Dig.dg (Dig.ofb (fun i => (Dig.ofb (fun i => decide (sn < 128) && (x.testBit (i + sn))) 128).testBit i) 128)).length c2)) (OW10.set (i := a) (.slice A2 (Dig.dg (Dig.ofb (fun i => (Dig.ofb (fun i => decide (sn < 128) && (x.testBit (i + sn))) 128).testBit i) 128)).length c2))))
    clear RR9 BG9 OW9 RR10 rv2 hv2 hb10 BG10 OW10 F10 E9 PO9 hr9 hc9 hsz9
    go_wp2_with fail
    refine bodyPost_end (results_none rfl _ _ _) rfl ?_
    obtain ⟨F10, BG10, OW10⟩ := E10.out
    have es : stepN (kd % 12) x y sn a b rs = upd rs a (Dig.ofb (fun i => (Dig.ofb (fun i => decide (sn < 128) && (x.testBit (i + sn))) 128).testBit i) 128) := by
      rw [hk]
      rfl
    rw [es]
    exact ⟨rfl, ⟨w10.heap.size, Nat.le_of_eq (by simp [World.setCell]), F10⟩, BG10, OW10⟩
  · have hk1 : Int.tmod (kd : Int) 12 = 8 := by
      rw [show (12 : Int) = ((12 : Nat) : Int) from rfl, tmod_nat, hk]
      rfl
    have hk2 : (kd : Int) % 12 = 8 := by omega
    have ck := (blk_cell PS 0).trans (show _ = some (.int .u8 (kd : Int)) from rfl)
    have c6 := (blk_cell h6 0).trans (show _ = some (.slice Aa (Dig.dg x).length la) from rfl)
    have hmf : ∀ (fn : Fn) (first cap : Array Value) (w : World), (Instr.makeFunc fn first cap).run Tryd.prog w = .ok (.func fn first cap) w := fun _ _ _ _ => rfl
    have E7 := Lib.hid (And.intro RR (And.intro PS (And.intro h6 (And.intro h8 (And.intro PO (And.intro BW (And.intro hra (And.intro hrb rva))))))))
    clear RR PS h6 h8 PO BW hra hrb rva
    clear hnx hny hx hy
    go_wp2_with fail
    obtain ⟨RR, PS, h6, h8, PO, BW, hra, hrb, rva⟩ := id E7
    refine (ofBits_128 _ 83 _ (fun i => x.testBit ((i + 256 - sn) % 128)) (fun _ _ => rfl) (Lib.hid fun i W hi hW => ?_)).mono ?_
    · exact step_6 sn i x _ _ Aa la W hi hsn ((blk_cell (rg_on h8 hW) 0).trans rfl) ((blk_cell (rg_on h6 hW) 0).trans rfl) hla (hra W hW)
    rintro e w8 ⟨v, rfl, hv, hb8⟩
    have PO8 := rg_on PO hb8
    have RR8 := (RR.on hb8).far (p := ⟨po, 0, none⟩) hpo hlt v
    have BW8 := BW.trans (hb8.mono (by have h := BW.size; omega))
    have hv9 := Kd.V_far hv (p := ⟨po, 0, none⟩) (fun k hk => Nat.ne_of_gt (Nat.lt_of_lt_of_le hpo7 hk)) v
    obtain ⟨A9, c9, rfl, hc9, hr9⟩ := V_at hv9
    have PO9 := blk_put PO8 0 (.slice A9 (Dig.dg (Dig.ofb (fun i => x.testBit ((i + 256 - sn) % 128)) 128)).length c9) rfl
    have BG9 := BW8.setCell (p := ⟨po, 0, none⟩) hpo (.slice A9 (Dig.dg (Dig.ofb (fun i => x.testBit ((i + 256 - sn) % 128)) 128)).length c9)
    have OW9 : Oth g w _ := oth_of BG9 (Nat.le_of_eq hps)
    replace BG9 := BG9.mono (Nat.le_of_lt hlt)
    have RR9 := RR8
    have hB9 : ps ≤ (w8.setCell ⟨po, 0, none⟩ (.slice A9 (Dig.dg (Dig.ofb (fun i => x.testBit ((i + 256 - sn) % 128)) 128)).length c9)).heap.size := by
      have h := BW8.size
      rw [hps] at h
      simpa [World.setCell] using h
    have hgB9 := hlt
    have c9o := (blk_cell PO8 0).trans (show _ = some (.slice Aa (Dig.dg x).length la) from rfl)
    have f9o := blk_frozen PO8 0
    clear PO8 RR8 BW8 hv hv9 hb8 RR PS h6 h8 PO BW hra hrb rva E7 c6 ck
    have E8 := Lib.hid (And.intro PO9 (And.intro hr9 (And.intro RR9 (And.intro BG9 (And.intro OW9 hB9)))))
    clear PO9 hr9 RR9 BG9 OW9 hB9
    go_upto_region 29 with (fail)
    obtain ⟨PO9, hr9, RR9, BG9, OW9, hB9⟩ := E8.out
    clear E8 c9o f9o
    generalize w8.setCell ⟨po, 0, none⟩ (.slice A9 (Dig.dg (Dig.ofb (fun i => x.testBit ((i + 256 - sn) % 128)) 128)).length c9) = W9 at PO9 hr9 RR9 BG9 OW9 hB9 ⊢
    have E9 := Lib.hid (And.intro RR9 (And.intro BG9 OW9))
    clear RR9 BG9 OW9
    go_wp2_with fail
    refine (ofBits_128 _ 86 _ (fun i => (Dig.ofb (fun i => x.testBit ((i + 256 - sn) % 128)) 128).testBit i) (fun _ _ => rfl) (Lib.hid fun i W hi hW => ?_)).mono ?_
    · exact step_9 i (Dig.ofb (fun i => x.testBit ((i + 256 - sn) % 128)) 128) po A9 c9 W hi ((blk_cell (rg_on PO9 hW) 0).trans rfl) hc9 (hr9 W hW)
    rintro e w10 ⟨v2, rfl, hv2, hb10⟩
    obtain ⟨RR9, BG9, OW9⟩ := E9.out
    have RR10 := (RR9.on hb10).up (Nat.le_trans hB9 hb10.size)
    have rv2 := RV.of hv2 (Nat.lt_of_lt_of_le hgB9 hB9)
    obtain ⟨A2, c2, rfl, _, _⟩ := V_at hv2
    obtain ⟨u9, cu9, fu9, _⟩ := RR10.cell _ hma
    have hsz9 : w.heap.size ≤ _ := BG9.size
    have BG10 := BG9.trans (hb10.mono (Nat.le_of_lt (Nat.lt_of_lt_of_le hgB9 hB9)))
    have OW10 := OW9.on hsz9 hb10
    have F10 := RR10.put _ hma _ _ rv2
    have E10 := Lib.hid (And.intro F10 (And.intro (BG10.setCell (p := ⟨g, a, none⟩) (Nat.le_refl _) (.slice A2 (Dig.dg (Dig.ofb (fun i => (Dig.ofb (fun i => x.testBit ((i + 256 - sn) % 128)) 128).testBit i) 128)).length c2)) (OW10.set (i := a) (.slice A2 (Dig.dg (Dig.ofb (fun i => (Dig.ofb (fun i => x.testBit ((i + 256 - sn) % 128)) 128).testBit i) 128)).length c2))))
    clear RR9 BG9 OW9 RR10 rv2 hv2 hb10 BG10 OW10 F10 E9 PO9 hr9 hc9 hsz9
    go_wp2_with fail
    refine bodyPost_end (results_none rfl _ _ _) rfl ?_
    obtain ⟨F10, BG10, OW10⟩ := E10.out
    have es : stepN (kd % 12) x y sn a b rs = upd rs a (Dig.ofb (fun i => (Dig.ofb (fun i => x.testBit ((i + 256 - sn) % 128)) 128).testBit i) 128) := by
      rw [hk]
      rfl
    rw [es]
    exact ⟨rfl, ⟨w10.heap.size, Nat.le_of_eq (by simp [World.setCell]), F10⟩, BG10, OW10⟩
  · have hk1 : Int.tmod (kd : Int) 12 = 9 := by
      rw [show (12 : Int) = ((12 : Nat) : Int) from rfl, tmod_nat, hk]
      rfl
    have hk2 : (kd : Int) % 12 = 9 := by omega
    have ck := (blk_cell PS 0).trans (show _ = some (.int .u8 (kd : Int)) from rfl)
    have c6 := (blk_cell h6 0).trans (show _ = some (.slice Aa (Dig.dg x).length la) from rfl)
    have hmf : ∀ (fn : Fn) (first cap : Array Value) (w : World), (Instr.makeFunc fn first cap).run Tryd.prog w = .ok (.func fn first cap) w := fun _ _ _ _ => rfl
    have E7 := Lib.hid (And.intro RR (And.intro PS (And.intro h6 (And.intro h8 (And.intro PO (And.intro BW (And.intro hra (And.intro hrb rva))))))))
    clear RR PS h6 h8 PO BW hra hrb rva
    clear hnx hny hx hy
    go_wp2_with fail
    obtain ⟨RR, PS, h6, h8, PO, BW, hra, hrb, rva⟩ := id E7
    refine (ofBits_128 _ 84 _ (fun i => x.testBit (127 - i)) (fun _ _ => rfl) (Lib.hid fun i W hi hW => ?_)).mono ?_
    · exact step_7 i x _ Aa la W hi ((blk_cell (rg_on h6 hW) 0).trans rfl) hla (hra W hW)
    rintro e w8 ⟨v, rfl, hv, hb8⟩
    have PO8 := rg_on PO hb8
    have RR8 := (RR.on hb8).far (p := ⟨po, 0, none⟩) hpo hlt v
    have BW8 := BW.trans (hb8.mono (by have h := BW.size; omega))
    have hv9 := Kd.V_far hv (p := ⟨po, 0, none⟩) (fun k hk => Nat.ne_of_gt (Nat.lt_of_lt_of_le hpo7 hk)) v
    obtain ⟨A9, c9, rfl, hc9, hr9⟩ := V_at hv9
    have PO9 := blk_put PO8 0 (.slice A9 (Dig.dg (Dig.ofb (fun i => x.testBit (127 - i)) 128)).length c9) rfl
    have BG9 := BW8.setCell (p := ⟨po, 0, none⟩) hpo (.slice A9 (Dig.dg (Dig.ofb (fun i => x.testBit (127 - i)) 128)).length c9)
    have OW9 : Oth g w _ := oth_of BG9 (Nat.le_of_eq hps)
    replace BG9 := BG9.mono (Nat.le_of_lt hlt)
    have RR9 := RR8
    have hB9 : ps ≤ (w8.setCell ⟨po, 0, none⟩ (.slice A9 (Dig.dg (Dig.ofb (fun i => x.testBit (127 - i)) 128)).length c9)).heap.size := by
      have h := BW8.size
      rw [hps] at h
      simpa [World.setCell] using h
    have hgB9 := hlt
    have c9o := (blk_cell PO8 0).trans (show _ = some (.slice Aa (Dig.dg x).length la) from rfl)
    have f9o := blk_frozen PO8 0
    clear PO8 RR8 BW8 hv hv9 hb8 RR PS h6 h8 PO BW hra hrb rva E7 c6 ck
    have E8 := Lib.hid (And.intro PO9 (And.intro hr9 (And.intro RR9 (And.intro BG9 (And.intro OW9 hB9)))))
    clear PO9 hr9 RR9 BG9 OW9 hB9
    go_upto_region 29 with (fail)
    obtain ⟨PO9, hr9, RR9, BG9, OW9, hB9⟩ := E8.out
    clear E8 c9o f9o
    generalize w8.setCell ⟨po, 0, none⟩ (.slice A9 (Dig.dg (Dig.ofb (fun i => x.testBit (127 - i)) 128)).length c9) = W9 at PO9 hr9 RR9 BG9 OW9 hB9 ⊢
    have E9 := Lib.hid (And.intro RR9 (And.intro BG9 OW9))
    clear RR9 BG9 OW9
    go_wp2_with fail
    refine (ofBits_128 _ 86 _ (fun i => (Dig.ofb (fun i => x.testBit (127 - i)) 128).testBit i) (fun _ _ => rfl) (Lib.hid fun i W hi hW => ?_)).mono ?_
    · exact step_9 i (Dig.ofb (fun i => x.testBit (127 - i)) 128) po A9 c9 W hi ((blk_cell (rg_on PO9 hW) 0).trans rfl) hc9 (hr9 W hW)
    rintro e w10 ⟨v2, rfl, hv2, hb10⟩
    obtain ⟨RR9, BG9, OW9⟩ := E9.out
    have RR10 := (RR9.on hb10).up (Nat.le_trans hB9 hb10.size)
    have rv2 := RV.of hv2 (Nat.lt_of_lt_of_le hgB9 hB9)
    obtain ⟨A2, c2, rfl, _, _⟩ := V_at hv2
    obtain ⟨u9, cu9, fu9, _⟩ := RR10.cell _ hma
    have hsz9 : w.heap.size ≤ _ := BG9.size
    have BG10 := BG9.trans (hb10.mono (Nat.le_of_lt (Nat.lt_of_lt_of_le hgB9 hB9)))
    have OW10 := OW9.on hsz9 hb10
    have F10 := RR10.put _ hma _ _ rv2
    have E10 := Lib.hid (And.intro F10 (And.intro (BG10.setCell (p := ⟨g, a, none⟩) (Nat.le_refl _) (.slice A2 (Dig.dg (Dig.ofb (fun i => (Dig.ofb (fun i => x.testBit (127 - i)) 128).testBit i) 128)).length c2)) (OW10.set (i := a) (.slice A2 (Dig.dg (Dig.ofb (fun i => (Dig.ofb (fun i => x.testBit (127 - i)) 128).testBit i) 128)).length c2))))
    clear RR9 BG9 OW9 RR10 rv2 hv2 hb10 BG10 OW10 F10 E9 PO9 hr9 hc9 hsz9
    go_wp2_with fail
    refine bodyPost_end (results_none rfl _ _ _) rfl ?_
    obtain ⟨F10, BG10, OW10⟩ := E10.out
    have es : stepN (kd % 12) x y sn a b rs = upd rs a (Dig.ofb (fun i => (Dig.ofb (fun i => x.testBit (127 - i)) 128).testBit i) 128) := by
      rw [hk]
      rfl
    rw [es]
    exact ⟨rfl, ⟨w10.heap.size, Nat.le_of_eq (by simp [World.setCell]), F10⟩, BG10, OW10⟩
  · have hk1 : Int.tmod (kd : Int) 12 = 10 := by
      rw [show (12 : Int) = ((12 : Nat) : Int) from rfl, tmod_nat, hk]
      rfl
    have hk2 : (kd : Int) % 12 = 10 := by omega
    have ck := (blk_cell PS 0).trans (show _ = some (.int .u8 (kd : Int)) from rfl)
    have c6 := (blk_cell h6 0).trans (show _ = some (.slice Aa (Dig.dg x).length la) from rfl)
    have hmf : ∀ (fn : Fn) (first cap : Array Value) (w : World), (Instr.makeFunc fn first cap).run Tryd.prog w = .ok (.func fn first cap) w := fun _ _ _ _ => rfl
    have E7 := Lib.hid (And.intro RR (And.intro PS (And.intro h6 (And.intro h8 (And.intro PO (And.intro BW (And.intro hra (And.intro hrb rva))))))))
    clear RR PS h6 h8 PO BW hra hrb rva
    clear hnx hny hx hy
    go_wp2_with fail
    obtain ⟨RR, PS, h6, h8, PO, BW, hra, hrb, rva⟩ := id E7
    refine (ofBits_128 _ 85 _ (fun i => x.testBit (8 * (15 - i / 8) + i % 8)) (fun _ _ => rfl) (Lib.hid fun i W hi hW => ?_)).mono ?_
    · exact step_8 i x _ Aa la W hi ((blk_cell (rg_on h6 hW) 0).trans rfl) hla (hra W hW)
    rintro e w8 ⟨v, rfl, hv, hb8⟩
    have PO8 := rg_on PO hb8
    have RR8 := (RR.on hb8).far (p := ⟨po, 0, none⟩) hpo hlt v
    have BW8 := BW.trans (hb8.mono (by have h := BW.size; omega))
    have hv9 := Kd.V_far hv (p := ⟨po, 0, none⟩) (fun k hk => Nat.ne_of_gt (Nat.lt_of_lt_of_le hpo7 hk)) v
    obtain ⟨A9, c9, rfl, hc9, hr9⟩ := V_at hv9
    have PO9 := blk_put PO8 0 (.slice A9 (Dig.dg (Dig.ofb (fun i => x.testBit (8 * (15 - i / 8) + i % 8)) 128)).length c9) rfl
    have BG9 := BW8.setCell (p := ⟨po, 0, none⟩) hpo (.slice A9 (Dig.dg (Dig.ofb (fun i => x.testBit (8 * (15 - i / 8) + i % 8)) 128)).length c9)
    have OW9 : Oth g w _ := oth_of BG9 (Nat.le_of_eq hps)
    replace BG9 := BG9.mono (Nat.le_of_lt hlt)
    have RR9 := RR8
    have hB9 : ps ≤ (w8.setCell ⟨po, 0, none⟩ (.slice A9 (Dig.dg (Dig.ofb (fun i => x.testBit (8 * (15 - i / 8) + i % 8)) 128)).length c9)).heap.size := by
      have h := BW8.size
      rw [hps] at h
      simpa [World.setCell] using h
    have hgB9 := hlt
    have c9o := (blk_cell PO8 0).trans (show _ = some (.slice Aa (Dig.dg x).length la) from rfl)
    have f9o := blk_frozen PO8 0
    clear PO8 RR8 BW8 hv hv9 hb8 RR PS h6 h8 PO BW hra hrb rva E7 c6 ck
    have E8 := Lib.hid (And.intro PO9 (And.intro hr9 (And.intro RR9 (And.intro BG9 (And.intro OW9 hB9)))))
    clear PO9 hr9 RR9 BG9 OW9 hB9
    go_upto_region 29 with (fail)
    obtain ⟨PO9, hr9, RR9, BG9, OW9, hB9⟩ := E8.out
    clear E8 c9o f9o
    generalize w8.setCell ⟨po, 0, none⟩ (.slice A9 (Dig.dg (Dig.ofb (fun i => x.testBit (8 * (15 - i / 8) + i % 8)) 128)).length c9) = W9 at PO9 hr9 RR9 BG9 OW9 hB9 ⊢
    have E9 := Lib.hid (And.intro RR9 (And.intro BG9 OW9))
    clear RR9 BG9 OW9
    go_wp2_with fail
    refine (ofBits_128 _ 86 _ (fun i => (Dig.ofb (fun i => x.testBit (8 * (15 - i / 8) + i % 8)) 128).testBit i) (fun _ _ => rfl) (Lib.hid fun i W hi hW => ?_)).mono ?_
    · exact step_9 i (Dig.ofb (fun i => x.testBit (8 * (15 - i / 8) + i % 8)) 128) po A9 c9 W hi ((blk_cell (rg_on PO9 hW) 0).trans rfl) hc9 (hr9 W hW)
    rintro e w10 ⟨v2, rfl, hv2, hb10⟩
    obtain ⟨RR9, BG9, OW9⟩ := E9.out
    have RR10 := (RR9.on hb10).up (Nat.le_trans hB9 hb10.size)
    have rv2 := RV.of hv2 (Nat.lt_of_lt_of_le hgB9 hB9)
    obtain ⟨A2, c2, rfl, _, _⟩ := V_at hv2
    obtain ⟨u9, cu9, fu9, _⟩ := RR10.cell _ hma
    have hsz9 : w.heap.size ≤ _ := BG9.size
    have BG10 := BG9.trans (hb10.mono (Nat.le_of_lt (Nat.lt_of_lt_of_le hgB9 hB9)))
    have OW10 := OW9.on hsz9 hb10
    have F10 := RR10.put _ hma _ _ rv2
    have E10 := Lib.hid (And.intro F10 (And.intro (BG10.setCell (p := ⟨g, a, none⟩) (Nat.le_refl _) (.slice A2 (Dig.dg (Dig.ofb (fun i => (Dig.ofb (fun i => x.testBit (8 * (15 - i / 8) + i % 8)) 128).testBit i) 128)).length c2)) (OW10.set (i := a) (.slice A2 (Dig.dg (Dig.ofb (fun i => (Dig.ofb (fun i => x.testBit (8 * (15 - i / 8) + i % 8)) 128).testBit i) 128)).length c2))))
    clear RR9 BG9 OW9 RR10 rv2 hv2 hb10 BG10 OW10 F10 E9 PO9 hr9 hc9 hsz9
    go_wp2_with fail
    refine bodyPost_end (results_none rfl _ _ _) rfl ?_
    obtain ⟨F10, BG10, OW10⟩ := E10.out
    have es : stepN (kd % 12) x y sn a b rs = upd rs a (Dig.ofb (fun i => (Dig.ofb (fun i => x.testBit (8 * (15 - i / 8) + i % 8)) 128).testBit i) 128) := by
      rw [hk]
      rfl
    rw [es]
    exact ⟨rfl, ⟨w10.heap.size, Nat.le_of_eq (by simp [World.setCell]), F10⟩, BG10, OW10⟩
  · have hk1 : Int.tmod (kd : Int) 12 = 11 := by
      rw [show (12 : Int) = ((12 : Nat) : Int) from rfl, tmod_nat, hk]
      rfl
    have hk2 : (kd : Int) % 12 = 11 := by omega
    have ck := (blk_cell PS 0).trans (show _ = some (.int .u8 (kd : Int)) from rfl)
    have c6 := (blk_cell h6 0).trans (show _ = some (.slice Aa (Dig.dg x).length la) from rfl)
    have hmf : ∀ (fn : Fn) (first cap : Array Value) (w : World), (Instr.makeFunc fn first cap).run Tryd.prog w = .ok (.func fn first cap) w := fun _ _ _ _ => rfl
    by_cases hy0 : y = 0
    · subst hy0
      have hl0 : (Dig.dg 0).length = 0 := by
        have h := (dg_len0 0).2 rfl
        exact_mod_cast h
      simp only [hl0]
      have PO9 := PO
      have BG9 := BW.mono (Nat.le_of_lt hlt)
      have OW9 : Oth g w W7 := oth_of BW (Nat.le_of_eq hps)
      have RR9 := RR
      have hB9 : ps ≤ W7.heap.size := by omega
      have hgB9 := hlt
      have hr9 := hra
      clear RR PS h6 h8 PO BW hra hrb rva hnx hny hx hy hlb
      have E9 := Lib.hid (And.intro RR9 (And.intro BG9 OW9))
      clear RR9 BG9 OW9
      go_wp2_with fail
      refine (ofBits_128 _ 86 _ (fun i => (x).testBit i) (fun _ _ => rfl) (Lib.hid fun i W hi hW => ?_)).mono ?_
      · exact step_9 i (x) po Aa la W hi ((blk_cell (rg_on PO9 hW) 0).trans rfl) hla (hr9 W hW)
      rintro e w10 ⟨v2, rfl, hv2, hb10⟩
      obtain ⟨RR9, BG9, OW9⟩ := E9.out
      have RR10 := (RR9.on hb10).up (Nat.le_trans hB9 hb10.size)
      have rv2 := RV.of hv2 (Nat.lt_of_lt_of_le hgB9 hB9)
      obtain ⟨A2, c2, rfl, _, _⟩ := V_at hv2
      obtain ⟨u9, cu9, fu9, _⟩ := RR10.cell _ hma
      have hsz9 : w.heap.size ≤ _ := BG9.size
      have BG10 := BG9.trans (hb10.mono (Nat.le_of_lt (Nat.lt_of_lt_of_le hgB9 hB9)))
      have OW10 := OW9.on hsz9 hb10
      have F10 := RR10.put _ hma _ _ rv2
      have E10 := Lib.hid (And.intro F10 (And.intro (BG10.setCell (p := ⟨g, a, none⟩) (Nat.le_refl _) (.slice A2 (Dig.dg (Dig.ofb (fun i => (x).testBit i) 128)).length c2)) (OW10.set (i := a) (.slice A2 (Dig.dg (Dig.ofb (fun i => (x).testBit i) 128)).length c2))))
      clear RR9 BG9 OW9 RR10 rv2 hv2 hb10 BG10 OW10 F10 E9 PO9 hr9 hla hsz9
      go_wp2_with fail
      refine bodyPost_end (results_none rfl _ _ _) rfl ?_
      obtain ⟨F10, BG10, OW10⟩ := E10.out
      have es : stepN (kd % 12) x 0 sn a b rs = upd rs a (Dig.ofb (fun i => x.testBit i) 128) := by
        rw [hk]
        rfl
      rw [es]
      exact ⟨rfl, ⟨w10.heap.size, Nat.le_of_eq (by simp [World.setCell]), F10⟩, BG10, OW10⟩
    · have LW := Lib.hid (divided_law x y 500 (by omega) hy hx (by decide) (by decide))
      have hl0 : (Dig.dg y).length ≠ 0 := fun h => hy0 ((dg_len0 y).1 (by rw [h]; rfl))
      have hl1 : (0 < (Dig.dg y).length) = True := eq_true (Nat.pos_of_ne_zero hl0)
      have hl2 : decide (((Dig.dg y).length : Int) > 0) = true := decide_eq_true (by have := Nat.pos_of_ne_zero hl0; omega)
      clear hl0 hnx hny hx hy
      have E7 := Lib.hid (And.intro RR (And.intro PS (And.intro h6 (And.intro h8 (And.intro PO (And.intro BW (And.intro hra (And.intro hrb rva))))))))
      clear RR PS h6 h8 PO BW hra hrb rva
      go_wp2_with fail
      obtain ⟨RR, PS, h6, h8, PO, BW, hra, hrb, rva⟩ := id E7
      refine (spec_Divided.calls 500 Aa la _ Ab lb _ _ _ _ (hra _ (Below.refl _ _)) hla (hrb _ (Below.refl _ _)) hlb LW.out).mono ?_
      rintro e w8 ⟨v0, v1, rfl, hv0, hv1, hb8⟩
      have PO8 := rg_on PO hb8
      have BW8 := BW.trans (hb8.mono (by have h := BW.size; omega))
      have hpk : ∀ k, W7.heap.size ≤ k → k ≠ po := fun k hk => Nat.ne_of_gt (Nat.lt_of_lt_of_le hpo7 hk)
      have hgk : ∀ k, W7.heap.size ≤ k → k ≠ g := fun k hk => by omega
      have RR8 := (RR.on hb8).far (p := ⟨po, 0, none⟩) hpo hlt v0
      have hB8 : ps ≤ (w8.setCell ⟨po, 0, none⟩ v0).heap.size := by
        have h := BW8.size
        rw [hps] at h
        simpa [World.setCell] using h
      have hB8' : g < (w8.setCell ⟨po, 0, none⟩ v0).heap.size := Nat.lt_of_lt_of_le hlt hB8
      have hB9 : (w8.setCell ⟨po, 0, none⟩ v0).heap.size ≤ ((w8.setCell ⟨po, 0, none⟩ v0).setCell ⟨g, b, none⟩ v1).heap.size := Nat.le_of_eq (by simp [World.setCell])
      have rv1 := RV.of (Kd.V_far hv1 (p := ⟨po, 0, none⟩) hpk v0) (Nat.lt_of_lt_of_le hlt (Nat.le_trans hpo (Nat.le_of_lt hpo7)))
      have RR9 := (RR8.up hB8).put _ hmb v1 _ rv1
      have hv9 := Kd.V_far (Kd.V_far hv0 (p := ⟨po, 0, none⟩) hpk v0) (p := ⟨g, b, none⟩) hgk v1
      have PO9 := rg_far (blk_put PO8 0 v0 rfl) (p := ⟨g, b, none⟩) (by show po ≠ g; omega) v1
      have BP := BW8.setCell (p := ⟨po, 0, none⟩) hpo v0
      have OW9 : Oth g w _ := (oth_of BP (Nat.le_of_eq hps)).set (i := b) v1
      have BG9 := (BP.mono (Nat.le_of_lt hlt)).setCell (p := ⟨g, b, none⟩) (Nat.le_refl _) v1
      obtain ⟨A9, c9, rfl, hc9, hr9⟩ := V_at hv9
      obtain ⟨A1, c1, rfl, _, _⟩ := V_at hv1
      obtain ⟨u9, cu9, fu9, _⟩ := (RR.on hb8).cell _ hmb
      have c9o := (blk_cell PO8 0).trans (show _ = some (.slice Aa (Dig.dg x).length la) from rfl)
      have f9o := blk_frozen PO8 0
      have hgB9 := hB8'
      have hpg : po ≠ g := by omega
      have E8 := Lib.hid (And.intro PO9 (And.intro hr9 (And.intro RR9 (And.intro BG9 (And.intro OW9 (And.intro hB9 hgB9))))))
      clear PO9 hr9 RR9 BG9 OW9 hB9 hgB9 BP hv9 rv1 RR8 hB8 hB8' hpk hgk PO8 BW8 hv0 hv1 hb8 RR PS h6 h8 PO BW hra hrb rva E7 c6 ck
      go_upto_region 29 with (fail)
      obtain ⟨PO9, hr9, RR9, BG9, OW9, hB9, hgB9⟩ := E8.out
      clear E8 c9o f9o cu9 fu9
      generalize hBB : (w8.setCell ⟨po, 0, none⟩ (.slice A9 (Dig.dg (x / y)).length c9)).heap.size = B9 at RR9 hB9 hgB9
      generalize (w8.setCell ⟨po, 0, none⟩ (.slice A9 (Dig.dg (x / y)).length c9)).setCell ⟨g, b, none⟩ (.slice A1 (Dig.dg (x % y)).length c1) = W9 at PO9 hr9 RR9 BG9 OW9 hB9 ⊢
      have E9 := Lib.hid (And.intro RR9 (And.intro BG9 OW9))
      clear RR9 BG9 OW9
      go_wp2_with fail
      refine (ofBits_128 _ 86 _ (fun i => (x / y).testBit i) (fun _ _ => rfl) (Lib.hid fun i W hi hW => ?_)).mono ?_
      · exact step_9 i (x / y) po A9 c9 W hi ((blk_cell (rg_on PO9 hW) 0).trans rfl) hc9 (hr9 W hW)
      rintro e w10 ⟨v2, rfl, hv2, hb10⟩
      obtain ⟨RR9, BG9, OW9⟩ := E9.out
      have RR10 := (RR9.on hb10).up (Nat.le_trans hB9 hb10.size)
      have rv2 := RV.of hv2 (Nat.lt_of_lt_of_le hgB9 hB9)
      obtain ⟨A2, c2, rfl, _, _⟩ := V_at hv2
      obtain ⟨u9, cu9, fu9, _⟩ := RR10.cell _ hma
      have hsz9 : w.heap.size ≤ _ := BG9.size
      have BG10 := BG9.trans (hb10.mono (Nat.le_of_lt (Nat.lt_of_lt_of_le hgB9 hB9)))
      have OW10 := OW9.on hsz9 hb10
      have F10 := RR10.put _ hma _ _ rv2
      have E10 := Lib.hid (And.intro F10 (And.intro (BG10.setCell (p := ⟨g, a, none⟩) (Nat.le_refl _) (.slice A2 (Dig.dg (Dig.ofb (fun i => (x / y).testBit i) 128)).length c2)) (OW10.set (i := a) (.slice A2 (Dig.dg (Dig.ofb (fun i => (x / y).testBit i) 128)).length c2))))
      clear RR9 BG9 OW9 RR10 rv2 hv2 hb10 BG10 OW10 F10 E9 PO9 hr9 hc9 hsz9
      go_wp2_with fail
      refine bodyPost_end (results_none rfl _ _ _) rfl ?_
      obtain ⟨F10, BG10, OW10⟩ := E10.out
      have es : stepN (kd % 12) x y sn a b rs = upd (upd rs b (x % y)) a (Dig.ofb (fun i => (x / y).testBit i) 128) := by
        rw [hk]
        unfold stepN
        rw [if_pos ⟨rfl, hy0⟩]
        show upd (upd rs b (x % y)) a (Dig.ofb (fun i => (if y = 0 then x else x / y).testBit i) 128) = _
        rw [if_neg hy0]
      rw [es]
      exact ⟨rfl, ⟨w10.heap.size, Nat.le_of_eq (by simp [World.setCell]), F10⟩, BG10, OW10⟩
end Go.Proofs.YtiifnofghicnaaaDoor.PAll
