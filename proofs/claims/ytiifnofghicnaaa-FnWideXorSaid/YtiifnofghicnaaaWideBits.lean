/- wideBits: the number whose bits two numbers' bits give. Walked by hand (function literals). -/
import Derived.Test.YtiifnofghicnaaaWordLaw
namespace Go.Proofs.Ytiifnofghicnaaa.PAll
open Go.RowKit Go.Proofs.YtiifnofghicnaaaW.PrintWords Go.Proofs.YtiifnofghicnaaaW.PrintLast Go.Proofs.YtiifnofghicnaaaW.PrintMore
theorem box3 (w : World) (o p q : Obj) : (((w.alloc o).alloc p).alloc q).heap[w.heap.size]? = some o ∧ (((w.alloc o).alloc p).alloc q).heap[w.heap.size + 1]? = some p ∧ (((w.alloc o).alloc p).alloc q).heap[w.heap.size + 2]? = some q ∧ Below w.heap.size w (((w.alloc o).alloc p).alloc q) ∧ (((w.alloc o).alloc p).alloc q).heap.size = w.heap.size + 3 := by
  obtain ⟨h1, h2, h3, h4⟩ := box2 w o p
  obtain ⟨h5, h6, h7⟩ := box1 ((w.alloc o).alloc p) q
  rw [h4] at h5 h7
  exact ⟨blk_alloc h1 _, blk_alloc h2 _, h5, h3.trans (h6.mono (by rw [h4]; omega)), h7⟩
theorem C_drawn {w w' : World} {A : Option Addr} {n : Nat} {l : List Int} (h : Kd.C (Kd.int .i64) w A n l) (hd : Drawn0 w w') : Kd.C (Kd.int .i64) w' A n l := by
  obtain ⟨k, rfl⟩ := hd.out
  exact Kd.C_drewN h k
set_option maxHeartbeats 1000000 in
set_option maxRecDepth 100000 in
theorem wideBits_1 (i x y : Nat) (hi : i < 128) (f : Bool → Bool → Bool) (fid g p q : Nat) (A B : Option Addr) (c d : Nat) (w : World)
    (hcf : ∀ (args : Array Value) (w : World), (callFunc fid args).run Try.prog w = .ok (.enter fid args) w)
    (hf : ∀ (u v : Bool) (W : World), Calls Try.prog fid #[.bool u, .bool v] W (fun e W' => e = .returned (.bool (f u v)) ∧ Below W.heap.size W W'))
    (lg : g < w.heap.size) (lp : p < w.heap.size) (lq : q < w.heap.size)
    (g0 : w.cell? ⟨g, 0, none⟩ = some (.func (.func fid) #[] #[])) (p0 : w.cell? ⟨p, 0, none⟩ = some (.slice A (Dig.dg x).length c)) (q0 : w.cell? ⟨q, 0, none⟩ = some (.slice B (Dig.dg y).length d))
    (hA : (Dig.dg x).length ≤ c) (rA : Kd.C (Kd.int .i64) w A (Dig.dg x).length (Dig.dg x)) (hB : (Dig.dg y).length ≤ d) (rB : Kd.C (Kd.int .i64) w B (Dig.dg y).length (Dig.dg y)) :
    Calls Try.prog 82 #[.int .i64 (i : Int), .pointer (some ⟨g, 0, none⟩), .pointer (some ⟨p, 0, none⟩), .pointer (some ⟨q, 0, none⟩)] w fun e w' => e = .returned (.bool (f (x.testBit i) (y.testBit i))) ∧ Below w.heap.size w w' := by
  have HX := Lib.hid (bit_law x i (by omega))
  have HY := Lib.hid (bit_law y i (by omega))
  have HF := Lib.hid hf
  clear hf
  go_enter Try.func82, Try.ntmps82
  go_wp2_with fail
  refine start_ (n := 9) (S := fun w' => w'.cell? ⟨g, 0, none⟩ = some (.func (.func fid) #[] #[]) ∧ w'.cell? ⟨p, 0, none⟩ = some (.slice A (Dig.dg x).length c) ∧ w'.cell? ⟨q, 0, none⟩ = some (.slice B (Dig.dg y).length d)) (ds := []) #[false, false, false, false, false, false, false, false, false] (by kernel_rfl) rfl rfl ⟨g0, p0, q0⟩ (fun hHeld => ?_)
  replace g0 : w.drew.cell? ⟨g, 0, none⟩ = some (.func (.func fid) #[] #[]) := g0
  replace p0 : w.drew.cell? ⟨p, 0, none⟩ = some (.slice A (Dig.dg x).length c) := p0
  replace q0 : w.drew.cell? ⟨q, 0, none⟩ = some (.slice B (Dig.dg y).length d) := q0
  have BB := (Below.refl w.heap.size w).drew
  have lz : w.heap.size ≤ w.drew.heap.size := Nat.le_refl _
  replace rA := Kd.C_drew rA
  replace rB := Kd.C_drew rB
  generalize w.drew = W1 at g0 p0 q0 BB lz rA rB hHeld ⊢
  refine take_ (i := 0) (N := some 6) (v := ?_) (a' := ?_) #[true, false, false, false, false, false, false, false, false] rfl rfl (by kernel_rfl) (fun _ _ _ h => h) (Or.inl ⟨by rfl, ?_⟩) hHeld ?_ ?_
  rotate_left
  · rintro w' ⟨s0, s1, s2⟩
    go_simp
    with_reducible rfl
  rotate_left
  · simp only [Act.put, List.setIfInBounds_toArray, List.set_cons_zero, List.set_cons_succ]
    rfl
  refine take_ (i := 1) (N := some 7) (v := ?_) (a' := ?_) #[true, true, false, false, false, false, false, false, false] rfl rfl (by kernel_rfl) (fun _ _ _ h => h) (Or.inl ⟨by rfl, ?_⟩) hHeld ?_ ?_
  rotate_left
  · rintro w' ⟨s0, s1, s2⟩
    go_simp
    with_reducible rfl
  rotate_left
  · simp only [Act.put, List.setIfInBounds_toArray, List.set_cons_zero, List.set_cons_succ]
    rfl
  refine pure_ (i := 2) (N := some 8) (v := ?_) (a' := ?_) #[true, true, true, false, false, false, false, false, false] rfl rfl (by kernel_rfl) (fun _ _ _ h => h) (Or.inl ⟨by rfl, ?_⟩) ?_ ?_
  rotate_left
  · intro w'
    go_simp
    with_reducible rfl
  rotate_left
  · simp only [Act.put, List.setIfInBounds_toArray, List.set_cons_zero, List.set_cons_succ]
    rfl
  refine take_ (i := 4) (N := some 10) (v := ?_) (a' := ?_) #[true, true, true, false, true, false, false, false, false] rfl rfl (by kernel_rfl) (fun _ _ _ h => h) (Or.inl ⟨by rfl, ?_⟩) hHeld ?_ ?_
  rotate_left
  · rintro w' ⟨s0, s1, s2⟩
    go_simp
    with_reducible rfl
  rotate_left
  · simp only [Act.put, List.setIfInBounds_toArray, List.set_cons_zero, List.set_cons_succ]
    rfl
  refine pure_ (i := 5) (N := some 11) (v := ?_) (a' := ?_) #[true, true, true, false, true, true, false, false, false] rfl rfl (by kernel_rfl) (fun _ _ _ h => h) (Or.inl ⟨by rfl, ?_⟩) ?_ ?_
  rotate_left
  · intro w'
    go_simp
    with_reducible rfl
  rotate_left
  · simp only [Act.put, List.setIfInBounds_toArray, List.set_cons_zero, List.set_cons_succ]
    rfl
  refine one_ (i := 3) (N := some 9) #[true, true, true, true, true, true, false, false, false] rfl rfl (by kernel_rfl) (by decide) (fun K hK => ?_)
  refine goes_ Try.func41 (by kernel_rfl) rfl #[.slice A (Dig.dg x).length c, .int .i64 (i : Int)] (by rfl) rfl rfl (by (try simp only [List.map_toArray, List.map_cons, List.map_nil]); first | done | rfl) ?_
  refine (spec_Big_Bit.calls A c _ (i : Int) _ _ rA hA HX).mono ?_
  rintro e W2 ⟨rfl, hd⟩
  refine ⟨_, rfl, ?_⟩
  have hb := hd.below
  replace g0 := (hb.cell (p := ⟨g, 0, none⟩) (Nat.lt_of_lt_of_le lg lz)).trans g0
  replace p0 := (hb.cell (p := ⟨p, 0, none⟩) (Nat.lt_of_lt_of_le lp lz)).trans p0
  replace q0 := (hb.cell (p := ⟨q, 0, none⟩) (Nat.lt_of_lt_of_le lq lz)).trans q0
  replace rA := C_drawn rA hd
  replace rB := C_drawn rB hd
  replace BB := BB.trans (hb.mono lz)
  replace lz := Nat.le_trans lz hb.size
  clear hb hd
  refine hK.out _ _ ⟨g0, p0, q0⟩ (fun hHeld => ?_)
  clear hK K
  refine norm_ (a' := ?_) ?_ ?_
  rotate_left
  · show Act.put _ (some 9) _ = _
    simp only [Act.put, List.setIfInBounds_toArray, List.set_cons_zero, List.set_cons_succ]
    rfl
  refine one_ (i := 6) (N := some 12) #[true, true, true, true, true, true, true, false, false] rfl rfl (by kernel_rfl) (by decide) (fun K hK => ?_)
  refine goes_ Try.func41 (by kernel_rfl) rfl #[.slice B (Dig.dg y).length d, .int .i64 (i : Int)] (by rfl) rfl rfl (by (try simp only [List.map_toArray, List.map_cons, List.map_nil]); first | done | rfl) ?_
  refine (spec_Big_Bit.calls B d _ (i : Int) _ _ rB hB HY).mono ?_
  rintro e W2 ⟨rfl, hd⟩
  refine ⟨_, rfl, ?_⟩
  have hb := hd.below
  replace g0 := (hb.cell (p := ⟨g, 0, none⟩) (Nat.lt_of_lt_of_le lg lz)).trans g0
  replace p0 := (hb.cell (p := ⟨p, 0, none⟩) (Nat.lt_of_lt_of_le lp lz)).trans p0
  replace q0 := (hb.cell (p := ⟨q, 0, none⟩) (Nat.lt_of_lt_of_le lq lz)).trans q0
  replace rA := C_drawn rA hd
  replace rB := C_drawn rB hd
  replace BB := BB.trans (hb.mono lz)
  replace lz := Nat.le_trans lz hb.size
  clear hb hd
  refine hK.out _ _ ⟨g0, p0, q0⟩ (fun hHeld => ?_)
  clear hK K
  refine norm_ (a' := ?_) ?_ ?_
  rotate_left
  · show Act.put _ (some 12) _ = _
    simp only [Act.put, List.setIfInBounds_toArray, List.set_cons_zero, List.set_cons_succ]
    rfl
  refine one_ (i := 7) (N := some 13) #[true, true, true, true, true, true, true, true, false] rfl rfl (by kernel_rfl) (by decide) (fun K hK => ?_)
  refine call_ fid #[.bool (x.testBit i), .bool (y.testBit i)] rfl rfl (by unfold execOp; simp [resolve, Deferred.ofValue, invoke, Act.eval, hcf]) ?_
  refine (HF.out (x.testBit i) (y.testBit i) _).mono ?_
  rintro e W3 ⟨rfl, hb⟩
  refine ⟨_, rfl, ?_⟩
  replace g0 := (hb.cell (p := ⟨g, 0, none⟩) (Nat.lt_of_lt_of_le lg lz)).trans g0
  replace p0 := (hb.cell (p := ⟨p, 0, none⟩) (Nat.lt_of_lt_of_le lp lz)).trans p0
  replace q0 := (hb.cell (p := ⟨q, 0, none⟩) (Nat.lt_of_lt_of_le lq lz)).trans q0
  replace BB := BB.trans (hb.mono lz)
  replace lz := Nat.le_trans lz hb.size
  clear hb rA rB
  refine hK.out _ _ ⟨g0, p0, q0⟩ (fun hHeld => ?_)
  clear hK K
  refine norm_ (a' := ?_) ?_ ?_
  rotate_left
  · show Act.put _ (some 13) _ = _
    simp only [Act.put, List.setIfInBounds_toArray, List.set_cons_zero, List.set_cons_succ]
    rfl
  refine pure_ (i := 8) (N := some 5) (v := ?_) (a' := ?_) #[true, true, true, true, true, true, true, true, true] rfl rfl (by kernel_rfl) (fun _ _ _ h => h) (Or.inl ⟨by rfl, ?_⟩) ?_ ?_
  rotate_left
  · intro w'
    go_simp
    with_reducible rfl
  rotate_left
  · simp only [Act.put, List.setIfInBounds_toArray, List.set_cons_zero, List.set_cons_succ]
    rfl
  refine done_ (by kernel_rfl) ?_
  go_wp2
  go_ret
  exact ⟨rfl, BB⟩
set_option maxHeartbeats 1000000 in
set_option maxRecDepth 100000 in
theorem wideBits_calls (x y : Nat) (f : Bool → Bool → Bool) (fid : Nat) (A B : Option Addr) (c d : Nat) (w : World)
    (hcf : ∀ (args : Array Value) (w : World), (callFunc fid args).run Try.prog w = .ok (.enter fid args) w)
    (hf : ∀ (u v : Bool) (W : World), Calls Try.prog fid #[.bool u, .bool v] W (fun e W' => e = .returned (.bool (f u v)) ∧ Below W.heap.size W W'))
    (hA : (Dig.dg x).length ≤ c) (rA : ∀ W, Below w.heap.size w W → Kd.C (Kd.int .i64) W A (Dig.dg x).length (Dig.dg x)) (hB : (Dig.dg y).length ≤ d) (rB : ∀ W, Below w.heap.size w W → Kd.C (Kd.int .i64) W B (Dig.dg y).length (Dig.dg y)) :
    Calls Try.prog 29 #[.slice A (Dig.dg x).length c, .slice B (Dig.dg y).length d, .func (.func fid) #[] #[]] w fun e w' =>
      ∃ v0_ : Value, e = .returned (v0_) ∧ Kd.V (Kd.int .i64) 3 w' w.heap.size (fun k_ => (w.heap.size ≤ k_)) v0_ (Dig.dg (Dig.ofb (fun i => f (x.testBit i) (y.testBit i)) 128)) ∧ Below w.heap.size w w' := by
  have hmf : ∀ (fn : Fn) (first cap : Array Value) (w : World), (Instr.makeFunc fn first cap).run Try.prog w = .ok (.func fn first cap) w := fun _ _ _ _ => rfl
  have HH := Lib.hid (And.intro hf (And.intro rA rB))
  clear hf rA rB
  go_enter Try.func29, Try.ntmps29
  go_wp2_with fail
  obtain ⟨z1, z2, z3, z4, z5⟩ := box3 w (.cells #[.slice A (Dig.dg x).length c] 27) (.cells #[.slice B (Dig.dg y).length d] 27) (.cells #[.func (.func fid) #[] #[]] 29)
  have Z := Lib.hid z4
  have Z5 := Lib.hid z5
  refine (ofBits_128 _ 82 _ (fun i => f (x.testBit i) (y.testBit i)) (fun _ _ => rfl) (Lib.hid fun i W hi hW => ?_)).mono ?_
  · obtain ⟨hf, rA, rB⟩ := id HH
    have B4 := on_ z4 (by rw [z5]; omega) hW
    have hs := hW.size
    rw [z5] at hs
    exact wideBits_1 i x y hi f fid _ _ _ A B c d W hcf hf (by omega) (by omega) (by omega) ((blk_cell (blk_on z3 hW) 0).trans rfl) ((blk_cell (blk_on z1 hW) 0).trans rfl) ((blk_cell (blk_on z2 hW) 0).trans rfl) hA (rA W B4) hB (rB W B4)
  rintro e w3 ⟨v, rfl, hv, hb3⟩
  have V3 := Lib.hid hv
  have B3 := Lib.hid hb3
  clear hv hb3 z1 z2 z3 z4 z5 HH
  go_wp2
  go_ret
  have z4 := id Z
  have z5 := id Z5
  have hb3 := id B3
  exact ⟨_, rfl, Kd.V_lower (Kd.V_mono (id V3) (fun k hk => by rw [z5] at hk; omega)) (by rw [z5]; omega), on_ z4 (by rw [z5]; omega) hb3⟩
end Go.Proofs.Ytiifnofghicnaaa.PAll
