/- uint128's FromBig, impl.WideFromBig and impl.WideBig answer as whole numbers say, or panic; for rows of fewer than 900 octets, halves below 2^64. -/
import Derived.Test.YtjmgiodkfgdgnaaBigC
import Derived.Test.YtjmgiodkfgdgnaaPAllx1
namespace Go.Proofs.Ytjmgiodkfgdgnaa.PAll
open Go.RowKit Go.Proofs.YtjmgiodkfgdgnaaW.PrintWords Go.Proofs.YtjmgiodkfgdgnaaW.PrintLast Go.Proofs.YtjmgiodkfgdgnaaW.PrintMore
set_option linter.unusedVariables false
set_option linter.unusedSimpArgs false
/-- The block b, of the type T, holds the two halves of a number of 128 bits. -/
def UC (T : TypeId) (W : World) (b : Nat) (lo hi : Int) : Prop := W.heap[b]? = some (.cells #[.int .u64 lo, .int .u64 hi] T (0, 0))
section
variable {T : TypeId} {W W' : World} {b : Nat} {lo hi : Int}
theorem UC.lt (h : UC T W b lo hi) : b < W.heap.size := (Array.getElem?_eq_some_iff.1 h).1
theorem UC.c0 (h : UC T W b lo hi) : W.cell? ⟨b, 0, none⟩ = some (.int .u64 lo) := by
  unfold UC at h
  simp [World.cell?, h]
theorem UC.c1 (h : UC T W b lo hi) : W.cell? ⟨b, 1, none⟩ = some (.int .u64 hi) := by
  unfold UC at h
  simp [World.cell?, h]
theorem UC.frozen (h : UC T W b lo hi) (i : Nat) : W.frozen? ⟨b, i, none⟩ = false := by
  unfold UC at h
  simp [World.frozen?, h]
theorem UC.on {S : List Nat} (h : UC T W b lo hi) (hF : Fr S W W') (hg : b ∉ S) : UC T W' b lo hi := (hF.2.2.2.2 b h.lt hg).trans h
theorem UC.below (h : UC T W b lo hi) (hb : Below W.heap.size W W') : UC T W' b lo hi := (hb.block b h.lt).trans h
theorem UC.set0 (h : UC T W b lo hi) (x : Int) : UC T (W.setCell ⟨b, 0, none⟩ (.int .u64 x)) b x hi := by
  have := heap_setCell_same W b 0 _ _ (.int .u64 x) h
  unfold UC
  rw [this]
  simp
theorem UC.set1 (h : UC T W b lo hi) (x : Int) : UC T (W.setCell ⟨b, 1, none⟩ (.int .u64 x)) b lo x := by
  have := heap_setCell_same W b 1 _ _ (.int .u64 x) h
  unfold UC
  rw [this]
  simp
theorem UC.row (h : UC T W b lo hi) (x y : Int) : UC T (W.setRow b #[.int .u64 x, .int .u64 y]) b x y := setRow_heap W b _ _ _ (0, 0) h
theorem UC.new (T : TypeId) (W : World) (lo hi : Int) : UC T (W.alloc (.cells #[.int .u64 lo, .int .u64 hi] T)) W.heap.size lo hi := (MapKept.heap_alloc W _).1
theorem fr_row (W : World) (b : Nat) (cs : Array Value) : Fr [b] W (W.setRow b cs) := ⟨rfl, rfl, rfl, by simp [World.setRow], fun k _ hk => setRow_other W b k _ (by simpa using hk)⟩
theorem op_load2 {ρ : Operand → Value} {o : Oper} {x : Operand} (hU : UC T W b lo hi) (ho : o.op = .load T x) (hx : ρ x = .pointer (some ⟨b, 0, none⟩)) (h1 : ∀ w, (isAgg T).run Try.prog w = .ok true w) (h2 : ∀ w, (Go.sizeOf T).run Try.prog w = .ok 2 w) : (execOp ρ o).run Try.prog W = .ok (.value (.agg #[.int .u64 lo, .int .u64 hi])) W := by
  unfold execOp
  rw [ho]
  simp [go_sem, hx, h1, h2, hU.c0, hU.c1]
theorem op_store2 {ρ : Operand → Value} {o : Oper} {x y : Operand} {p q : Int} (hU : UC T W b lo hi) (ho : o.op = .store T x y) (hx : ρ x = .pointer (some ⟨b, 0, none⟩)) (hy : ρ y = .agg #[.int .u64 p, .int .u64 q]) (hi' : (Try.prog.info? T).map (·.size) = some 2) : (execOp ρ o).run Try.prog W = .ok .skip (W.setRow b #[.int .u64 p, .int .u64 q]) := by
  have hst := run_storeVar_row (P := Try.prog) W b T T _ #[.int .u64 p, .int .u64 q] hU hi' rfl (by simp [Value.oneCell'])
  unfold execOp
  rw [ho]
  simp only [hx, hy, Instr.storeAt, Instr.sureAddr, Sem.run_bind, Sem.run_pure, Result.andThen_ok, hst]
theorem res2 {fn : Func} {t : Tmp} {a : Act} (hU : UC T W b lo hi) (hr : fn.results = #[.cell t T]) (ha : a.eval (.tmp t) = .pointer (some ⟨b, 0, none⟩)) (h1 : ∀ w, (isAgg T).run Try.prog w = .ok true w) (h2 : ∀ w, (Go.sizeOf T).run Try.prog w = .ok 2 w) : (results fn a.tmps).run Try.prog W = .ok (.agg #[.int .u64 lo, .int .u64 hi]) W := by
  have ha' : a.tmps[t]?.getD undef = .pointer (some ⟨b, 0, none⟩) := by
    rw [← Array.getD_eq_getD_getElem?]
    exact ha
  simp [results, hr, ha', go_sem, h1, h2, hU.c0, hU.c1]
end
theorem Fr.far {S : List Nat} {a b c : World} {u : Nat} (h : Fr S a b) (h2 : Fr [u] b c) (hu : a.heap.size ≤ u) : Fr S a c :=
  ⟨h2.1.trans h.1, h2.2.1.trans h.2.1, h2.2.2.1.trans h.2.2.1, Nat.le_trans h.2.2.2.1 h2.2.2.2.1, fun k hk hn => (h2.2.2.2.2 k (Nat.lt_of_lt_of_le hk h.2.2.2.1) (by simp; omega)).trans (h.2.2.2.2 k hk hn)⟩
theorem alloc128 : AllocOk Try.prog 38 #[.int .u64 0, .int .u64 0] := by
  intro ρ o W ho
  unfold execOp
  rw [ho]
  simp [go_sem]
theorem op_alloc128 {ρ : Operand → Value} {o : Oper} {W : World} (ho : o.op = .alloc 38) : (execOp ρ o).run Try.prog W = .ok (.value (.pointer (some ⟨W.heap.size, 0, none⟩))) (W.alloc (.cells #[.int .u64 0, .int .u64 0] 38)) := alloc128 ρ o W ho
theorem bl_any (l : List Nat) (n : Nat) (hl : l.length = n) (hn : n < 900) (ht : 0 < n → l.getD (n - 1) 0 ≠ 0 ∧ l.getD (n - 1) 0 < 18446744073709551616) : ∃ r : Nat, bigall_nat_bitLen.f (l.map (fun (x : Nat) => (x : Int))) = some ((r : Nat) : Int) ∧ (128 < r ↔ 3 ≤ n) := by
  cases n with
  | zero =>
    obtain rfl := List.eq_nil_of_length_eq_zero hl
    exact ⟨0, bl_nil, by omega⟩
  | succ k =>
    have h := ht (by omega)
    rw [Nat.add_sub_cancel] at h
    obtain ⟨r, h1, h2, h3⟩ := bl_some l k hl (by omega) h.1 h.2
    exact ⟨_, h1, by omega⟩
theorem sign_ok (p : Nat) (A : Option Addr) (n c : Nat) (w : World) (hI : IB w p false (.slice A n c)) : Calls Try.prog 33 #[.pointer (some ⟨p, 0, none⟩)] w fun e w' => ∃ v, e = .returned v ∧ ∃ z : Int, v = .int .i64 z ∧ 0 ≤ z ∧ w' = w := by
  by_cases h0 : 0 < n
  · exact (sign_pos p A n c h0 w hI).mono fun e w' hh => ⟨_, hh.1, 1, rfl, by omega, hh.2⟩
  · obtain rfl : n = 0 := by omega
    exact (sign_zero p A c false w hI).mono fun e w' hh => ⟨_, hh.1, 0, rfl, by omega, hh.2⟩
set_option maxHeartbeats 8000000 in
set_option maxRecDepth 100000 in
theorem fb_neg (p : Nat) (A : Option Addr) (n c : Nat) (h0 : 0 < n) (w : World) (hI : IB w p true (.slice A n c)) :
    Calls Try.prog 21 #[.pointer (some ⟨p, 0, none⟩)] w fun e w' => (∃ pv, e = .panicked [{ v := .iface 9 pv, recovered := false }]) ∧ Below w.heap.size w w' := by
  refine calls_of_wp Try.func21 rfl ?_
  have h0 := has_one (β := bn []) (.v (.pointer (some ⟨p, 0, none⟩))) 19
  have d0 : (⟨#[.pointer (some ⟨p, 0, none⟩)] ++ Array.replicate 19 undef, []⟩ : Act).defers = [] := rfl
  refine wp_seq ?_
  refine wp_region ?_
  refine newR_ops (N := 20) (i := 0) (d := 2) (v := (.pointer (some ⟨w.heap.size, 0, none⟩))) (l := []) rfl rfl rfl (by decide) h0 (op_alloc128 rfl) (fun V => UC 38 V w.heap.size 0 0 ∧ Below w.heap.size w V) (⟨UC.new _ w _ _, (Below.refl w.heap.size w).alloc (Nat.le_refl _) _⟩) (fun a1 W1 r1 h1 d1 => ?_)
  replace d1 := d1.trans d0
  clear h0 d0
  obtain ⟨hU, hB⟩ := r1
  have hplt := hI.lt
  have hlt := hU.lt
  obtain ⟨u, hu⟩ : ∃ u, u = w.heap.size := ⟨_, rfl⟩
  rw [← hu] at hU hlt
  have hBu : w.heap.size ≤ u := by omega
  rw [← hu] at h1
  have hI1 := hI.below hB
  show Code.wp _ _ _ _ _
  refine wp_seq ?_
  refine wp_seq ?_
  refine wp_region ?_
  refine opsP (N := 20) (T := TT) (M := (fun _ _ => none)) tabOk (fun _ _ _ h => by cases h) [1, 2] [0] [(0, .v (.pointer (some ⟨p, 0, none⟩))), (2, .v (.pointer (some ⟨u, 0, none⟩))), (3, .v (.pointer (some ⟨p, 0, none⟩)))] h1 (by kernel_rfl) ⟨by kernel_rfl, by kernel_rfl, by kernel_rfl, trivial⟩ (fun a2 h2 d2 => ?_)
  replace d2 := d2.trans d1
  clear h1 d1
  refine callW_ops (N := 20) (i := 1) (d := 4) (f := 33) (args := [.v (.pointer (some ⟨p, 0, none⟩))]) (l := [2]) rfl (want_ rfl) rfl (by decide) h2 Try.func33 rfl rfl rfl (by kernel_rfl) (fun (v : Value) (W' : World) => v = .int .i64 (-1) ∧ W' = W1) ((sign_neg p A n c h0 _ hI1).mono fun e w' hh => ⟨_, hh.1, rfl, hh.2⟩) (fun v3 W3 a3 hR3 h3 d3 => ?_)
  replace d3 := d3.trans d2
  clear h2 d2
  obtain ⟨rfl, e1⟩ := hR3
  obtain rfl := e1.symm
  refine opsP (N := 20) (T := TT) (M := (fun _ _ => none)) tabOk (fun _ _ _ h => by cases h) [] [2] [(0, .v (.pointer (some ⟨p, 0, none⟩))), (2, .v (.pointer (some ⟨u, 0, none⟩))), (5, .v (.bool true))] h3 (by kernel_rfl) ⟨by kernel_rfl, by kernel_rfl, by kernel_rfl, trivial⟩ (fun a4 h4 d4 => ?_)
  replace d4 := d4.trans d3
  clear h3 d3
  show Code.wp _ _ _ _ _
  refine wp_cond_true (h4.2 5 _ rfl) ?_
  refine wp_region ?_
  refine givenW_ops (N := 20) (i := 0) (d := 6) (s := .v _) (l := [1]) rfl (want_ rfl) rfl (by decide) h4 (op_iface rfl rfl) (fun a5 h5 d5 => ?_)
  replace d5 := d5.trans d4
  clear h4 d4
  refine halt_ops rfl rfl (op_panic rfl (h5.2 6 _ rfl)) ?_
  exact ⟨d5, ⟨_, rfl⟩, hB⟩
set_option maxHeartbeats 8000000 in
set_option maxRecDepth 100000 in
theorem fb_big (p : Nat) (A : Option Addr) (n c : Nat) (l : List Nat) (hn : 3 ≤ n) (ht : l.getD (n - 1) 0 ≠ 0) (h64 : l.getD (n - 1) 0 < 18446744073709551616) (w : World) (hI : IB w p false (.slice A n c)) (hW : Ws w p A n c l) :
    Calls Try.prog 21 #[.pointer (some ⟨p, 0, none⟩)] w fun e w' => (∃ pv, e = .panicked [{ v := .iface 9 pv, recovered := false }]) ∧ Below w.heap.size w w' := by
  obtain ⟨r, hr1, hr2⟩ := bl_any l n hW.2.1 hW.2.2.1 (fun _ => ⟨ht, h64⟩)
  refine calls_of_wp Try.func21 rfl ?_
  have h0 := has_one (β := bn []) (.v (.pointer (some ⟨p, 0, none⟩))) 19
  have d0 : (⟨#[.pointer (some ⟨p, 0, none⟩)] ++ Array.replicate 19 undef, []⟩ : Act).defers = [] := rfl
  refine wp_seq ?_
  refine wp_region ?_
  refine newR_ops (N := 20) (i := 0) (d := 2) (v := (.pointer (some ⟨w.heap.size, 0, none⟩))) (l := []) rfl rfl rfl (by decide) h0 (op_alloc128 rfl) (fun V => UC 38 V w.heap.size 0 0 ∧ Below w.heap.size w V) (⟨UC.new _ w _ _, (Below.refl w.heap.size w).alloc (Nat.le_refl _) _⟩) (fun a1 W1 r1 h1 d1 => ?_)
  replace d1 := d1.trans d0
  clear h0 d0
  obtain ⟨hU, hB⟩ := r1
  have hplt := hI.lt
  have hlt := hU.lt
  obtain ⟨u, hu⟩ : ∃ u, u = w.heap.size := ⟨_, rfl⟩
  rw [← hu] at hU hlt
  have hBu : w.heap.size ≤ u := by omega
  rw [← hu] at h1
  have hI1 := hI.below hB
  show Code.wp _ _ _ _ _
  have hW1 := hW.below hB
  refine wp_seq ?_
  refine wp_seq ?_
  refine wp_region ?_
  refine opsP (N := 20) (T := TT) (M := (fun _ _ => none)) tabOk (fun _ _ _ h => by cases h) [1, 2] [0] [(0, .v (.pointer (some ⟨p, 0, none⟩))), (2, .v (.pointer (some ⟨u, 0, none⟩))), (3, .v (.pointer (some ⟨p, 0, none⟩)))] h1 (by kernel_rfl) ⟨by kernel_rfl, by kernel_rfl, by kernel_rfl, trivial⟩ (fun a2 h2 d2 => ?_)
  replace d2 := d2.trans d1
  clear h1 d1
  refine callW_ops (N := 20) (i := 1) (d := 4) (f := 33) (args := [.v (.pointer (some ⟨p, 0, none⟩))]) (l := [2]) rfl (want_ rfl) rfl (by decide) h2 Try.func33 rfl rfl rfl (by kernel_rfl) (fun (v : Value) (W' : World) => ∃ z : Int, v = .int .i64 z ∧ 0 ≤ z ∧ W' = W1) (sign_ok p A n c _ hI1) (fun v3 W3 a3 hR3 h3 d3 => ?_)
  replace d3 := d3.trans d2
  clear h2 d2
  obtain ⟨z, rfl, hz, e1⟩ := hR3
  obtain rfl := e1.symm
  refine opsP (N := 20) (T := TT) (M := (fun _ _ => none)) tabOk (fun _ _ _ h => by cases h) [] [2] [(0, .v (.pointer (some ⟨p, 0, none⟩))), (2, .v (.pointer (some ⟨u, 0, none⟩))), (5, .v (.bool (decide ((z : Int) < 0))))] h3 (by kernel_rfl) ⟨by kernel_rfl, by kernel_rfl, by kernel_rfl, trivial⟩ (fun a4 h4 d4 => ?_)
  replace d4 := d4.trans d3
  clear h3 d3
  rw [show (decide ((z : Int) < 0)) = false from decide_eq_false (by omega)] at h4
  show Code.wp _ _ _ _ _
  refine wp_cond_false (h4.2 5 _ rfl) ?_
  refine wp_seq ?_
  refine wp_region ?_
  refine opsP (N := 20) (T := TT) (M := (fun _ _ => none)) tabOk (fun _ _ _ h => by cases h) [1, 2] [0] [(0, .v (.pointer (some ⟨p, 0, none⟩))), (2, .v (.pointer (some ⟨u, 0, none⟩))), (5, .v (.bool false)), (7, .v (.pointer (some ⟨p, 0, none⟩)))] h4 (by kernel_rfl) ⟨by kernel_rfl, by kernel_rfl, by kernel_rfl, by kernel_rfl, trivial⟩ (fun a5 h5 d5 => ?_)
  replace d5 := d5.trans d4
  clear h4 d4
  refine callW_ops (N := 20) (i := 1) (d := 8) (f := 34) (args := [.v (.pointer (some ⟨p, 0, none⟩))]) (l := [2]) rfl (want_ rfl) rfl (by decide) h5 Try.func34 rfl rfl rfl (by kernel_rfl) (fun (v : Value) (W' : World) => v = .int .i64 ((r : Nat) : Int) ∧ Below (W1).heap.size W1 W') ((BitLen_walk p A n c false l r _ hI1 hW1 hr1).mono fun e w' hh => ⟨_, hh.1, rfl, hh.2⟩) (fun v6 W6 a6 hR6 h6 d6 => ?_)
  replace d6 := d6.trans d5
  clear h5 d5
  obtain ⟨rfl, hBa⟩ := hR6
  have hI2 := hI1.below hBa
  have hU2 := hU.below hBa
  have hW2 := hW1.below hBa
  have hB2 := hB.trans (hBa.mono hB.size)
  refine opsP (N := 20) (T := TT) (M := (fun _ _ => none)) tabOk (fun _ _ _ h => by cases h) [] [2] [(0, .v (.pointer (some ⟨p, 0, none⟩))), (2, .v (.pointer (some ⟨u, 0, none⟩))), (5, .v (.bool false)), (9, .v (.bool (decide ((((r : Nat) : Int) : Int) > 128))))] h6 (by kernel_rfl) ⟨by kernel_rfl, by kernel_rfl, by kernel_rfl, by kernel_rfl, trivial⟩ (fun a7 h7 d7 => ?_)
  replace d7 := d7.trans d6
  clear h6 d6
  rw [show (decide ((((r : Nat) : Int) : Int) > 128)) = true from decide_eq_true (by omega)] at h7
  show Code.wp _ _ _ _ _
  refine wp_cond_true (h7.2 9 _ rfl) ?_
  refine wp_region ?_
  refine givenW_ops (N := 20) (i := 0) (d := 10) (s := .v _) (l := [1]) rfl (want_ rfl) rfl (by decide) h7 (op_iface rfl rfl) (fun a8 h8 d8 => ?_)
  replace d8 := d8.trans d7
  clear h7 d7
  refine halt_ops rfl rfl (op_panic rfl (h8.2 10 _ rfl)) ?_
  exact ⟨d8, ⟨_, rfl⟩, hB2⟩
set_option maxHeartbeats 8000000 in
set_option maxRecDepth 100000 in
theorem fb_low (p : Nat) (A : Option Addr) (n c : Nat) (l : List Nat) (hn : n ≤ 1) (ht : 0 < n → l.getD (n - 1) 0 ≠ 0 ∧ l.getD (n - 1) 0 < 18446744073709551616) (w : World) (hI : IB w p false (.slice A n c)) (hW : Ws w p A n c l) :
    Calls Try.prog 21 #[.pointer (some ⟨p, 0, none⟩)] w fun e w' => e = .returned (.agg #[.int .u64 ((l.getD 0 0 : Nat) : Int), .int .u64 0]) ∧ Fr [p] w w' := by
  obtain ⟨r, hr1, hr2⟩ := bl_any l n hW.2.1 hW.2.2.1 ht
  refine calls_of_wp Try.func21 rfl ?_
  have h0 := has_one (β := bn []) (.v (.pointer (some ⟨p, 0, none⟩))) 19
  have d0 : (⟨#[.pointer (some ⟨p, 0, none⟩)] ++ Array.replicate 19 undef, []⟩ : Act).defers = [] := rfl
  refine wp_seq ?_
  refine wp_region ?_
  refine newR_ops (N := 20) (i := 0) (d := 2) (v := (.pointer (some ⟨w.heap.size, 0, none⟩))) (l := []) rfl rfl rfl (by decide) h0 (op_alloc128 rfl) (fun V => UC 38 V w.heap.size 0 0 ∧ Below w.heap.size w V) (⟨UC.new _ w _ _, (Below.refl w.heap.size w).alloc (Nat.le_refl _) _⟩) (fun a1 W1 r1 h1 d1 => ?_)
  replace d1 := d1.trans d0
  clear h0 d0
  obtain ⟨hU, hB⟩ := r1
  have hplt := hI.lt
  have hlt := hU.lt
  obtain ⟨u, hu⟩ : ∃ u, u = w.heap.size := ⟨_, rfl⟩
  rw [← hu] at hU hlt
  have hBu : w.heap.size ≤ u := by omega
  rw [← hu] at h1
  have hI1 := hI.below hB
  show Code.wp _ _ _ _ _
  have hW1 := hW.below hB
  refine wp_seq ?_
  refine wp_seq ?_
  refine wp_region ?_
  refine opsP (N := 20) (T := TT) (M := (fun _ _ => none)) tabOk (fun _ _ _ h => by cases h) [1, 2] [0] [(0, .v (.pointer (some ⟨p, 0, none⟩))), (2, .v (.pointer (some ⟨u, 0, none⟩))), (3, .v (.pointer (some ⟨p, 0, none⟩)))] h1 (by kernel_rfl) ⟨by kernel_rfl, by kernel_rfl, by kernel_rfl, trivial⟩ (fun a2 h2 d2 => ?_)
  replace d2 := d2.trans d1
  clear h1 d1
  refine callW_ops (N := 20) (i := 1) (d := 4) (f := 33) (args := [.v (.pointer (some ⟨p, 0, none⟩))]) (l := [2]) rfl (want_ rfl) rfl (by decide) h2 Try.func33 rfl rfl rfl (by kernel_rfl) (fun (v : Value) (W' : World) => ∃ z : Int, v = .int .i64 z ∧ 0 ≤ z ∧ W' = W1) (sign_ok p A n c _ hI1) (fun v3 W3 a3 hR3 h3 d3 => ?_)
  replace d3 := d3.trans d2
  clear h2 d2
  obtain ⟨z, rfl, hz, e1⟩ := hR3
  obtain rfl := e1.symm
  refine opsP (N := 20) (T := TT) (M := (fun _ _ => none)) tabOk (fun _ _ _ h => by cases h) [] [2] [(0, .v (.pointer (some ⟨p, 0, none⟩))), (2, .v (.pointer (some ⟨u, 0, none⟩))), (5, .v (.bool (decide ((z : Int) < 0))))] h3 (by kernel_rfl) ⟨by kernel_rfl, by kernel_rfl, by kernel_rfl, trivial⟩ (fun a4 h4 d4 => ?_)
  replace d4 := d4.trans d3
  clear h3 d3
  rw [show (decide ((z : Int) < 0)) = false from decide_eq_false (by omega)] at h4
  show Code.wp _ _ _ _ _
  refine wp_cond_false (h4.2 5 _ rfl) ?_
  refine wp_seq ?_
  refine wp_region ?_
  refine opsP (N := 20) (T := TT) (M := (fun _ _ => none)) tabOk (fun _ _ _ h => by cases h) [1, 2] [0] [(0, .v (.pointer (some ⟨p, 0, none⟩))), (2, .v (.pointer (some ⟨u, 0, none⟩))), (5, .v (.bool false)), (7, .v (.pointer (some ⟨p, 0, none⟩)))] h4 (by kernel_rfl) ⟨by kernel_rfl, by kernel_rfl, by kernel_rfl, by kernel_rfl, trivial⟩ (fun a5 h5 d5 => ?_)
  replace d5 := d5.trans d4
  clear h4 d4
  refine callW_ops (N := 20) (i := 1) (d := 8) (f := 34) (args := [.v (.pointer (some ⟨p, 0, none⟩))]) (l := [2]) rfl (want_ rfl) rfl (by decide) h5 Try.func34 rfl rfl rfl (by kernel_rfl) (fun (v : Value) (W' : World) => v = .int .i64 ((r : Nat) : Int) ∧ Below (W1).heap.size W1 W') ((BitLen_walk p A n c false l r _ hI1 hW1 hr1).mono fun e w' hh => ⟨_, hh.1, rfl, hh.2⟩) (fun v6 W6 a6 hR6 h6 d6 => ?_)
  replace d6 := d6.trans d5
  clear h5 d5
  obtain ⟨rfl, hBa⟩ := hR6
  have hI2 := hI1.below hBa
  have hU2 := hU.below hBa
  have hW2 := hW1.below hBa
  have hB2 := hB.trans (hBa.mono hB.size)
  refine opsP (N := 20) (T := TT) (M := (fun _ _ => none)) tabOk (fun _ _ _ h => by cases h) [] [2] [(0, .v (.pointer (some ⟨p, 0, none⟩))), (2, .v (.pointer (some ⟨u, 0, none⟩))), (5, .v (.bool false)), (9, .v (.bool (decide ((((r : Nat) : Int) : Int) > 128))))] h6 (by kernel_rfl) ⟨by kernel_rfl, by kernel_rfl, by kernel_rfl, by kernel_rfl, trivial⟩ (fun a7 h7 d7 => ?_)
  replace d7 := d7.trans d6
  clear h6 d6
  rw [show (decide ((((r : Nat) : Int) : Int) > 128)) = false from decide_eq_false (by omega)] at h7
  show Code.wp _ _ _ _ _
  refine wp_cond_false (h7.2 9 _ rfl) ?_
  refine wp_skip ?_
  show Code.wp _ _ _ _ _
  refine wp_seq ?_
  refine wp_region ?_
  refine opsP (N := 20) (T := TT) (M := (fun _ _ => none)) tabOk (fun _ _ _ h => by cases h) [1, 2, 3] [0] [(0, .v (.pointer (some ⟨p, 0, none⟩))), (2, .v (.pointer (some ⟨u, 0, none⟩))), (5, .v (.bool false)), (9, .v (.bool false)), (11, .v (.pointer (some ⟨p, 0, none⟩)))] h7 (by kernel_rfl) ⟨by kernel_rfl, by kernel_rfl, by kernel_rfl, by kernel_rfl, by kernel_rfl, trivial⟩ (fun a8 h8 d8 => ?_)
  replace d8 := d8.trans d7
  clear h7 d7
  refine callW_ops (N := 20) (i := 1) (d := 12) (f := 35) (args := [.v (.pointer (some ⟨p, 0, none⟩))]) (l := [2, 3]) rfl (want_ rfl) rfl (by decide) h8 Try.func35 rfl rfl rfl (by kernel_rfl) (fun (v : Value) (W' : World) => v = .int .u64 ((l.getD 0 0 : Nat) : Int) ∧ Below (W6).heap.size W6 W') ((Uint64_walk p A n c false l _ hI2 hW2).mono fun e w' hh => ⟨_, hh.1, rfl, hh.2⟩) (fun v9 W9 a9 hR9 h9 d9 => ?_)
  replace d9 := d9.trans d8
  clear h8 d8
  obtain ⟨rfl, hBb⟩ := hR9
  have hI3 := hI2.below hBb
  have hU3 := hU2.below hBb
  have hB3 := hB2.trans (hBb.mono hB2.size)
  refine givenW_ops (N := 20) (i := 2) (d := 13) (s := .v (.pointer (some ⟨u, 0, none⟩))) (l := [3]) rfl (want_ rfl) rfl (by decide) h9 (op_fU0 rfl (h9.2 2 _ rfl)) (fun a10 h10 d10 => ?_)
  replace d10 := d10.trans d9
  clear h9 d9
  refine st_ops (i := 3) (l := []) rfl rfl rfl (op_store rfl (h10.2 13 _ rfl) (h10.2 12 _ rfl) (Or.inl ⟨_, _, rfl⟩) Try.sizeOf22 hU3.c0 (hU3.frozen 0)) ?_
  have hup : u ≠ p := by omega
  have hU4 := hU3.set0 ((l.getD 0 0 : Nat) : Int)
  have hFa := Fr.setc (W := W9) u 0 (.int .u64 ((l.getD 0 0 : Nat) : Int))
  have hI4 := hI3.on hFa (by simp; omega)
  have hF4 := (Fr.ofBelow [p] hB3).far hFa hBu
  show Code.wp _ _ _ _ _
  refine wp_seq ?_
  refine wp_region ?_
  refine opsP (N := 20) (T := TT) (M := (fun _ _ => none)) tabOk (fun _ _ _ h => by cases h) [2, 3, 4, 5] [0, 1] [(0, .v (.pointer (some ⟨p, 0, none⟩))), (2, .v (.pointer (some ⟨u, 0, none⟩))), (5, .v (.bool false)), (9, .v (.bool false)), (14, .v (.pointer (some ⟨p, 0, none⟩))), (15, .v (.pointer (some ⟨p, 0, none⟩)))] h10 (by kernel_rfl) ⟨by kernel_rfl, by kernel_rfl, by kernel_rfl, by kernel_rfl, by kernel_rfl, by kernel_rfl, trivial⟩ (fun a11 h11 d11 => ?_)
  replace d11 := d11.trans d10
  clear h10 d10
  refine callW_ops (N := 20) (i := 2) (d := 16) (f := 36) (args := [.v (.pointer (some ⟨p, 0, none⟩)), .v (.pointer (some ⟨p, 0, none⟩)), .v (.int .u64 64)]) (l := [3, 4, 5]) rfl (want_ rfl) rfl (by decide) h11 Try.func36 rfl rfl rfl (by kernel_rfl) (fun (v : Value) (W' : World) => v = .pointer (some ⟨p, 0, none⟩) ∧ IB W' p false (.slice A 0 c) ∧ Fr [p] (World.setCell W9 ⟨u, 0, none⟩ (.int .u64 ((l.getD 0 0 : Nat) : Int))) W') ((Rsh_low p A n c hn _ hI4).mono fun e w' hh => ⟨_, hh.1, rfl, hh.2⟩) (fun v12 W12 a12 hR12 h12 d12 => ?_)
  replace d12 := d12.trans d11
  clear h11 d11
  obtain ⟨rfl, hI5, hFb⟩ := hR12
  have hU5 := hU4.on hFb (by simp; omega)
  have hW5 : Ws W12 p A 0 c [] := ⟨Nat.zero_le _, rfl, by decide, fun h => absurd h (by decide)⟩
  have hF5 := hF4.trans hFb
  refine callW_ops (N := 20) (i := 3) (d := 17) (f := 35) (args := [.v (.pointer (some ⟨p, 0, none⟩))]) (l := [4, 5]) rfl (want_ rfl) rfl (by decide) h12 Try.func35 rfl rfl rfl (by kernel_rfl) (fun (v : Value) (W' : World) => v = .int .u64 0 ∧ Below (W12).heap.size W12 W') ((Uint64_walk p A 0 c false [] _ hI5 hW5).mono fun e w' hh => ⟨_, hh.1, rfl, hh.2⟩) (fun v13 W13 a13 hR13 h13 d13 => ?_)
  replace d13 := d13.trans d12
  clear h12 d12
  obtain ⟨rfl, hBc⟩ := hR13
  have hU6 := hU5.below hBc
  have hF6 := hF5.trans (Fr.ofBelow _ hBc)
  refine givenW_ops (N := 20) (i := 4) (d := 18) (s := .v (.pointer (some ⟨u, 1, none⟩))) (l := [5]) rfl (want_ rfl) rfl (by decide) h13 (op_fU rfl (h13.2 2 _ rfl)) (fun a14 h14 d14 => ?_)
  replace d14 := d14.trans d13
  clear h13 d13
  refine st_ops (i := 5) (l := []) rfl rfl rfl (op_store rfl (h14.2 18 _ rfl) (h14.2 17 _ rfl) (Or.inl ⟨_, _, rfl⟩) Try.sizeOf22 hU6.c1 (hU6.frozen 1)) ?_
  have hU7 := hU6.set1 0
  have hF7 := hF6.far (Fr.setc u 1 (.int .u64 0)) hBu
  show Code.wp _ _ _ _ _
  refine wp_seq ?_
  refine wp_region ?_
  refine givenW_ops (N := 20) (i := 0) (d := 19) (s := .v (.agg #[.int .u64 ((l.getD 0 0 : Nat) : Int), .int .u64 0])) (l := [1]) rfl (want_ rfl) rfl (by decide) h14 (op_load2 hU7 rfl (h14.2 2 _ rfl) Try.isAgg38 Try.sizeOf38) (fun a15 h15 d15 => ?_)
  replace d15 := d15.trans d14
  clear h14 d14
  refine st_ops (i := 1) (l := []) rfl rfl rfl (op_store2 hU7 rfl (h15.2 2 _ rfl) (h15.2 19 _ rfl) (by kernel_rfl)) ?_
  have hU8 := hU7.row ((l.getD 0 0 : Nat) : Int) 0
  have hF8 := hF7.far (fr_row _ u #[.int .u64 ((l.getD 0 0 : Nat) : Int), .int .u64 0]) hBu
  show Code.wp _ _ _ _ _
  refine wp_ret ?_
  exact ⟨d15, _, res2 hU8 rfl (h15.2 2 _ rfl) Try.isAgg38 Try.sizeOf38, rfl, hF8⟩
set_option maxHeartbeats 8000000 in
set_option maxRecDepth 100000 in
theorem fb_two (p g c x y : Nat) (m : List Int) (hc : 2 ≤ c) (hm : 2 ≤ m.length) (hx : m.getD 0 0 = ((x : Nat) : Int)) (hy : m.getD 1 0 = ((y : Nat) : Int)) (hy0 : y ≠ 0) (h64 : y < 18446744073709551616) (hgp : p ≠ g) (w : World) (hI : IB w p false (.slice (some ⟨g, 0, none⟩) 2 c)) (hw : Wd w g m) :
    Calls Try.prog 21 #[.pointer (some ⟨p, 0, none⟩)] w fun e w' => e = .returned (.agg #[.int .u64 ((x : Nat) : Int), .int .u64 ((y : Nat) : Int)]) ∧ Fr [p, g] w w' := by
  have hW : Ws w p (some ⟨g, 0, none⟩) 2 c [x, y] := ⟨hc, rfl, by decide, fun _ => ⟨g, m, rfl, Ne.symm hgp, hw, hm, fun j hj => by
    obtain rfl | rfl : j = 0 ∨ j = 1 := by omega
    · exact hx
    · exact hy⟩⟩
  obtain ⟨r, hr1, hr2⟩ := bl_any [x, y] 2 rfl (by decide) (fun _ => ⟨hy0, h64⟩)
  refine calls_of_wp Try.func21 rfl ?_
  have h0 := has_one (β := bn []) (.v (.pointer (some ⟨p, 0, none⟩))) 19
  have d0 : (⟨#[.pointer (some ⟨p, 0, none⟩)] ++ Array.replicate 19 undef, []⟩ : Act).defers = [] := rfl
  refine wp_seq ?_
  refine wp_region ?_
  refine newR_ops (N := 20) (i := 0) (d := 2) (v := (.pointer (some ⟨w.heap.size, 0, none⟩))) (l := []) rfl rfl rfl (by decide) h0 (op_alloc128 rfl) (fun V => UC 38 V w.heap.size 0 0 ∧ Below w.heap.size w V) (⟨UC.new _ w _ _, (Below.refl w.heap.size w).alloc (Nat.le_refl _) _⟩) (fun a1 W1 r1 h1 d1 => ?_)
  replace d1 := d1.trans d0
  clear h0 d0
  obtain ⟨hU, hB⟩ := r1
  have hplt := hI.lt
  have hlt := hU.lt
  obtain ⟨u, hu⟩ : ∃ u, u = w.heap.size := ⟨_, rfl⟩
  rw [← hu] at hU hlt
  have hBu : w.heap.size ≤ u := by omega
  rw [← hu] at h1
  have hI1 := hI.below hB
  show Code.wp _ _ _ _ _
  have hW1 := hW.below hB
  have hglt := hw.lt
  have hw1 := hw.below hB
  refine wp_seq ?_
  refine wp_seq ?_
  refine wp_region ?_
  refine opsP (N := 20) (T := TT) (M := (fun _ _ => none)) tabOk (fun _ _ _ h => by cases h) [1, 2] [0] [(0, .v (.pointer (some ⟨p, 0, none⟩))), (2, .v (.pointer (some ⟨u, 0, none⟩))), (3, .v (.pointer (some ⟨p, 0, none⟩)))] h1 (by kernel_rfl) ⟨by kernel_rfl, by kernel_rfl, by kernel_rfl, trivial⟩ (fun a2 h2 d2 => ?_)
  replace d2 := d2.trans d1
  clear h1 d1
  refine callW_ops (N := 20) (i := 1) (d := 4) (f := 33) (args := [.v (.pointer (some ⟨p, 0, none⟩))]) (l := [2]) rfl (want_ rfl) rfl (by decide) h2 Try.func33 rfl rfl rfl (by kernel_rfl) (fun (v : Value) (W' : World) => ∃ z : Int, v = .int .i64 z ∧ 0 ≤ z ∧ W' = W1) (sign_ok p (some ⟨g, 0, none⟩) 2 c _ hI1) (fun v3 W3 a3 hR3 h3 d3 => ?_)
  replace d3 := d3.trans d2
  clear h2 d2
  obtain ⟨z, rfl, hz, e1⟩ := hR3
  obtain rfl := e1.symm
  refine opsP (N := 20) (T := TT) (M := (fun _ _ => none)) tabOk (fun _ _ _ h => by cases h) [] [2] [(0, .v (.pointer (some ⟨p, 0, none⟩))), (2, .v (.pointer (some ⟨u, 0, none⟩))), (5, .v (.bool (decide ((z : Int) < 0))))] h3 (by kernel_rfl) ⟨by kernel_rfl, by kernel_rfl, by kernel_rfl, trivial⟩ (fun a4 h4 d4 => ?_)
  replace d4 := d4.trans d3
  clear h3 d3
  rw [show (decide ((z : Int) < 0)) = false from decide_eq_false (by omega)] at h4
  show Code.wp _ _ _ _ _
  refine wp_cond_false (h4.2 5 _ rfl) ?_
  refine wp_seq ?_
  refine wp_region ?_
  refine opsP (N := 20) (T := TT) (M := (fun _ _ => none)) tabOk (fun _ _ _ h => by cases h) [1, 2] [0] [(0, .v (.pointer (some ⟨p, 0, none⟩))), (2, .v (.pointer (some ⟨u, 0, none⟩))), (5, .v (.bool false)), (7, .v (.pointer (some ⟨p, 0, none⟩)))] h4 (by kernel_rfl) ⟨by kernel_rfl, by kernel_rfl, by kernel_rfl, by kernel_rfl, trivial⟩ (fun a5 h5 d5 => ?_)
  replace d5 := d5.trans d4
  clear h4 d4
  refine callW_ops (N := 20) (i := 1) (d := 8) (f := 34) (args := [.v (.pointer (some ⟨p, 0, none⟩))]) (l := [2]) rfl (want_ rfl) rfl (by decide) h5 Try.func34 rfl rfl rfl (by kernel_rfl) (fun (v : Value) (W' : World) => v = .int .i64 ((r : Nat) : Int) ∧ Below (W1).heap.size W1 W') ((BitLen_walk p (some ⟨g, 0, none⟩) 2 c false [x, y] r _ hI1 hW1 hr1).mono fun e w' hh => ⟨_, hh.1, rfl, hh.2⟩) (fun v6 W6 a6 hR6 h6 d6 => ?_)
  replace d6 := d6.trans d5
  clear h5 d5
  obtain ⟨rfl, hBa⟩ := hR6
  have hI2 := hI1.below hBa
  have hU2 := hU.below hBa
  have hW2 := hW1.below hBa
  have hB2 := hB.trans (hBa.mono hB.size)
  refine opsP (N := 20) (T := TT) (M := (fun _ _ => none)) tabOk (fun _ _ _ h => by cases h) [] [2] [(0, .v (.pointer (some ⟨p, 0, none⟩))), (2, .v (.pointer (some ⟨u, 0, none⟩))), (5, .v (.bool false)), (9, .v (.bool (decide ((((r : Nat) : Int) : Int) > 128))))] h6 (by kernel_rfl) ⟨by kernel_rfl, by kernel_rfl, by kernel_rfl, by kernel_rfl, trivial⟩ (fun a7 h7 d7 => ?_)
  replace d7 := d7.trans d6
  clear h6 d6
  rw [show (decide ((((r : Nat) : Int) : Int) > 128)) = false from decide_eq_false (by omega)] at h7
  show Code.wp _ _ _ _ _
  refine wp_cond_false (h7.2 9 _ rfl) ?_
  have hw2 := hw1.below hBa
  refine wp_skip ?_
  show Code.wp _ _ _ _ _
  refine wp_seq ?_
  refine wp_region ?_
  refine opsP (N := 20) (T := TT) (M := (fun _ _ => none)) tabOk (fun _ _ _ h => by cases h) [1, 2, 3] [0] [(0, .v (.pointer (some ⟨p, 0, none⟩))), (2, .v (.pointer (some ⟨u, 0, none⟩))), (5, .v (.bool false)), (9, .v (.bool false)), (11, .v (.pointer (some ⟨p, 0, none⟩)))] h7 (by kernel_rfl) ⟨by kernel_rfl, by kernel_rfl, by kernel_rfl, by kernel_rfl, by kernel_rfl, trivial⟩ (fun a8 h8 d8 => ?_)
  replace d8 := d8.trans d7
  clear h7 d7
  refine callW_ops (N := 20) (i := 1) (d := 12) (f := 35) (args := [.v (.pointer (some ⟨p, 0, none⟩))]) (l := [2, 3]) rfl (want_ rfl) rfl (by decide) h8 Try.func35 rfl rfl rfl (by kernel_rfl) (fun (v : Value) (W' : World) => v = .int .u64 ((x : Nat) : Int) ∧ Below (W6).heap.size W6 W') ((Uint64_walk p (some ⟨g, 0, none⟩) 2 c false [x, y] _ hI2 hW2).mono fun e w' hh => ⟨_, hh.1, rfl, hh.2⟩) (fun v9 W9 a9 hR9 h9 d9 => ?_)
  replace d9 := d9.trans d8
  clear h8 d8
  obtain ⟨rfl, hBb⟩ := hR9
  have hI3 := hI2.below hBb
  have hU3 := hU2.below hBb
  have hB3 := hB2.trans (hBb.mono hB2.size)
  have hw3 := hw2.below hBb
  refine givenW_ops (N := 20) (i := 2) (d := 13) (s := .v (.pointer (some ⟨u, 0, none⟩))) (l := [3]) rfl (want_ rfl) rfl (by decide) h9 (op_fU0 rfl (h9.2 2 _ rfl)) (fun a10 h10 d10 => ?_)
  replace d10 := d10.trans d9
  clear h9 d9
  refine st_ops (i := 3) (l := []) rfl rfl rfl (op_store rfl (h10.2 13 _ rfl) (h10.2 12 _ rfl) (Or.inl ⟨_, _, rfl⟩) Try.sizeOf22 hU3.c0 (hU3.frozen 0)) ?_
  have hup : u ≠ p := by omega
  have hU4 := hU3.set0 ((x : Nat) : Int)
  have hFa := Fr.setc (W := W9) u 0 (.int .u64 ((x : Nat) : Int))
  have hI4 := hI3.on hFa (by simp; omega)
  have hF4 := (Fr.ofBelow [p, g] hB3).far hFa hBu
  have hw4 := hw3.on hFa (by simp; omega)
  show Code.wp _ _ _ _ _
  refine wp_seq ?_
  refine wp_region ?_
  refine opsP (N := 20) (T := TT) (M := (fun _ _ => none)) tabOk (fun _ _ _ h => by cases h) [2, 3, 4, 5] [0, 1] [(0, .v (.pointer (some ⟨p, 0, none⟩))), (2, .v (.pointer (some ⟨u, 0, none⟩))), (5, .v (.bool false)), (9, .v (.bool false)), (14, .v (.pointer (some ⟨p, 0, none⟩))), (15, .v (.pointer (some ⟨p, 0, none⟩)))] h10 (by kernel_rfl) ⟨by kernel_rfl, by kernel_rfl, by kernel_rfl, by kernel_rfl, by kernel_rfl, by kernel_rfl, trivial⟩ (fun a11 h11 d11 => ?_)
  replace d11 := d11.trans d10
  clear h10 d10
  refine callW_ops (N := 20) (i := 2) (d := 16) (f := 36) (args := [.v (.pointer (some ⟨p, 0, none⟩)), .v (.pointer (some ⟨p, 0, none⟩)), .v (.int .u64 64)]) (l := [3, 4, 5]) rfl (want_ rfl) rfl (by decide) h11 Try.func36 rfl rfl rfl (by kernel_rfl) (fun (v : Value) (W' : World) => v = .pointer (some ⟨p, 0, none⟩) ∧ IB W' p false (.slice (some ⟨g, 0, none⟩) 1 c) ∧ Wd W' g (layW m 0 [m.getD 1 0]) ∧ Fr [p, g] (World.setCell W9 ⟨u, 0, none⟩ (.int .u64 ((x : Nat) : Int))) W') ((Rsh_two p g c m hc hm (by rw [hy]; omega) hgp _ hI4 hw4).mono fun e w' hh => ⟨_, hh.1, rfl, hh.2⟩) (fun v12 W12 a12 hR12 h12 d12 => ?_)
  replace d12 := d12.trans d11
  clear h11 d11
  obtain ⟨rfl, hI5, hw5, hFb⟩ := hR12
  have hU5 := hU4.on hFb (by simp; omega)
  have hW5 : Ws W12 p (some ⟨g, 0, none⟩) 1 c [y] := ⟨by omega, rfl, by decide, fun _ => ⟨g, _, rfl, Ne.symm hgp, hw5, by rw [layW_len _ _ (by omega)]; omega, fun j hj => by obtain rfl : j = 0 := (by omega); rw [layW_one _ _ (by omega), hy]; rfl⟩⟩
  have hF5 := hF4.trans hFb
  refine callW_ops (N := 20) (i := 3) (d := 17) (f := 35) (args := [.v (.pointer (some ⟨p, 0, none⟩))]) (l := [4, 5]) rfl (want_ rfl) rfl (by decide) h12 Try.func35 rfl rfl rfl (by kernel_rfl) (fun (v : Value) (W' : World) => v = .int .u64 ((y : Nat) : Int) ∧ Below (W12).heap.size W12 W') ((Uint64_walk p (some ⟨g, 0, none⟩) 1 c false [y] _ hI5 hW5).mono fun e w' hh => ⟨_, hh.1, rfl, hh.2⟩) (fun v13 W13 a13 hR13 h13 d13 => ?_)
  replace d13 := d13.trans d12
  clear h12 d12
  obtain ⟨rfl, hBc⟩ := hR13
  have hU6 := hU5.below hBc
  have hF6 := hF5.trans (Fr.ofBelow _ hBc)
  refine givenW_ops (N := 20) (i := 4) (d := 18) (s := .v (.pointer (some ⟨u, 1, none⟩))) (l := [5]) rfl (want_ rfl) rfl (by decide) h13 (op_fU rfl (h13.2 2 _ rfl)) (fun a14 h14 d14 => ?_)
  replace d14 := d14.trans d13
  clear h13 d13
  refine st_ops (i := 5) (l := []) rfl rfl rfl (op_store rfl (h14.2 18 _ rfl) (h14.2 17 _ rfl) (Or.inl ⟨_, _, rfl⟩) Try.sizeOf22 hU6.c1 (hU6.frozen 1)) ?_
  have hU7 := hU6.set1 ((y : Nat) : Int)
  have hF7 := hF6.far (Fr.setc u 1 (.int .u64 ((y : Nat) : Int))) hBu
  show Code.wp _ _ _ _ _
  refine wp_seq ?_
  refine wp_region ?_
  refine givenW_ops (N := 20) (i := 0) (d := 19) (s := .v (.agg #[.int .u64 ((x : Nat) : Int), .int .u64 ((y : Nat) : Int)])) (l := [1]) rfl (want_ rfl) rfl (by decide) h14 (op_load2 hU7 rfl (h14.2 2 _ rfl) Try.isAgg38 Try.sizeOf38) (fun a15 h15 d15 => ?_)
  replace d15 := d15.trans d14
  clear h14 d14
  refine st_ops (i := 1) (l := []) rfl rfl rfl (op_store2 hU7 rfl (h15.2 2 _ rfl) (h15.2 19 _ rfl) (by kernel_rfl)) ?_
  have hU8 := hU7.row ((x : Nat) : Int) ((y : Nat) : Int)
  have hF8 := hF7.far (fr_row _ u #[.int .u64 ((x : Nat) : Int), .int .u64 ((y : Nat) : Int)]) hBu
  show Code.wp _ _ _ _ _
  refine wp_ret ?_
  exact ⟨d15, _, res2 hU8 rfl (h15.2 2 _ rfl) Try.isAgg38 Try.sizeOf38, rfl, hF8⟩
end Go.Proofs.Ytjmgiodkfgdgnaa.PAll
namespace Go.Proofs.Ytjmgiodkfgdgnaa.PAll
open Go.RowKit Go.Proofs.YtjmgiodkfgdgnaaW.PrintWords Go.Proofs.YtjmgiodkfgdgnaaW.PrintLast Go.Proofs.YtjmgiodkfgdgnaaW.PrintMore
set_option linter.unusedVariables false
set_option linter.unusedSimpArgs false
theorem top_zero (l : List Int) : topN l 0 = 0 := rfl
theorem top_suc (l : List Int) (k : Nat) : topN l (k + 1) = if l.getD k 0 = 0 then topN l k else k + 1 := rfl
theorem top_val (V c : Nat) (k : Nat) : k ≤ c → V < 2 ^ (64 * k) → V < 2 ^ (64 * topN (fm (wV V) c) k) ∧ (0 < topN (fm (wV V) c) k → 2 ^ (64 * (topN (fm (wV V) c) k - 1)) ≤ V) := by
  induction k with
  | zero =>
    intro _ h
    rw [top_zero]
    exact ⟨h, fun h0 => absurd h0 (Nat.lt_irrefl 0)⟩
  | succ k ih =>
    intro hk h
    have hp : 0 < 2 ^ (64 * k) := Nat.pow_pos (by decide)
    have e1 : 2 ^ (64 * (k + 1)) = 2 ^ (64 * k) * 18446744073709551616 := by rw [show 64 * (k + 1) = 64 * k + 64 by omega, Nat.pow_add]
    have h2 : V / 2 ^ (64 * k) < 18446744073709551616 := by
      rw [Nat.div_lt_iff_lt_mul hp]
      rw [e1, Nat.mul_comm] at h
      exact h
    rw [top_suc, fm_get _ _ _ (by omega)]
    unfold wV
    rw [Nat.mod_eq_of_lt h2]
    by_cases h0 : V / 2 ^ (64 * k) = 0
    · rw [if_pos (by omega)]
      have h3 : V < 2 ^ (64 * k) := by
        rcases Nat.div_eq_zero_iff.1 h0 with h4 | h4
        · omega
        · exact h4
      exact ih (by omega) h3
    · rw [if_neg (by omega)]
      refine ⟨h, fun _ => ?_⟩
      rw [Nat.add_sub_cancel]
      refine Nat.le_of_not_lt (fun h4 => h0 (Nat.div_eq_of_lt h4))
/-- The block p holds the number V with a sign; its words lie from the block base on. -/
def Num (W : World) (base p : Nat) (neg : Bool) (V : Nat) : Prop := ∃ A m c, IB W p neg (.slice A m c) ∧ m ≤ c ∧ m < 900 ∧ V < 2 ^ (64 * m) ∧
  (0 < m → 2 ^ (64 * (m - 1)) ≤ V ∧ ∃ g xs, A = some ⟨g, 0, none⟩ ∧ base ≤ g ∧ g ≠ p ∧ Wd W g xs ∧ m ≤ xs.length ∧ ∀ j, j < m → xs.getD j 0 = wV V j)
theorem setB_num (p base : Nat) (b : Bool) (A : Option Addr) (n c : Nat) (l : List Nat) (hl : l.length = n) (hc : n ≤ c) (h8 : ∀ o ∈ l, o < 256) (hn : n < 900) (w : World) (hb : base ≤ w.heap.size) (hI : IB w p b (.slice none 0 0)) (h : Oc w A l) :
    Calls Try.prog 18 #[.pointer (some ⟨p, 0, none⟩), .slice A n c] w fun e w' => e = .returned (.pointer (some ⟨p, 0, none⟩)) ∧ Num w' base p false (beN l) ∧ Fr [p] w w' := by
  by_cases h0 : n = 0
  · subst h0
    obtain rfl := List.eq_nil_of_length_eq_zero hl
    exact (setB_nil p b A c w hI).mono fun e w' hh => ⟨hh.1, ⟨none, 0, 0, hh.2.1, Nat.le_refl _, by decide, by decide, fun h => absurd h (by decide)⟩, hh.2.2⟩
  · have hp := hI.lt
    refine (setB_some p b A n c l hl hc h8 hn (by omega) w hI h).mono fun e w' hh => ⟨hh.1, ⟨_, _, _, hh.2.1, ?_, ?_, ?_, fun hm => ⟨?_, w.heap.size, _, rfl, hb, by omega, hh.2.2.1, ?_, fun j hj => ?_⟩⟩, hh.2.2.2⟩
    · exact Nat.le_trans (topN_le _ _) (capN_le _)
    · have := topN_le (fm (wV (beN l)) (capN ((n + 7) / 8))) ((n + 7) / 8)
      omega
    · refine (top_val (beN l) _ _ (capN_le _) ?_).1
      have h1 := beN_lt l h8
      rw [p256, hl] at h1
      exact Nat.lt_of_lt_of_le h1 (Nat.pow_le_pow_right (by decide) (by omega))
    · refine (top_val (beN l) _ _ (capN_le _) ?_).2 hm
      have h1 := beN_lt l h8
      rw [p256, hl] at h1
      exact Nat.lt_of_lt_of_le h1 (Nat.pow_le_pow_right (by decide) (by omega))
    · rw [fm_len]
      exact Nat.le_trans (topN_le _ _) (capN_le _)
    · have h1 := topN_le (fm (wV (beN l)) (capN ((n + 7) / 8))) ((n + 7) / 8)
      have h2 := capN_le ((n + 7) / 8)
      exact fm_get _ _ _ (by omega)
theorem neg_num (p base V : Nat) (w : World) (h : Num w base p false V) :
    Calls Try.prog 19 #[.pointer (some ⟨p, 0, none⟩), .pointer (some ⟨p, 0, none⟩)] w fun e w' => e = .returned (.pointer (some ⟨p, 0, none⟩)) ∧ Num w' base p (decide (V ≠ 0)) V ∧ Fr [p] w w' := by
  obtain ⟨A, m, c, hI, hc, hm, hV, hw⟩ := h
  by_cases h0 : m = 0
  · subst h0
    have hz : V = 0 := by simpa using hV
    subst hz
    exact (neg_zero p A c w hI).mono fun e w' hh => ⟨hh.1, ⟨A, 0, c, hh.2.1, hc, hm, hV, fun h => absurd h (by decide)⟩, hh.2.2⟩
  · obtain ⟨h1, g, xs, hA, hg, hgp, hx, hl, hj⟩ := hw (by omega)
    have hp : 0 < 2 ^ (64 * (m - 1)) := Nat.pow_pos (by decide)
    have hd : decide (V ≠ 0) = true := decide_eq_true (by omega)
    rw [hd]
    exact (neg_some p A m c (by omega) w hI).mono fun e w' hh => ⟨hh.1, ⟨A, m, c, hh.2.1, hc, hm, hV, fun _ => ⟨h1, g, xs, hA, hg, hgp, hx.on hh.2.2 (by simpa using hgp), hl, hj⟩⟩, hh.2.2⟩
/-- The words of V. -/
def wds (V m : Nat) : List Nat := (List.range m).map (fun j => V / 2 ^ (64 * j) % 18446744073709551616)
theorem wds_get (V m j : Nat) (h : j < m) : (wds V m).getD j 0 = V / 2 ^ (64 * j) % 18446744073709551616 := by
  simp [wds, List.getD_eq_getElem?_getD, h]
theorem top_word (V m : Nat) (h0 : 0 < m) (hV : V < 2 ^ (64 * m)) (h1 : 2 ^ (64 * (m - 1)) ≤ V) : V / 2 ^ (64 * (m - 1)) % 18446744073709551616 ≠ 0 := by
  have hp : 0 < 2 ^ (64 * (m - 1)) := Nat.pow_pos (by decide)
  have e1 : 2 ^ (64 * m) = 2 ^ (64 * (m - 1)) * 18446744073709551616 := by rw [show 64 * m = 64 * (m - 1) + 64 by omega, Nat.pow_add]
  have h2 : V / 2 ^ (64 * (m - 1)) < 18446744073709551616 := by
    rw [Nat.div_lt_iff_lt_mul hp, Nat.mul_comm, ← e1]
    exact hV
  rw [Nat.mod_eq_of_lt h2]
  have := (Nat.one_le_div_iff hp).2 h1
  omega
theorem fb_num_die (p base V : Nat) (neg : Bool) (w : World) (hb : base ≤ w.heap.size) (h : Num w base p neg V) (hd : (neg = true ∧ V ≠ 0) ∨ (neg = false ∧ 2 ^ 128 ≤ V)) :
    Calls Try.prog 21 #[.pointer (some ⟨p, 0, none⟩)] w fun e w' => (∃ pv, e = .panicked [{ v := .iface 9 pv, recovered := false }]) ∧ Below base w w' := by
  obtain ⟨A, m, c, hI, hc, hm, hV, hw⟩ := h
  rcases hd with ⟨rfl, hd⟩ | ⟨rfl, hd⟩
  · have h0 : 0 < m := by
      refine Nat.pos_of_ne_zero (fun h0 => hd ?_)
      subst h0
      simpa using hV
    exact (fb_neg p A m c h0 w hI).mono fun e w' hh => ⟨hh.1, hh.2.mono hb⟩
  · have h3 : 3 ≤ m := by
      refine Nat.le_of_not_lt (fun h3 => ?_)
      have : 2 ^ (64 * m) ≤ 2 ^ 128 := Nat.pow_le_pow_right (by decide) (by omega)
      omega
    obtain ⟨h1, g, xs, hA, hg, hgp, hx, hl, hj⟩ := hw (by omega)
    have hW : Ws w p A m c (wds V m) := ⟨hc, by simp [wds], hm, fun _ => ⟨g, xs, hA, hgp, hx, hl, fun j hj' => by rw [hj j hj', wds_get V m j hj']; rfl⟩⟩
    have ht := top_word V m (by omega) hV h1
    rw [← wds_get V m (m - 1) (by omega)] at ht
    exact (fb_big p A m c (wds V m) h3 ht (by rw [wds_get V m (m - 1) (by omega)]; omega) w hI hW).mono fun e w' hh => ⟨hh.1, hh.2.mono hb⟩
theorem fb_num_ret (p base V : Nat) (w : World) (hb : base ≤ w.heap.size) (hbp : base ≤ p) (h : Num w base p false V) (hd : V < 2 ^ 128) :
    Calls Try.prog 21 #[.pointer (some ⟨p, 0, none⟩)] w fun e w' => e = .returned (.agg #[.int .u64 ((V % 18446744073709551616 : Nat) : Int), .int .u64 ((V / 18446744073709551616 : Nat) : Int)]) ∧ Below base w w' := by
  obtain ⟨A, m, c, hI, hc, hm, hV, hw⟩ := h
  have hW : Ws w p A m c (wds V m) := ⟨hc, by simp [wds], hm, fun h0 => by
    obtain ⟨h1, g, xs, hA, hg, hgp, hx, hl, hj⟩ := hw h0
    exact ⟨g, xs, hA, hgp, hx, hl, fun j hj' => by rw [hj j hj', wds_get V m j hj']; rfl⟩⟩
  by_cases h1 : m ≤ 1
  · have hlt : V < 18446744073709551616 := Nat.lt_of_lt_of_le hV (Nat.pow_le_pow_right (by decide) (by omega : 64 * m ≤ 64))
    have e1 : (wds V m).getD 0 0 = V % 18446744073709551616 := by
      by_cases h0 : m = 0
      · subst h0
        have hz : V = 0 := by simpa using hV
        subst hz
        rfl
      · rw [wds_get V m 0 (by omega), Nat.mul_zero, Nat.pow_zero, Nat.div_one]
    refine (fb_low p A m c (wds V m) h1 (fun h0 => ?_) w hI hW).mono fun e w' hh => ⟨hh.1.trans ?_, hh.2.below base hb (by simp; omega)⟩
    · obtain ⟨h2, _⟩ := hw h0
      rw [wds_get V m (m - 1) (by omega)]
      exact ⟨top_word V m h0 hV h2, by omega⟩
    · rw [e1, Nat.div_eq_of_lt hlt]
      rfl
  · have h2 : m = 2 := by
      have h3 := hw (by omega)
      refine Nat.le_antisymm (Nat.le_of_not_lt (fun h4 => ?_)) (by omega)
      have : 2 ^ 128 ≤ 2 ^ (64 * (m - 1)) := Nat.pow_le_pow_right (by decide) (by omega)
      omega
    subst h2
    obtain ⟨h2, g, xs, rfl, hg, hgp, hx, hl, hj⟩ := hw (by decide)
    have hlt : V / 18446744073709551616 < 18446744073709551616 := by omega
    have hne : V / 18446744073709551616 ≠ 0 := by
      have : 18446744073709551616 ≤ V := h2
      omega
    refine (fb_two p g c (V % 18446744073709551616) (V / 18446744073709551616) xs hc hl ?_ ?_ hne hlt (Ne.symm hgp) w hI hx).mono fun e w' hh => ⟨hh.1, hh.2.below base hb (by simp; omega)⟩
    · rw [hj 0 (by decide)]
      unfold wV
      rw [Nat.mul_zero, Nat.pow_zero, Nat.div_one]
    · rw [hj 1 (by decide)]
      unfold wV
      rw [Nat.mul_one, show (2 : Nat) ^ 64 = 18446744073709551616 from rfl, Nat.mod_eq_of_lt hlt]
theorem Num.on {W W' : World} {base p V t : Nat} {neg : Bool} (h : Num W base p neg V) (hF : Fr [t] W W') (ht : t < base) (hp : t ≠ p) : Num W' base p neg V := by
  obtain ⟨A, m, c, hI, hc, hm, hV, hw⟩ := h
  refine ⟨A, m, c, hI.on hF (by simpa using Ne.symm hp), hc, hm, hV, fun h0 => ?_⟩
  obtain ⟨h1, g, xs, hA, hg, hgp, hx, hl, hj⟩ := hw h0
  exact ⟨h1, g, xs, hA, hg, hgp, hx.on hF (by simp; omega), hl, hj⟩
end Go.Proofs.Ytjmgiodkfgdgnaa.PAll
namespace Go.Proofs.Ytjmgiodkfgdgnaa.PAll
open Go.RowKit Go.Proofs.YtjmgiodkfgdgnaaW.PrintWords Go.Proofs.YtjmgiodkfgdgnaaW.PrintLast Go.Proofs.YtjmgiodkfgdgnaaW.PrintMore
set_option linter.unusedVariables false
set_option linter.unusedSimpArgs false
theorem allocWide : AllocOk Try.prog 24 #[.int .u64 0, .int .u64 0] := by
  intro ρ o W ho
  unfold execOp
  rw [ho]
  simp [go_sem]
theorem op_allocWide {ρ : Operand → Value} {o : Oper} {W : World} (ho : o.op = .alloc 24) : (execOp ρ o).run Try.prog W = .ok (.value (.pointer (some ⟨W.heap.size, 0, none⟩))) (W.alloc (.cells #[.int .u64 0, .int .u64 0] 24)) := allocWide ρ o W ho
set_option maxHeartbeats 8000000 in
set_option maxRecDepth 100000 in
theorem clo_dieN (bx bY n c : Nat) (A : Option Addr) (l : List Nat) (hl : l.length = n) (hc : n ≤ c) (h8 : ∀ o ∈ l, o < 256) (hn : n < 900) (hd : beN l ≠ 0) (w : World) (hbx : bx < w.heap.size) (hby : bY < w.heap.size) (hx : w.cell? ⟨bx, 0, none⟩ = some (.slice A n c)) (hy : w.cell? ⟨bY, 0, none⟩ = some (.bool true)) (h : Oc w A l) :
    Calls Try.prog 17 #[.pointer (some ⟨bx, 0, none⟩), .pointer (some ⟨bY, 0, none⟩)] w fun e w' => (∃ pv, e = .panicked [{ v := .iface 9 pv, recovered := false }]) ∧ Below w.heap.size w w' := by
  refine calls_of_wp Try.func17 rfl ?_
  have h0 := has_two (β := bn []) (.v (.pointer (some ⟨bx, 0, none⟩))) (.v (.pointer (some ⟨bY, 0, none⟩))) 12
  have d0 : (⟨#[.pointer (some ⟨bx, 0, none⟩), .pointer (some ⟨bY, 0, none⟩)] ++ Array.replicate 12 undef, []⟩ : Act).defers = [] := rfl
  refine wp_seq ?_
  refine wp_region ?_
  obtain ⟨t, ht⟩ : ∃ t, t = w.heap.size := ⟨_, rfl⟩
  refine newR_ops (N := 14) (i := 0) (d := 2) (v := (.pointer (some ⟨t, 0, none⟩))) (l := []) rfl rfl rfl (by decide) h0 (by rw [ht]; exact op_allocWide rfl) (fun V => UC 24 V t 0 0 ∧ Below w.heap.size w V) (⟨by rw [ht]; exact UC.new _ w _ _, (Below.refl w.heap.size w).alloc (Nat.le_refl _) _⟩) (fun a1 W1 r1 h1 d1 => ?_)
  replace d1 := d1.trans d0
  clear h0 d0
  obtain ⟨hU, hB⟩ := r1
  have htlt := hU.lt
  show Code.wp _ _ _ _ _
  refine wp_seq ?_
  refine wp_region ?_
  obtain ⟨p, hp⟩ : ∃ p, p = W1.heap.size := ⟨_, rfl⟩
  refine newR_ops (N := 14) (i := 0) (d := 4) (v := (.pointer (some ⟨p, 0, none⟩))) (l := [1, 2, 3]) rfl rfl rfl (by decide) h1 (by rw [hp]; exact op_allocI rfl) (fun V => IB V p false (.slice none 0 0) ∧ Below w.heap.size w V ∧ Fr [] W1 V) (⟨by rw [hp]; exact IB.new W1, hB.trans ((Below.refl w.heap.size W1).alloc hB.size _), fr_alloc [] _ _⟩) (fun a2 W2 r2 h2 d2 => ?_)
  replace d2 := d2.trans d1
  clear h1 d1
  obtain ⟨hI, hB2, hF⟩ := r2
  have hplt := hI.lt
  have hU2 := hU.on hF (by simp)
  refine givenW_ops (N := 14) (i := 1) (d := 5) (s := .v (.slice A n c)) (l := [2, 3]) rfl (want_ rfl) rfl (by decide) h2 (op_load rfl (h2.2 0 _ rfl) Try.isAgg25 ((hB2.cell (p := ⟨bx, 0, none⟩) hbx).trans hx)) (fun a3 h3 d3 => ?_)
  replace d3 := d3.trans d2
  clear h2 d2
  refine callW_ops (N := 14) (i := 2) (d := 6) (f := 18) (args := [.v (.pointer (some ⟨p, 0, none⟩)), .v (.slice A n c)]) (l := [3]) rfl (want_ rfl) rfl (by decide) h3 Try.func18 rfl rfl rfl (by kernel_rfl) (fun (v : Value) (W' : World) => v = .pointer (some ⟨p, 0, none⟩) ∧ Num W' (t + 1) p false (beN l) ∧ Fr [p] W2 W') ((setB_num p (t + 1) false A n c l hl hc h8 hn _ (by omega) hI (h.below hB2)).mono fun e w' hh => ⟨_, hh.1, rfl, hh.2⟩) (fun v4 W4 a4 hR4 h4 d4 => ?_)
  replace d4 := d4.trans d3
  clear h3 d3
  obtain ⟨rfl, hN, hF3⟩ := hR4
  have hU3 := hU2.on hF3 (by simp; omega)
  have hB3 := hB2.trans (hF3.below w.heap.size hB2.size (by simp; omega))
  refine opsP (N := 14) (T := TT) (M := (fun _ _ => none)) tabOk (fun _ _ _ h => by cases h) [] [3] [(0, .v (.pointer (some ⟨bx, 0, none⟩))), (1, .v (.pointer (some ⟨bY, 0, none⟩))), (2, .v (.pointer (some ⟨t, 0, none⟩))), (3, .v (.pointer (some ⟨p, 0, none⟩)))] h4 (by kernel_rfl) ⟨by kernel_rfl, by kernel_rfl, by kernel_rfl, by kernel_rfl, trivial⟩ (fun a5 h5 d5 => ?_)
  replace d5 := d5.trans d4
  clear h4 d4
  show Code.wp _ _ _ _ _
  refine wp_seq ?_
  refine wp_seq ?_
  refine wp_region ?_
  refine givenW_ops (N := 14) (i := 0) (d := 7) (s := .v (.bool true)) (l := []) rfl (want_ rfl) rfl (by decide) h5 (op_load rfl (h5.2 1 _ rfl) Try.isAgg4 ((hB3.cell (p := ⟨bY, 0, none⟩) hby).trans hy)) (fun a6 h6 d6 => ?_)
  replace d6 := d6.trans d5
  clear h5 d5
  show Code.wp _ _ _ _ _
  refine wp_cond_true (h6.2 7 _ rfl) ?_
  refine wp_region ?_
  refine opsP (N := 14) (T := TT) (M := (fun _ _ => none)) tabOk (fun _ _ _ h => by cases h) [2] [0, 1] [(0, .v (.pointer (some ⟨bx, 0, none⟩))), (1, .v (.pointer (some ⟨bY, 0, none⟩))), (2, .v (.pointer (some ⟨t, 0, none⟩))), (3, .v (.pointer (some ⟨p, 0, none⟩))), (7, .v (.bool true)), (8, .v (.pointer (some ⟨p, 0, none⟩))), (9, .v (.pointer (some ⟨p, 0, none⟩)))] h6 (by kernel_rfl) ⟨by kernel_rfl, by kernel_rfl, by kernel_rfl, by kernel_rfl, by kernel_rfl, by kernel_rfl, by kernel_rfl, trivial⟩ (fun a7 h7 d7 => ?_)
  replace d7 := d7.trans d6
  clear h6 d6
  refine callW_ops (N := 14) (i := 2) (d := 10) (f := 19) (args := [.v (.pointer (some ⟨p, 0, none⟩)), .v (.pointer (some ⟨p, 0, none⟩))]) (l := []) rfl (want_ rfl) rfl (by decide) h7 Try.func19 rfl rfl rfl (by kernel_rfl) (fun (v : Value) (W' : World) => v = .pointer (some ⟨p, 0, none⟩) ∧ Num W' (t + 1) p (decide (beN l ≠ 0)) (beN l) ∧ Fr [p] W4 W') ((neg_num p (t + 1) _ _ hN).mono fun e w' hh => ⟨_, hh.1, rfl, hh.2⟩) (fun v8 W8 a8 hR8 h8 d8 => ?_)
  replace d8 := d8.trans d7
  clear h7 d7
  obtain ⟨rfl, hN4, hF4⟩ := hR8
  have hU4 := hU3.on hF4 (by simp; omega)
  have hB4 := hB3.trans (hF4.below w.heap.size hB3.size (by simp; omega))
  have hs4 : t + 1 ≤ W8.heap.size := hU4.lt
  rw [show decide (beN l ≠ 0) = true from decide_eq_true hd] at hN4
  show Code.wp _ _ _ _ _
  refine wp_seq ?_
  refine wp_region ?_
  refine opsP (N := 14) (T := TT) (M := (fun _ _ => none)) tabOk (fun _ _ _ h => by cases h) [1, 2, 3] [0] [(0, .v (.pointer (some ⟨bx, 0, none⟩))), (1, .v (.pointer (some ⟨bY, 0, none⟩))), (2, .v (.pointer (some ⟨t, 0, none⟩))), (3, .v (.pointer (some ⟨p, 0, none⟩))), (7, .v (.bool true)), (11, .v (.pointer (some ⟨p, 0, none⟩)))] h8 (by kernel_rfl) ⟨by kernel_rfl, by kernel_rfl, by kernel_rfl, by kernel_rfl, by kernel_rfl, by kernel_rfl, trivial⟩ (fun a9 h9 d9 => ?_)
  replace d9 := d9.trans d8
  clear h8 d8
  refine callP_ops (N := 14) (i := 1) (d := 12) (f := 21) (args := [.v (.pointer (some ⟨p, 0, none⟩))]) rfl rfl h9 Try.func21 rfl rfl rfl (by kernel_rfl) ((fb_num_die p (t + 1) (beN l) true _ hs4 hN4 (Or.inl ⟨rfl, hd⟩)).mono fun e w' hh => ?_)
  obtain ⟨⟨pv, rfl⟩, hb⟩ := hh
  exact ⟨_, rfl, d9, ⟨pv, rfl⟩, hB4.trans (hb.mono (by omega))⟩
set_option maxHeartbeats 8000000 in
set_option maxRecDepth 100000 in
theorem clo_retN (bx bY n c : Nat) (A : Option Addr) (l : List Nat) (hl : l.length = n) (hc : n ≤ c) (h8 : ∀ o ∈ l, o < 256) (hn : n < 900) (hd : beN l = 0) (w : World) (hbx : bx < w.heap.size) (hby : bY < w.heap.size) (hx : w.cell? ⟨bx, 0, none⟩ = some (.slice A n c)) (hy : w.cell? ⟨bY, 0, none⟩ = some (.bool true)) (h : Oc w A l) :
    Calls Try.prog 17 #[.pointer (some ⟨bx, 0, none⟩), .pointer (some ⟨bY, 0, none⟩)] w fun e w' => e = .returned (.agg #[.int .u64 ((beN l % 18446744073709551616 : Nat) : Int), .int .u64 ((beN l / 18446744073709551616 : Nat) : Int)]) ∧ Below w.heap.size w w' := by
  refine calls_of_wp Try.func17 rfl ?_
  have h0 := has_two (β := bn []) (.v (.pointer (some ⟨bx, 0, none⟩))) (.v (.pointer (some ⟨bY, 0, none⟩))) 12
  have d0 : (⟨#[.pointer (some ⟨bx, 0, none⟩), .pointer (some ⟨bY, 0, none⟩)] ++ Array.replicate 12 undef, []⟩ : Act).defers = [] := rfl
  refine wp_seq ?_
  refine wp_region ?_
  obtain ⟨t, ht⟩ : ∃ t, t = w.heap.size := ⟨_, rfl⟩
  refine newR_ops (N := 14) (i := 0) (d := 2) (v := (.pointer (some ⟨t, 0, none⟩))) (l := []) rfl rfl rfl (by decide) h0 (by rw [ht]; exact op_allocWide rfl) (fun V => UC 24 V t 0 0 ∧ Below w.heap.size w V) (⟨by rw [ht]; exact UC.new _ w _ _, (Below.refl w.heap.size w).alloc (Nat.le_refl _) _⟩) (fun a1 W1 r1 h1 d1 => ?_)
  replace d1 := d1.trans d0
  clear h0 d0
  obtain ⟨hU, hB⟩ := r1
  have htlt := hU.lt
  show Code.wp _ _ _ _ _
  refine wp_seq ?_
  refine wp_region ?_
  obtain ⟨p, hp⟩ : ∃ p, p = W1.heap.size := ⟨_, rfl⟩
  refine newR_ops (N := 14) (i := 0) (d := 4) (v := (.pointer (some ⟨p, 0, none⟩))) (l := [1, 2, 3]) rfl rfl rfl (by decide) h1 (by rw [hp]; exact op_allocI rfl) (fun V => IB V p false (.slice none 0 0) ∧ Below w.heap.size w V ∧ Fr [] W1 V) (⟨by rw [hp]; exact IB.new W1, hB.trans ((Below.refl w.heap.size W1).alloc hB.size _), fr_alloc [] _ _⟩) (fun a2 W2 r2 h2 d2 => ?_)
  replace d2 := d2.trans d1
  clear h1 d1
  obtain ⟨hI, hB2, hF⟩ := r2
  have hplt := hI.lt
  have hU2 := hU.on hF (by simp)
  refine givenW_ops (N := 14) (i := 1) (d := 5) (s := .v (.slice A n c)) (l := [2, 3]) rfl (want_ rfl) rfl (by decide) h2 (op_load rfl (h2.2 0 _ rfl) Try.isAgg25 ((hB2.cell (p := ⟨bx, 0, none⟩) hbx).trans hx)) (fun a3 h3 d3 => ?_)
  replace d3 := d3.trans d2
  clear h2 d2
  refine callW_ops (N := 14) (i := 2) (d := 6) (f := 18) (args := [.v (.pointer (some ⟨p, 0, none⟩)), .v (.slice A n c)]) (l := [3]) rfl (want_ rfl) rfl (by decide) h3 Try.func18 rfl rfl rfl (by kernel_rfl) (fun (v : Value) (W' : World) => v = .pointer (some ⟨p, 0, none⟩) ∧ Num W' (t + 1) p false (beN l) ∧ Fr [p] W2 W') ((setB_num p (t + 1) false A n c l hl hc h8 hn _ (by omega) hI (h.below hB2)).mono fun e w' hh => ⟨_, hh.1, rfl, hh.2⟩) (fun v4 W4 a4 hR4 h4 d4 => ?_)
  replace d4 := d4.trans d3
  clear h3 d3
  obtain ⟨rfl, hN, hF3⟩ := hR4
  have hU3 := hU2.on hF3 (by simp; omega)
  have hB3 := hB2.trans (hF3.below w.heap.size hB2.size (by simp; omega))
  refine opsP (N := 14) (T := TT) (M := (fun _ _ => none)) tabOk (fun _ _ _ h => by cases h) [] [3] [(0, .v (.pointer (some ⟨bx, 0, none⟩))), (1, .v (.pointer (some ⟨bY, 0, none⟩))), (2, .v (.pointer (some ⟨t, 0, none⟩))), (3, .v (.pointer (some ⟨p, 0, none⟩)))] h4 (by kernel_rfl) ⟨by kernel_rfl, by kernel_rfl, by kernel_rfl, by kernel_rfl, trivial⟩ (fun a5 h5 d5 => ?_)
  replace d5 := d5.trans d4
  clear h4 d4
  show Code.wp _ _ _ _ _
  refine wp_seq ?_
  refine wp_seq ?_
  refine wp_region ?_
  refine givenW_ops (N := 14) (i := 0) (d := 7) (s := .v (.bool true)) (l := []) rfl (want_ rfl) rfl (by decide) h5 (op_load rfl (h5.2 1 _ rfl) Try.isAgg4 ((hB3.cell (p := ⟨bY, 0, none⟩) hby).trans hy)) (fun a6 h6 d6 => ?_)
  replace d6 := d6.trans d5
  clear h5 d5
  show Code.wp _ _ _ _ _
  refine wp_cond_true (h6.2 7 _ rfl) ?_
  refine wp_region ?_
  refine opsP (N := 14) (T := TT) (M := (fun _ _ => none)) tabOk (fun _ _ _ h => by cases h) [2] [0, 1] [(0, .v (.pointer (some ⟨bx, 0, none⟩))), (1, .v (.pointer (some ⟨bY, 0, none⟩))), (2, .v (.pointer (some ⟨t, 0, none⟩))), (3, .v (.pointer (some ⟨p, 0, none⟩))), (7, .v (.bool true)), (8, .v (.pointer (some ⟨p, 0, none⟩))), (9, .v (.pointer (some ⟨p, 0, none⟩)))] h6 (by kernel_rfl) ⟨by kernel_rfl, by kernel_rfl, by kernel_rfl, by kernel_rfl, by kernel_rfl, by kernel_rfl, by kernel_rfl, trivial⟩ (fun a7 h7 d7 => ?_)
  replace d7 := d7.trans d6
  clear h6 d6
  refine callW_ops (N := 14) (i := 2) (d := 10) (f := 19) (args := [.v (.pointer (some ⟨p, 0, none⟩)), .v (.pointer (some ⟨p, 0, none⟩))]) (l := []) rfl (want_ rfl) rfl (by decide) h7 Try.func19 rfl rfl rfl (by kernel_rfl) (fun (v : Value) (W' : World) => v = .pointer (some ⟨p, 0, none⟩) ∧ Num W' (t + 1) p (decide (beN l ≠ 0)) (beN l) ∧ Fr [p] W4 W') ((neg_num p (t + 1) _ _ hN).mono fun e w' hh => ⟨_, hh.1, rfl, hh.2⟩) (fun v8 W8 a8 hR8 h8 d8 => ?_)
  replace d8 := d8.trans d7
  clear h7 d7
  obtain ⟨rfl, hN4, hF4⟩ := hR8
  have hU4 := hU3.on hF4 (by simp; omega)
  have hB4 := hB3.trans (hF4.below w.heap.size hB3.size (by simp; omega))
  have hs4 : t + 1 ≤ W8.heap.size := hU4.lt
  rw [show decide (beN l ≠ 0) = false from by rw [hd]; rfl] at hN4
  show Code.wp _ _ _ _ _
  refine wp_seq ?_
  refine wp_region ?_
  refine opsP (N := 14) (T := TT) (M := (fun _ _ => none)) tabOk (fun _ _ _ h => by cases h) [1, 2, 3] [0] [(0, .v (.pointer (some ⟨bx, 0, none⟩))), (1, .v (.pointer (some ⟨bY, 0, none⟩))), (2, .v (.pointer (some ⟨t, 0, none⟩))), (3, .v (.pointer (some ⟨p, 0, none⟩))), (7, .v (.bool true)), (11, .v (.pointer (some ⟨p, 0, none⟩)))] h8 (by kernel_rfl) ⟨by kernel_rfl, by kernel_rfl, by kernel_rfl, by kernel_rfl, by kernel_rfl, by kernel_rfl, trivial⟩ (fun a9 h9 d9 => ?_)
  replace d9 := d9.trans d8
  clear h8 d8
  refine callW_ops (N := 14) (i := 1) (d := 12) (f := 21) (args := [.v (.pointer (some ⟨p, 0, none⟩))]) (l := [2, 3]) rfl (want_ rfl) rfl (by decide) h9 Try.func21 rfl rfl rfl (by kernel_rfl) (fun (v : Value) (W' : World) => v = .agg #[.int .u64 ((beN l % 18446744073709551616 : Nat) : Int), .int .u64 ((beN l / 18446744073709551616 : Nat) : Int)] ∧ Below (t + 1) W8 W') ((fb_num_ret p (t + 1) (beN l) _ hs4 (by omega) hN4 (by rw [hd]; decide)).mono fun e w' hh => ⟨_, hh.1, rfl, hh.2⟩) (fun v10 W10 a10 hR10 h10 d10 => ?_)
  replace d10 := d10.trans d9
  clear h9 d9
  obtain ⟨rfl, hb⟩ := hR10
  have hU5 : UC 24 W10 t 0 0 := (hb.block t (by omega)).trans hU4
  have hB5 := hB4.trans (hb.mono (by omega))
  refine callW_ops (N := 14) (i := 2) (d := 13) (f := 20) (args := [.v (.agg #[.int .u64 ((beN l % 18446744073709551616 : Nat) : Int), .int .u64 ((beN l / 18446744073709551616 : Nat) : Int)])]) (l := [3]) rfl (want_ rfl) rfl (by decide) h10 Try.func20 rfl rfl rfl (by kernel_rfl) (fun (v : Value) (W' : World) => v = .agg #[.int .u64 ((beN l % 18446744073709551616 : Nat) : Int), .int .u64 ((beN l / 18446744073709551616 : Nat) : Int)] ∧ Below (W10).heap.size W10 W') ((impl_wide.calls _ _ _ _ _ rfl).mono fun e w' hh => ⟨_, hh.1, rfl, hh.2⟩) (fun v11 W11 a11 hR11 h11 d11 => ?_)
  replace d11 := d11.trans d10
  clear h10 d10
  obtain ⟨rfl, hb2⟩ := hR11
  have hU6 := hU5.below hb2
  have hB6 := hB5.trans (hb2.mono hB5.size)
  refine st_ops (i := 3) (l := []) rfl rfl rfl (op_store2 hU6 rfl (h11.2 2 _ rfl) (h11.2 13 _ rfl) (by kernel_rfl)) ?_
  have hU7 := hU6.row ((beN l % 18446744073709551616 : Nat) : Int) ((beN l / 18446744073709551616 : Nat) : Int)
  have hB7 := hB6.trans ((fr_row W11 t #[.int .u64 ((beN l % 18446744073709551616 : Nat) : Int), .int .u64 ((beN l / 18446744073709551616 : Nat) : Int)]).below w.heap.size hB6.size (by simp; omega))
  show Code.wp _ _ _ _ _
  refine wp_ret ?_
  exact ⟨d11, _, res2 hU7 rfl (h11.2 2 _ rfl) Try.isAgg24 Try.sizeOf24, rfl, hB7⟩
set_option maxHeartbeats 8000000 in
set_option maxRecDepth 100000 in
theorem clo_dieP (bx bY n c : Nat) (A : Option Addr) (l : List Nat) (hl : l.length = n) (hc : n ≤ c) (h8 : ∀ o ∈ l, o < 256) (hn : n < 900) (hd : 2 ^ 128 ≤ beN l) (w : World) (hbx : bx < w.heap.size) (hby : bY < w.heap.size) (hx : w.cell? ⟨bx, 0, none⟩ = some (.slice A n c)) (hy : w.cell? ⟨bY, 0, none⟩ = some (.bool false)) (h : Oc w A l) :
    Calls Try.prog 17 #[.pointer (some ⟨bx, 0, none⟩), .pointer (some ⟨bY, 0, none⟩)] w fun e w' => (∃ pv, e = .panicked [{ v := .iface 9 pv, recovered := false }]) ∧ Below w.heap.size w w' := by
  refine calls_of_wp Try.func17 rfl ?_
  have h0 := has_two (β := bn []) (.v (.pointer (some ⟨bx, 0, none⟩))) (.v (.pointer (some ⟨bY, 0, none⟩))) 12
  have d0 : (⟨#[.pointer (some ⟨bx, 0, none⟩), .pointer (some ⟨bY, 0, none⟩)] ++ Array.replicate 12 undef, []⟩ : Act).defers = [] := rfl
  refine wp_seq ?_
  refine wp_region ?_
  obtain ⟨t, ht⟩ : ∃ t, t = w.heap.size := ⟨_, rfl⟩
  refine newR_ops (N := 14) (i := 0) (d := 2) (v := (.pointer (some ⟨t, 0, none⟩))) (l := []) rfl rfl rfl (by decide) h0 (by rw [ht]; exact op_allocWide rfl) (fun V => UC 24 V t 0 0 ∧ Below w.heap.size w V) (⟨by rw [ht]; exact UC.new _ w _ _, (Below.refl w.heap.size w).alloc (Nat.le_refl _) _⟩) (fun a1 W1 r1 h1 d1 => ?_)
  replace d1 := d1.trans d0
  clear h0 d0
  obtain ⟨hU, hB⟩ := r1
  have htlt := hU.lt
  show Code.wp _ _ _ _ _
  refine wp_seq ?_
  refine wp_region ?_
  obtain ⟨p, hp⟩ : ∃ p, p = W1.heap.size := ⟨_, rfl⟩
  refine newR_ops (N := 14) (i := 0) (d := 4) (v := (.pointer (some ⟨p, 0, none⟩))) (l := [1, 2, 3]) rfl rfl rfl (by decide) h1 (by rw [hp]; exact op_allocI rfl) (fun V => IB V p false (.slice none 0 0) ∧ Below w.heap.size w V ∧ Fr [] W1 V) (⟨by rw [hp]; exact IB.new W1, hB.trans ((Below.refl w.heap.size W1).alloc hB.size _), fr_alloc [] _ _⟩) (fun a2 W2 r2 h2 d2 => ?_)
  replace d2 := d2.trans d1
  clear h1 d1
  obtain ⟨hI, hB2, hF⟩ := r2
  have hplt := hI.lt
  have hU2 := hU.on hF (by simp)
  refine givenW_ops (N := 14) (i := 1) (d := 5) (s := .v (.slice A n c)) (l := [2, 3]) rfl (want_ rfl) rfl (by decide) h2 (op_load rfl (h2.2 0 _ rfl) Try.isAgg25 ((hB2.cell (p := ⟨bx, 0, none⟩) hbx).trans hx)) (fun a3 h3 d3 => ?_)
  replace d3 := d3.trans d2
  clear h2 d2
  refine callW_ops (N := 14) (i := 2) (d := 6) (f := 18) (args := [.v (.pointer (some ⟨p, 0, none⟩)), .v (.slice A n c)]) (l := [3]) rfl (want_ rfl) rfl (by decide) h3 Try.func18 rfl rfl rfl (by kernel_rfl) (fun (v : Value) (W' : World) => v = .pointer (some ⟨p, 0, none⟩) ∧ Num W' (t + 1) p false (beN l) ∧ Fr [p] W2 W') ((setB_num p (t + 1) false A n c l hl hc h8 hn _ (by omega) hI (h.below hB2)).mono fun e w' hh => ⟨_, hh.1, rfl, hh.2⟩) (fun v4 W4 a4 hR4 h4 d4 => ?_)
  replace d4 := d4.trans d3
  clear h3 d3
  obtain ⟨rfl, hN, hF3⟩ := hR4
  have hU3 := hU2.on hF3 (by simp; omega)
  have hB3 := hB2.trans (hF3.below w.heap.size hB2.size (by simp; omega))
  refine opsP (N := 14) (T := TT) (M := (fun _ _ => none)) tabOk (fun _ _ _ h => by cases h) [] [3] [(0, .v (.pointer (some ⟨bx, 0, none⟩))), (1, .v (.pointer (some ⟨bY, 0, none⟩))), (2, .v (.pointer (some ⟨t, 0, none⟩))), (3, .v (.pointer (some ⟨p, 0, none⟩)))] h4 (by kernel_rfl) ⟨by kernel_rfl, by kernel_rfl, by kernel_rfl, by kernel_rfl, trivial⟩ (fun a5 h5 d5 => ?_)
  replace d5 := d5.trans d4
  clear h4 d4
  show Code.wp _ _ _ _ _
  refine wp_seq ?_
  refine wp_seq ?_
  refine wp_region ?_
  refine givenW_ops (N := 14) (i := 0) (d := 7) (s := .v (.bool false)) (l := []) rfl (want_ rfl) rfl (by decide) h5 (op_load rfl (h5.2 1 _ rfl) Try.isAgg4 ((hB3.cell (p := ⟨bY, 0, none⟩) hby).trans hy)) (fun a6 h6 d6 => ?_)
  replace d6 := d6.trans d5
  clear h5 d5
  show Code.wp _ _ _ _ _
  refine wp_cond_false (h6.2 7 _ rfl) ?_
  refine wp_skip ?_
  show Code.wp _ _ _ _ _
  have hN4 := hN
  have hU4 := hU3
  have hB4 := hB3
  have hs4 : t + 1 ≤ W4.heap.size := hU4.lt
  refine wp_seq ?_
  refine wp_region ?_
  refine opsP (N := 14) (T := TT) (M := (fun _ _ => none)) tabOk (fun _ _ _ h => by cases h) [1, 2, 3] [0] [(0, .v (.pointer (some ⟨bx, 0, none⟩))), (1, .v (.pointer (some ⟨bY, 0, none⟩))), (2, .v (.pointer (some ⟨t, 0, none⟩))), (3, .v (.pointer (some ⟨p, 0, none⟩))), (7, .v (.bool false)), (11, .v (.pointer (some ⟨p, 0, none⟩)))] h6 (by kernel_rfl) ⟨by kernel_rfl, by kernel_rfl, by kernel_rfl, by kernel_rfl, by kernel_rfl, by kernel_rfl, trivial⟩ (fun a7 h7 d7 => ?_)
  replace d7 := d7.trans d6
  clear h6 d6
  refine callP_ops (N := 14) (i := 1) (d := 12) (f := 21) (args := [.v (.pointer (some ⟨p, 0, none⟩))]) rfl rfl h7 Try.func21 rfl rfl rfl (by kernel_rfl) ((fb_num_die p (t + 1) (beN l) false _ hs4 hN4 (Or.inr ⟨rfl, hd⟩)).mono fun e w' hh => ?_)
  obtain ⟨⟨pv, rfl⟩, hb⟩ := hh
  exact ⟨_, rfl, d7, ⟨pv, rfl⟩, hB4.trans (hb.mono (by omega))⟩
set_option maxHeartbeats 8000000 in
set_option maxRecDepth 100000 in
theorem clo_retP (bx bY n c : Nat) (A : Option Addr) (l : List Nat) (hl : l.length = n) (hc : n ≤ c) (h8 : ∀ o ∈ l, o < 256) (hn : n < 900) (hd : beN l < 2 ^ 128) (w : World) (hbx : bx < w.heap.size) (hby : bY < w.heap.size) (hx : w.cell? ⟨bx, 0, none⟩ = some (.slice A n c)) (hy : w.cell? ⟨bY, 0, none⟩ = some (.bool false)) (h : Oc w A l) :
    Calls Try.prog 17 #[.pointer (some ⟨bx, 0, none⟩), .pointer (some ⟨bY, 0, none⟩)] w fun e w' => e = .returned (.agg #[.int .u64 ((beN l % 18446744073709551616 : Nat) : Int), .int .u64 ((beN l / 18446744073709551616 : Nat) : Int)]) ∧ Below w.heap.size w w' := by
  refine calls_of_wp Try.func17 rfl ?_
  have h0 := has_two (β := bn []) (.v (.pointer (some ⟨bx, 0, none⟩))) (.v (.pointer (some ⟨bY, 0, none⟩))) 12
  have d0 : (⟨#[.pointer (some ⟨bx, 0, none⟩), .pointer (some ⟨bY, 0, none⟩)] ++ Array.replicate 12 undef, []⟩ : Act).defers = [] := rfl
  refine wp_seq ?_
  refine wp_region ?_
  obtain ⟨t, ht⟩ : ∃ t, t = w.heap.size := ⟨_, rfl⟩
  refine newR_ops (N := 14) (i := 0) (d := 2) (v := (.pointer (some ⟨t, 0, none⟩))) (l := []) rfl rfl rfl (by decide) h0 (by rw [ht]; exact op_allocWide rfl) (fun V => UC 24 V t 0 0 ∧ Below w.heap.size w V) (⟨by rw [ht]; exact UC.new _ w _ _, (Below.refl w.heap.size w).alloc (Nat.le_refl _) _⟩) (fun a1 W1 r1 h1 d1 => ?_)
  replace d1 := d1.trans d0
  clear h0 d0
  obtain ⟨hU, hB⟩ := r1
  have htlt := hU.lt
  show Code.wp _ _ _ _ _
  refine wp_seq ?_
  refine wp_region ?_
  obtain ⟨p, hp⟩ : ∃ p, p = W1.heap.size := ⟨_, rfl⟩
  refine newR_ops (N := 14) (i := 0) (d := 4) (v := (.pointer (some ⟨p, 0, none⟩))) (l := [1, 2, 3]) rfl rfl rfl (by decide) h1 (by rw [hp]; exact op_allocI rfl) (fun V => IB V p false (.slice none 0 0) ∧ Below w.heap.size w V ∧ Fr [] W1 V) (⟨by rw [hp]; exact IB.new W1, hB.trans ((Below.refl w.heap.size W1).alloc hB.size _), fr_alloc [] _ _⟩) (fun a2 W2 r2 h2 d2 => ?_)
  replace d2 := d2.trans d1
  clear h1 d1
  obtain ⟨hI, hB2, hF⟩ := r2
  have hplt := hI.lt
  have hU2 := hU.on hF (by simp)
  refine givenW_ops (N := 14) (i := 1) (d := 5) (s := .v (.slice A n c)) (l := [2, 3]) rfl (want_ rfl) rfl (by decide) h2 (op_load rfl (h2.2 0 _ rfl) Try.isAgg25 ((hB2.cell (p := ⟨bx, 0, none⟩) hbx).trans hx)) (fun a3 h3 d3 => ?_)
  replace d3 := d3.trans d2
  clear h2 d2
  refine callW_ops (N := 14) (i := 2) (d := 6) (f := 18) (args := [.v (.pointer (some ⟨p, 0, none⟩)), .v (.slice A n c)]) (l := [3]) rfl (want_ rfl) rfl (by decide) h3 Try.func18 rfl rfl rfl (by kernel_rfl) (fun (v : Value) (W' : World) => v = .pointer (some ⟨p, 0, none⟩) ∧ Num W' (t + 1) p false (beN l) ∧ Fr [p] W2 W') ((setB_num p (t + 1) false A n c l hl hc h8 hn _ (by omega) hI (h.below hB2)).mono fun e w' hh => ⟨_, hh.1, rfl, hh.2⟩) (fun v4 W4 a4 hR4 h4 d4 => ?_)
  replace d4 := d4.trans d3
  clear h3 d3
  obtain ⟨rfl, hN, hF3⟩ := hR4
  have hU3 := hU2.on hF3 (by simp; omega)
  have hB3 := hB2.trans (hF3.below w.heap.size hB2.size (by simp; omega))
  refine opsP (N := 14) (T := TT) (M := (fun _ _ => none)) tabOk (fun _ _ _ h => by cases h) [] [3] [(0, .v (.pointer (some ⟨bx, 0, none⟩))), (1, .v (.pointer (some ⟨bY, 0, none⟩))), (2, .v (.pointer (some ⟨t, 0, none⟩))), (3, .v (.pointer (some ⟨p, 0, none⟩)))] h4 (by kernel_rfl) ⟨by kernel_rfl, by kernel_rfl, by kernel_rfl, by kernel_rfl, trivial⟩ (fun a5 h5 d5 => ?_)
  replace d5 := d5.trans d4
  clear h4 d4
  show Code.wp _ _ _ _ _
  refine wp_seq ?_
  refine wp_seq ?_
  refine wp_region ?_
  refine givenW_ops (N := 14) (i := 0) (d := 7) (s := .v (.bool false)) (l := []) rfl (want_ rfl) rfl (by decide) h5 (op_load rfl (h5.2 1 _ rfl) Try.isAgg4 ((hB3.cell (p := ⟨bY, 0, none⟩) hby).trans hy)) (fun a6 h6 d6 => ?_)
  replace d6 := d6.trans d5
  clear h5 d5
  show Code.wp _ _ _ _ _
  refine wp_cond_false (h6.2 7 _ rfl) ?_
  refine wp_skip ?_
  show Code.wp _ _ _ _ _
  have hN4 := hN
  have hU4 := hU3
  have hB4 := hB3
  have hs4 : t + 1 ≤ W4.heap.size := hU4.lt
  refine wp_seq ?_
  refine wp_region ?_
  refine opsP (N := 14) (T := TT) (M := (fun _ _ => none)) tabOk (fun _ _ _ h => by cases h) [1, 2, 3] [0] [(0, .v (.pointer (some ⟨bx, 0, none⟩))), (1, .v (.pointer (some ⟨bY, 0, none⟩))), (2, .v (.pointer (some ⟨t, 0, none⟩))), (3, .v (.pointer (some ⟨p, 0, none⟩))), (7, .v (.bool false)), (11, .v (.pointer (some ⟨p, 0, none⟩)))] h6 (by kernel_rfl) ⟨by kernel_rfl, by kernel_rfl, by kernel_rfl, by kernel_rfl, by kernel_rfl, by kernel_rfl, trivial⟩ (fun a7 h7 d7 => ?_)
  replace d7 := d7.trans d6
  clear h6 d6
  refine callW_ops (N := 14) (i := 1) (d := 12) (f := 21) (args := [.v (.pointer (some ⟨p, 0, none⟩))]) (l := [2, 3]) rfl (want_ rfl) rfl (by decide) h7 Try.func21 rfl rfl rfl (by kernel_rfl) (fun (v : Value) (W' : World) => v = .agg #[.int .u64 ((beN l % 18446744073709551616 : Nat) : Int), .int .u64 ((beN l / 18446744073709551616 : Nat) : Int)] ∧ Below (t + 1) W4 W') ((fb_num_ret p (t + 1) (beN l) _ hs4 (by omega) hN4 hd).mono fun e w' hh => ⟨_, hh.1, rfl, hh.2⟩) (fun v8 W8 a8 hR8 h8 d8 => ?_)
  replace d8 := d8.trans d7
  clear h7 d7
  obtain ⟨rfl, hb⟩ := hR8
  have hU5 : UC 24 W8 t 0 0 := (hb.block t (by omega)).trans hU4
  have hB5 := hB4.trans (hb.mono (by omega))
  refine callW_ops (N := 14) (i := 2) (d := 13) (f := 20) (args := [.v (.agg #[.int .u64 ((beN l % 18446744073709551616 : Nat) : Int), .int .u64 ((beN l / 18446744073709551616 : Nat) : Int)])]) (l := [3]) rfl (want_ rfl) rfl (by decide) h8 Try.func20 rfl rfl rfl (by kernel_rfl) (fun (v : Value) (W' : World) => v = .agg #[.int .u64 ((beN l % 18446744073709551616 : Nat) : Int), .int .u64 ((beN l / 18446744073709551616 : Nat) : Int)] ∧ Below (W8).heap.size W8 W') ((impl_wide.calls _ _ _ _ _ rfl).mono fun e w' hh => ⟨_, hh.1, rfl, hh.2⟩) (fun v9 W9 a9 hR9 h9 d9 => ?_)
  replace d9 := d9.trans d8
  clear h8 d8
  obtain ⟨rfl, hb2⟩ := hR9
  have hU6 := hU5.below hb2
  have hB6 := hB5.trans (hb2.mono hB5.size)
  refine st_ops (i := 3) (l := []) rfl rfl rfl (op_store2 hU6 rfl (h9.2 2 _ rfl) (h9.2 13 _ rfl) (by kernel_rfl)) ?_
  have hU7 := hU6.row ((beN l % 18446744073709551616 : Nat) : Int) ((beN l / 18446744073709551616 : Nat) : Int)
  have hB7 := hB6.trans ((fr_row W9 t #[.int .u64 ((beN l % 18446744073709551616 : Nat) : Int), .int .u64 ((beN l / 18446744073709551616 : Nat) : Int)]).below w.heap.size hB6.size (by simp; omega))
  show Code.wp _ _ _ _ _
  refine wp_ret ?_
  exact ⟨d9, _, res2 hU7 rfl (h9.2 2 _ rfl) Try.isAgg24 Try.sizeOf24, rfl, hB7⟩
end Go.Proofs.Ytjmgiodkfgdgnaa.PAll
namespace Go.Proofs.Ytjmgiodkfgdgnaa.PAll
open Go.RowKit Go.Proofs.YtjmgiodkfgdgnaaW.PrintWords Go.Proofs.YtjmgiodkfgdgnaaW.PrintLast Go.Proofs.YtjmgiodkfgdgnaaW.PrintMore
set_option linter.unusedVariables false
set_option linter.unusedSimpArgs false
theorem op_boxS {P : Program} {ρ : Operand → Value} {o : Oper} {W : World} {t : TypeId} {x : Operand} {A : Option Addr} {n c : Nat} (ho : o.op = .box t x) (hx : ρ x = .slice A n c) : (execOp ρ o).run P W = .ok (.value (.pointer (some ⟨W.heap.size, 0, none⟩))) (W.alloc (.cells #[.slice A n c] t)) := by
  unfold execOp
  rw [ho]
  simp [go_sem, hx]
theorem op_boxB {P : Program} {ρ : Operand → Value} {o : Oper} {W : World} {t : TypeId} {x : Operand} {b : Bool} (ho : o.op = .box t x) (hx : ρ x = .bool b) : (execOp ρ o).run P W = .ok (.value (.pointer (some ⟨W.heap.size, 0, none⟩))) (W.alloc (.cells #[.bool b] t)) := by
  unfold execOp
  rw [ho]
  simp [go_sem, hx]
theorem op_mkfn {P : Program} {ρ : Operand → Value} {o : Oper} {W : World} {fn : Fn} {x y : Operand} {u v : Value} (ho : o.op = .makeFunc fn #[] #[x, y]) (hx : ρ x = u) (hy : ρ y = v) : (execOp ρ o).run P W = .ok (.value (.func fn #[] #[u, v])) W := by
  have hmf : ∀ (first cap : Array Value), (Instr.makeFunc fn first cap).run P W = .ok (.func fn first cap) W := fun _ _ => rfl
  unfold execOp
  rw [ho]
  simp [go_sem, hx, hy, hmf]
/-- The block b holds one cell. -/
def B1 (T : TypeId) (W : World) (b : Nat) (v : Value) : Prop := W.heap[b]? = some (.cells #[v] T (0, 0))
theorem B1.lt {T : TypeId} {W : World} {b : Nat} {v : Value} (h : B1 T W b v) : b < W.heap.size := (Array.getElem?_eq_some_iff.1 h).1
theorem B1.cell {T : TypeId} {W : World} {b : Nat} {v : Value} (h : B1 T W b v) : W.cell? ⟨b, 0, none⟩ = some v := by
  unfold B1 at h
  simp [World.cell?, h]
theorem B1.on {T : TypeId} {W W' : World} {b : Nat} {v : Value} {S : List Nat} (h : B1 T W b v) (hF : Fr S W W') (hg : b ∉ S) : B1 T W' b v := (hF.2.2.2.2 b h.lt hg).trans h
theorem B1.new (T : TypeId) (W : World) (v : Value) : B1 T (W.alloc (.cells #[v] T)) W.heap.size v := (MapKept.heap_alloc W _).1
theorem res2b {T : TypeId} {W : World} {b : Nat} {lo hi : Int} {fn : Func} {t t2 : Tmp} {a : Act} {y : Bool} (hU : UC T W b lo hi) (hr : fn.results = #[.cell t T, .tmp t2]) (ha : a.eval (.tmp t) = .pointer (some ⟨b, 0, none⟩)) (hb : a.eval (.tmp t2) = .bool y) (h1 : ∀ w, (isAgg T).run Try.prog w = .ok true w) (h2 : ∀ w, (Go.sizeOf T).run Try.prog w = .ok 2 w) : (results fn a.tmps).run Try.prog W = .ok (.tuple #[.agg #[.int .u64 lo, .int .u64 hi], .bool y]) W := by
  have ha' : a.tmps[t]?.getD undef = .pointer (some ⟨b, 0, none⟩) := by
    rw [← Array.getD_eq_getD_getElem?]
    exact ha
  have hb' : a.tmps[t2]?.getD undef = .bool y := by
    rw [← Array.getD_eq_getD_getElem?]
    exact hb
  simp [results, hr, ha', hb', go_sem, h1, h2, hU.c0, hU.c1]
/-- A whole number, below nought or not, as halves of 128 bits; whether it may be. -/
def wfbR (l : List Nat) (below : Bool) : Int × Int × Bool := if beN l < 2 ^ 128 ∧ (below = true → beN l = 0) then (((beN l % 18446744073709551616 : Nat) : Int), ((beN l / 18446744073709551616 : Nat) : Int), true) else (0, 0, false)
theorem tried_wfb (bx bY n c : Nat) (A : Option Addr) (l : List Nat) (below : Bool) (hl : l.length = n) (hc : n ≤ c) (h8 : ∀ o ∈ l, o < 256) (hn : n < 900) (w : World) (hbx : bx < w.heap.size) (hby : bY < w.heap.size) (hx : w.cell? ⟨bx, 0, none⟩ = some (.slice A n c)) (hy : w.cell? ⟨bY, 0, none⟩ = some (.bool below)) (h : Oc w A l) :
    Calls Try.prog 16 #[.func (.func 17) #[] #[.pointer (some ⟨bx, 0, none⟩), .pointer (some ⟨bY, 0, none⟩)]] w fun e w' => e = .returned (.tuple #[.agg #[.int .u64 (wfbR l below).1, .int .u64 (wfbR l below).2.1], .bool (wfbR l below).2.2]) ∧ Below w.heap.size w w' := by
  have hcf : ∀ (args : Array Value) (w : World), (callFunc 17 args).run Try.prog w = .ok (.enter 17 args) w := fun args w => enters_ Try.func17 (by kernel_rfl) rfl args w
  by_cases hd : beN l < 2 ^ 128 ∧ (below = true → beN l = 0)
  · have e : wfbR l below = (((beN l % 18446744073709551616 : Nat) : Int), ((beN l / 18446744073709551616 : Nat) : Int), true) := if_pos hd
    rw [e]
    refine tried_ret _ _ _ _ w hcf (Lib.hid (fun W hW => ?_))
    have g1 := Nat.lt_of_lt_of_le hbx hW.size
    have g2 := Nat.lt_of_lt_of_le hby hW.size
    have g3 := (hW.cell (p := ⟨bx, 0, none⟩) hbx).trans hx
    have g4 := (hW.cell (p := ⟨bY, 0, none⟩) hby).trans hy
    cases below
    · exact clo_retP bx bY n c A l hl hc h8 hn hd.1 W g1 g2 g3 g4 (h.below hW)
    · exact clo_retN bx bY n c A l hl hc h8 hn (hd.2 rfl) W g1 g2 g3 g4 (h.below hW)
  · have e : wfbR l below = (0, 0, false) := if_neg hd
    rw [e]
    refine tried_panics _ _ w hcf (Lib.hid (fun W hW => ?_))
    have g1 := Nat.lt_of_lt_of_le hbx hW.size
    have g2 := Nat.lt_of_lt_of_le hby hW.size
    have g3 := (hW.cell (p := ⟨bx, 0, none⟩) hbx).trans hx
    have g4 := (hW.cell (p := ⟨bY, 0, none⟩) hby).trans hy
    cases below
    · have hd' : 2 ^ 128 ≤ beN l := by
        refine Nat.le_of_not_lt (fun h1 => hd ⟨h1, fun h2 => absurd h2 (by decide)⟩)
      exact clo_dieP bx bY n c A l hl hc h8 hn hd' W g1 g2 g3 g4 (h.below hW)
    · have hd' : beN l ≠ 0 := fun h1 => hd ⟨by rw [h1]; decide, fun _ => h1⟩
      exact clo_dieN bx bY n c A l hl hc h8 hn hd' W g1 g2 g3 g4 (h.below hW)
set_option maxHeartbeats 8000000 in
set_option maxRecDepth 100000 in
theorem wfb_walk (n c : Nat) (A : Option Addr) (l : List Nat) (below : Bool) (hl : l.length = n) (hc : n ≤ c) (h8 : ∀ o ∈ l, o < 256) (hn : n < 900) (w : World) (h : Oc w A l) :
    Calls Try.prog 8 #[.slice A n c, .bool below] w fun e w' => e = .returned (.tuple #[.agg #[.int .u64 (wfbR l below).1, .int .u64 (wfbR l below).2.1], .bool (wfbR l below).2.2]) ∧ Below w.heap.size w w' := by
  refine calls_of_wp Try.func8 rfl ?_
  have h0 := has_two (β := bn []) (.v (.slice A n c)) (.v (.bool below)) 8
  have d0 : (⟨#[.slice A n c, .bool below] ++ Array.replicate 8 undef, []⟩ : Act).defers = [] := rfl
  refine wp_seq ?_
  refine wp_region ?_
  obtain ⟨bx, hbx⟩ : ∃ bx, bx = w.heap.size := ⟨_, rfl⟩
  refine newR_ops (N := 10) (i := 0) (d := 2) (v := (.pointer (some ⟨bx, 0, none⟩))) (l := [1, 2, 3]) rfl rfl rfl (by decide) h0 (by rw [hbx]; exact op_boxS rfl (h0.2 0 _ rfl)) (fun V => B1 25 V bx (.slice A n c) ∧ Below w.heap.size w V) (⟨by rw [hbx]; exact B1.new _ w _, (Below.refl w.heap.size w).alloc (Nat.le_refl _) _⟩) (fun a1 W1 r1 h1 d1 => ?_)
  replace d1 := d1.trans d0
  clear h0 d0
  obtain ⟨hX, hB⟩ := r1
  have hxl := hX.lt
  obtain ⟨bY, hbY⟩ : ∃ bY, bY = W1.heap.size := ⟨_, rfl⟩
  refine newR_ops (N := 10) (i := 1) (d := 3) (v := (.pointer (some ⟨bY, 0, none⟩))) (l := [2, 3]) rfl rfl rfl (by decide) h1 (by rw [hbY]; exact op_boxB rfl (h1.2 1 _ rfl)) (fun V => B1 4 V bY (.bool below) ∧ Below w.heap.size w V ∧ Fr [] W1 V) (⟨by rw [hbY]; exact B1.new _ _ _, hB.trans ((Below.refl w.heap.size W1).alloc hB.size _), fr_alloc [] _ _⟩) (fun a2 W2 r2 h2 d2 => ?_)
  replace d2 := d2.trans d1
  clear h1 d1
  obtain ⟨hY, hB2, hF⟩ := r2
  have hX2 := hX.on hF (by simp)
  have hyl := hY.lt
  obtain ⟨t, ht⟩ : ∃ t, t = W2.heap.size := ⟨_, rfl⟩
  refine newR_ops (N := 10) (i := 2) (d := 4) (v := (.pointer (some ⟨t, 0, none⟩))) (l := [3]) rfl rfl rfl (by decide) h2 (by rw [ht]; exact op_allocWide rfl) (fun V => UC 24 V t 0 0 ∧ Below w.heap.size w V ∧ Fr [] W2 V) (⟨by rw [ht]; exact UC.new _ _ _ _, hB2.trans ((Below.refl w.heap.size W2).alloc hB2.size _), fr_alloc [] _ _⟩) (fun a3 W3 r3 h3 d3 => ?_)
  replace d3 := d3.trans d2
  clear h2 d2
  obtain ⟨hU, hB3, hF3⟩ := r3
  have hX3 := hX2.on hF3 (by simp)
  have hY3 := hY.on hF3 (by simp)
  refine opsP (N := 10) (T := TT) (M := (fun _ _ => none)) tabOk (fun _ _ _ h => by cases h) [] [3] [(2, .v (.pointer (some ⟨bx, 0, none⟩))), (3, .v (.pointer (some ⟨bY, 0, none⟩))), (4, .v (.pointer (some ⟨t, 0, none⟩))), (5, .v (.bool false))] h3 (by kernel_rfl) ⟨by kernel_rfl, by kernel_rfl, by kernel_rfl, by kernel_rfl, trivial⟩ (fun a4 h4 d4 => ?_)
  replace d4 := d4.trans d3
  clear h3 d3
  show Code.wp _ _ _ _ _
  refine wp_seq ?_
  refine wp_region ?_
  refine givenW_ops (N := 10) (i := 0) (d := 6) (s := .v (.func (.func 17) #[] #[.pointer (some ⟨bx, 0, none⟩), .pointer (some ⟨bY, 0, none⟩)])) (l := [1, 2, 3, 4, 5]) rfl (want_ rfl) rfl (by decide) h4 (op_mkfn rfl (h4.2 2 _ rfl) (h4.2 3 _ rfl)) (fun a5 h5 d5 => ?_)
  replace d5 := d5.trans d4
  clear h4 d4
  refine callW_ops (N := 10) (i := 1) (d := 7) (f := 16) (args := [.v (.func (.func 17) #[] #[.pointer (some ⟨bx, 0, none⟩), .pointer (some ⟨bY, 0, none⟩)])]) (l := [2, 3, 4, 5]) rfl (want_ rfl) rfl (by decide) h5 Try.func16 rfl rfl rfl (by kernel_rfl) (fun (v : Value) (W' : World) => v = .tuple #[.agg #[.int .u64 (wfbR l below).1, .int .u64 (wfbR l below).2.1], .bool (wfbR l below).2.2] ∧ Below (W3).heap.size W3 W') ((tried_wfb bx bY n c A l below hl hc h8 hn _ hX3.lt hY3.lt hX3.cell hY3.cell (h.below hB3)).mono fun e w' hh => ⟨_, hh.1, rfl, hh.2⟩) (fun v6 W6 a6 hR6 h6 d6 => ?_)
  replace d6 := d6.trans d5
  clear h5 d5
  obtain ⟨rfl, hb⟩ := hR6
  have hU4 := hU.below hb
  have hB4 := hB3.trans (hb.mono hB3.size)
  refine givenW_ops (N := 10) (i := 2) (d := 8) (s := .v (.agg #[.int .u64 (wfbR l below).1, .int .u64 (wfbR l below).2.1])) (l := [3, 4, 5]) rfl (want_ rfl) rfl (by decide) h6 (op_extract rfl (h6.2 7 _ rfl) rfl) (fun a7 h7 d7 => ?_)
  replace d7 := d7.trans d6
  clear h6 d6
  refine givenW_ops (N := 10) (i := 3) (d := 9) (s := .v (.bool (wfbR l below).2.2)) (l := [4, 5]) rfl (want_ rfl) rfl (by decide) h7 (op_extract rfl (h7.2 7 _ rfl) rfl) (fun a8 h8 d8 => ?_)
  replace d8 := d8.trans d7
  clear h7 d7
  refine st_ops (i := 4) (l := [5]) rfl rfl rfl (op_store2 hU4 rfl (h8.2 4 _ rfl) (h8.2 8 _ rfl) (by kernel_rfl)) ?_
  have hU5 := hU4.row (wfbR l below).1 (wfbR l below).2.1
  have hB5 := hB4.trans ((fr_row W6 t #[.int .u64 (wfbR l below).1, .int .u64 (wfbR l below).2.1]).below w.heap.size hB4.size (by have h1 := hB2.size; simp; omega))
  refine opsP (N := 10) (T := TT) (M := (fun _ _ => none)) tabOk (fun _ _ _ h => by cases h) [] [5] [(2, .v (.pointer (some ⟨bx, 0, none⟩))), (3, .v (.pointer (some ⟨bY, 0, none⟩))), (4, .v (.pointer (some ⟨t, 0, none⟩))), (5, .v (.bool (wfbR l below).2.2))] h8 (by kernel_rfl) ⟨by kernel_rfl, by kernel_rfl, by kernel_rfl, by kernel_rfl, trivial⟩ (fun a9 h9 d9 => ?_)
  replace d9 := d9.trans d8
  clear h8 d8
  show Code.wp _ _ _ _ _
  refine wp_ret ?_
  exact ⟨d9, _, res2b hU5 rfl (h9.2 4 _ rfl) (h9.2 5 _ rfl) Try.isAgg24 Try.sizeOf24, rfl, hB5⟩
end Go.Proofs.Ytjmgiodkfgdgnaa.PAll
namespace Go.Proofs.Ytjmgiodkfgdgnaa.PAll
open Go.RowKit Go.Proofs.YtjmgiodkfgdgnaaW.PrintWords Go.Proofs.YtjmgiodkfgdgnaaW.PrintLast Go.Proofs.YtjmgiodkfgdgnaaW.PrintMore
set_option linter.unusedVariables false
set_option linter.unusedSimpArgs false
/-- The words of a number of 128 bits, without noughts at the end. -/
def words2 (lo hi : Nat) : List Nat := if hi ≠ 0 then [lo, hi] else if lo ≠ 0 then [lo] else []
theorem big_any (lo hi : Nat) (hl : lo < 18446744073709551616) (w : World) :
    Calls Try.prog 12 #[.agg #[.int .u64 ((lo : Nat) : Int), .int .u64 ((hi : Nat) : Int)]] w fun e w' => ∃ v, e = .returned v ∧ ∃ p, v = .pointer (some ⟨p, 0, none⟩) ∧ BigIs w' p ((words2 lo hi).map (fun (x : Nat) => (x : Int))) ∧ Below w.heap.size w w' := by
  unfold words2
  by_cases h1 : hi = 0
  · subst h1
    rw [if_neg (by simp)]
    by_cases h2 : lo = 0
    · subst h2
      rw [if_neg (by simp)]
      exact (big_c w).mono fun e w' ⟨p, h⟩ => ⟨_, h.1, p, rfl, h.2⟩
    · rw [if_pos h2]
      exact (big_b lo (by omega) h2 w).mono fun e w' ⟨p, h⟩ => ⟨_, h.1, p, rfl, h.2⟩
  · rw [if_pos h1]
    by_cases h2 : lo = 0
    · subst h2
      exact (big_a0 hi (by omega) w).mono fun e w' ⟨p, h⟩ => ⟨_, h.1, p, rfl, h.2⟩
    · exact (big_a1 lo hi (by omega) (by omega) hl w).mono fun e w' ⟨p, h⟩ => ⟨_, h.1, p, rfl, h.2⟩
theorem words2_len (lo hi : Nat) : (words2 lo hi).length ≤ 2 := by
  unfold words2
  split
  · exact Nat.le_refl _
  · split
    · exact Nat.le_succ _
    · exact Nat.zero_le _
theorem bd_row {W : World} {b z : Nat} {R : List Int} (h : Bd W b R) (hz : z ≤ R.length) (hm : R.length < 100000) : Kd.C (Kd.int .u8) W (cutA (some ⟨b, 0, none⟩) R.length z) (R.drop z).length (R.drop z) := by
  refine ⟨rfl, by rw [List.length_drop]; omega, fun h0 => ?_⟩
  rw [List.length_drop] at h0
  refine ⟨⟨b, 0 + z, none⟩, cutA_some b 0 (by omega), fun j p hp => ⟨[.int .u8 p], rfl, rfl, fun i u hu => ?_⟩⟩
  rw [List.getElem?_drop] at hp
  have hlt := (List.getElem?_eq_some_iff.1 hp).1
  cases i with
  | zero =>
    obtain rfl := Option.some.inj hu
    show W.cell? ((⟨b, 0 + z, none⟩ : Addr).add (j * 1 + 0)) = _
    rw [addr_add, show 0 + z + (j * 1 + 0) = z + j by omega, h.cell hlt, List.getD_eq_getElem?_getD, hp]
    rfl
  | succ i => exact absurd hu (by simp)
theorem bytes_any (p : Nat) (xs : List Nat) (hx : xs.length < 100) (w : World) (h : BigIs w p (xs.map (fun (x : Nat) => (x : Int)))) :
    Calls Try.prog 13 #[.pointer (some ⟨p, 0, none⟩)] w fun e w' => ∃ v, e = .returned v ∧ Kd.V (Kd.int .u8) 5 w' w.heap.size (fun k_ => (w.heap.size ≤ k_)) v (octs xs) ∧ Below w.heap.size w w' := by
  obtain ⟨A, n, c, hI, hn, hc, hl, hw⟩ := h
  rw [List.length_map] at hl
  by_cases h0 : n = 0
  · subst h0
    obtain rfl := List.eq_nil_of_length_eq_zero hl
    exact (Bytes_nil p A c w hI).mono fun e w' ⟨A', c', h1, h2⟩ => ⟨_, h1, (show Kd.V (Kd.int .u8) 5 w' w.heap.size (fun k_ => (w.heap.size ≤ k_)) (.slice A' ([] : List Int).length c') [] from Kd.V_mk (Nat.zero_le _) (fun W' _ => ⟨rfl, Nat.zero_le _, fun h => absurd h (by simp)⟩)), h2⟩
  · obtain ⟨g, m, rfl, hg, hm, ht⟩ := hw (by omega)
    refine (Bytes_some p g n c m xs (by omega) hl hm w hI hg (fun t htl => ?_)).mono fun e w' ⟨b, h1, h2, h3, h4⟩ => ⟨_, h1, ?_, h4⟩
    · have : (m.take n)[t]? = (xs.map (fun (x : Nat) => (x : Int)))[t]? := by rw [ht]
      rw [List.getElem?_take_of_lt (by omega), List.getElem?_map] at this
      rw [List.getD_eq_getElem?_getD, this, List.getD_eq_getElem?_getD, List.getElem?_eq_getElem htl]
      rfl
    · have e8 : (wro (List.replicate (8 * xs.length) 0) xs).length = 8 * n := by rw [wro_len, List.length_replicate, hl]
      have hz := lz_le (wro (List.replicate (8 * xs.length) 0) xs)
      have eo : (octs xs).length = 8 * n - lz (wro (List.replicate (8 * xs.length) 0) xs) := by
        unfold octs
        rw [List.length_drop, e8]
      rw [← eo, ← e8]
      refine Kd.V_mk (Nat.le_refl _) (fun W' hW' => ?_)
      have hBd : Bd W' b (wro (List.replicate (8 * xs.length) 0) xs) := (hW' b h3 h2.lt).trans h2
      exact bd_row hBd hz (by omega)
set_option maxHeartbeats 8000000 in
set_option maxRecDepth 100000 in
theorem wbig_walk (lo hi : Nat) (hl : lo < 18446744073709551616) (w : World) :
    Calls Try.prog 4 #[.agg #[.int .u64 ((lo : Nat) : Int), .int .u64 ((hi : Nat) : Int)]] w fun e w' => ∃ v, e = .returned v ∧ Kd.V (Kd.int .u8) 5 w' w.heap.size (fun k_ => (w.heap.size ≤ k_)) v (octs (words2 lo hi)) ∧ Below w.heap.size w w' := by
  refine calls_of_wp Try.func4 rfl ?_
  have h0 := has_one (β := bn []) (.v (.agg #[.int .u64 ((lo : Nat) : Int), .int .u64 ((hi : Nat) : Int)])) 6
  have d0 : (⟨#[.agg #[.int .u64 ((lo : Nat) : Int), .int .u64 ((hi : Nat) : Int)]] ++ Array.replicate 6 undef, []⟩ : Act).defers = [] := rfl
  refine wp_seq ?_
  refine wp_region ?_
  obtain ⟨bx, hbx⟩ : ∃ bx, bx = w.heap.size := ⟨_, rfl⟩
  refine newR_ops (N := 7) (i := 0) (d := 1) (v := (.pointer (some ⟨bx, 0, none⟩))) (l := [1]) rfl rfl rfl (by decide) h0 (by rw [hbx]; exact op_boxA rfl (h0.2 0 _ rfl)) (fun V => UC 24 V bx ((lo : Nat) : Int) ((hi : Nat) : Int) ∧ Below w.heap.size w V) (⟨by rw [hbx]; exact UC.new _ w _ _, (Below.refl w.heap.size w).alloc (Nat.le_refl _) _⟩) (fun a1 W1 r1 h1 d1 => ?_)
  replace d1 := d1.trans d0
  clear h0 d0
  obtain ⟨hU, hB⟩ := r1
  refine opsP (N := 7) (T := TT) (M := (fun _ _ => none)) tabOk (fun _ _ _ h => by cases h) [] [1] [(1, .v (.pointer (some ⟨bx, 0, none⟩))), (2, .v (Value.slice none 0 0))] h1 (by kernel_rfl) ⟨by kernel_rfl, by kernel_rfl, trivial⟩ (fun a2 h2 d2 => ?_)
  replace d2 := d2.trans d1
  clear h1 d1
  show Code.wp _ _ _ _ _
  refine wp_seq ?_
  refine wp_region ?_
  refine givenW_ops (N := 7) (i := 0) (d := 3) (s := .v (.agg #[.int .u64 ((lo : Nat) : Int), .int .u64 ((hi : Nat) : Int)])) (l := [1, 2, 3, 4]) rfl (want_ rfl) rfl (by decide) h2 (op_load2 hU rfl (h2.2 1 _ rfl) Try.isAgg24 Try.sizeOf24) (fun a3 h3 d3 => ?_)
  replace d3 := d3.trans d2
  clear h2 d2
  refine callW_ops (N := 7) (i := 1) (d := 4) (f := 11) (args := [.v (.agg #[.int .u64 ((lo : Nat) : Int), .int .u64 ((hi : Nat) : Int)])]) (l := [2, 3, 4]) rfl (want_ rfl) rfl (by decide) h3 Try.func11 rfl rfl rfl (by kernel_rfl) (fun (v : Value) (W' : World) => v = .agg #[.int .u64 ((lo : Nat) : Int), .int .u64 ((hi : Nat) : Int)] ∧ Below (W1).heap.size W1 W') ((impl_Wide_u.calls _ _ _ _ _ rfl).mono fun e w' hh => ⟨_, hh.1, rfl, hh.2⟩) (fun v4 W4 a4 hR4 h4 d4 => ?_)
  replace d4 := d4.trans d3
  clear h3 d3
  obtain ⟨rfl, hb⟩ := hR4
  have hB2 := hB.trans (hb.mono hB.size)
  refine callW_ops (N := 7) (i := 2) (d := 5) (f := 12) (args := [.v (.agg #[.int .u64 ((lo : Nat) : Int), .int .u64 ((hi : Nat) : Int)])]) (l := [3, 4]) rfl (want_ rfl) rfl (by decide) h4 Try.func12 rfl rfl rfl (by kernel_rfl) (fun (v : Value) (W' : World) => ∃ p, v = .pointer (some ⟨p, 0, none⟩) ∧ BigIs W' p ((words2 lo hi).map (fun (x : Nat) => (x : Int))) ∧ Below (W4).heap.size W4 W') (big_any lo hi hl _) (fun v5 W5 a5 hR5 h5 d5 => ?_)
  replace d5 := d5.trans d4
  clear h4 d4
  obtain ⟨p, rfl, hBig, hb3⟩ := hR5
  have hB3 := hB2.trans (hb3.mono hB2.size)
  refine callW_ops (N := 7) (i := 3) (d := 6) (f := 13) (args := [.v (.pointer (some ⟨p, 0, none⟩))]) (l := [4]) rfl (want_ rfl) rfl (by decide) h5 Try.func13 rfl rfl rfl (by kernel_rfl) (fun (v : Value) (w' : World) => Kd.V (Kd.int .u8) 5 w' W5.heap.size (fun k_ => (W5.heap.size ≤ k_)) v (octs (words2 lo hi)) ∧ Below (W5).heap.size W5 w') (bytes_any p (words2 lo hi) (Nat.lt_of_le_of_lt (words2_len lo hi) (by decide)) _ hBig) (fun v6 W6 a6 hR6 h6 d6 => ?_)
  replace d6 := d6.trans d5
  clear h5 d5
  obtain ⟨hV, hb4⟩ := hR6
  have hB4 := hB3.trans (hb4.mono hB3.size)
  have hV2 := Kd.V_lower (Kd.V_mono hV (fun k hk => Nat.le_trans hB3.size hk)) hB3.size
  refine opsP (N := 7) (T := TT) (M := (fun _ _ => none)) tabOk (fun _ _ _ h => by cases h) [] [4] [(2, .v v6)] h6 (by kernel_rfl) ⟨by kernel_rfl, trivial⟩ (fun a7 h7 d7 => ?_)
  replace d7 := d7.trans d6
  clear h6 d6
  show Code.wp _ _ _ _ _
  refine wp_ret ?_
  exact ⟨d7, _, results_tmp rfl _ _ _, _, congrArg Ending.returned (h7.2 2 _ rfl), hV2, hB4⟩
end Go.Proofs.Ytjmgiodkfgdgnaa.PAll
namespace Go.Proofs.Ytjmgiodkfgdgnaa.PAll
open Go.RowKit Go.Proofs.YtjmgiodkfgdgnaaW.PrintWords Go.Proofs.YtjmgiodkfgdgnaaW.PrintLast Go.Proofs.YtjmgiodkfgdgnaaW.PrintMore
set_option linter.unusedVariables false
set_option linter.unusedSimpArgs false
def wbigF (a b : Int) : Option (List Int) := if 0 ≤ a ∧ a < 18446744073709551616 ∧ 0 ≤ b then some (octs (words2 a.toNat b.toNat)) else none
theorem wbig_calls (a b : Int) (r1 : List Int) (w : World) (h : wbigF a b = some r1) :
    Calls Try.prog 4 #[.agg #[.int .u64 a, .int .u64 b]] w fun e w' => ∃ v0_ : Value, e = .returned v0_ ∧ Kd.V (Kd.int .u8) 5 w' w.heap.size (fun k_ => (w.heap.size ≤ k_)) v0_ r1 ∧ Below w.heap.size w w' := by
  unfold wbigF at h
  split at h
  · rename_i hb
    obtain rfl := Option.some.inj h
    have ea : a = ((a.toNat : Nat) : Int) := (Int.toNat_of_nonneg hb.1).symm
    have eb : b = ((b.toNat : Nat) : Int) := (Int.toNat_of_nonneg hb.2.2).symm
    have := wbig_walk a.toNat b.toNat (by omega) w
    rw [← ea, ← eb] at this
    exact this
  · exact absurd h (by simp)
def wfbF (l : List Int) (below : Bool) : Option (Int × Int × Bool) := if l.length < 900 ∧ l.all (fun o => decide (0 ≤ o ∧ o < 256)) = true then some (wfbR (l.map Int.toNat) below) else none
theorem wfbig_calls (A0 : Option Addr) (c0 : Nat) (l0 : List Int) (a1 : Bool) (r1 r2 : Int) (r3 : Bool) (w : World) (hr0 : Kd.C (Kd.int .u8) w A0 l0.length l0) (hc0 : l0.length ≤ c0) (h : wfbF l0 a1 = some (r1, r2, r3)) :
    Calls Try.prog 8 #[.slice A0 l0.length c0, .bool a1] w fun e w' => e = .returned (.tuple #[.agg #[.int .u64 r1, .int .u64 r2], .bool r3]) ∧ Below w.heap.size w w' := by
  unfold wfbF at h
  split at h
  · rename_i hb
    have hr := Option.some.inj h
    have h8 : ∀ o ∈ l0, 0 ≤ o ∧ o < 256 := fun o ho => of_decide_eq_true (List.all_eq_true.1 hb.2 o ho)
    have el : (l0.map Int.toNat).map (fun (x : Nat) => (x : Int)) = l0 := by
      rw [List.map_map]
      conv => rhs; rw [← List.map_id l0]
      refine List.map_congr_left (fun o ho => ?_)
      exact Int.toNat_of_nonneg (h8 o ho).1
    have hO : Oc w A0 (l0.map Int.toNat) := by
      unfold Oc
      rw [el, List.length_map]
      exact hr0
    have := wfb_walk l0.length c0 A0 (l0.map Int.toNat) a1 (by rw [List.length_map]) hc0 (fun o ho => by
      obtain ⟨x, hx, rfl⟩ := List.mem_map.1 ho
      have := h8 x hx
      omega) hb.1 w hO
    rw [hr] at this
    exact this
  · exact absurd h (by simp)
end Go.Proofs.Ytjmgiodkfgdgnaa.PAll
