/- Printed by the kit's print.py, called for several laws at once: functions as plain Lean, and the walks' contracts. -/
import Derived.Test.YtiifnofghicnaaaQAllx0
import Derived.Test.YtiifnofghicnaaaQAllx1
import Derived.Test.YtiifnofghicnaaaQAllx2
import Derived.Test.YtiifnofghicnaaaQAllx5
import Derived.Test.YtiifnofghicnaaaQAllx6
import Derived.Test.YtiifnofghicnaaaQAllx8
import Derived.Test.YtiifnofghicnaaaQAllx9
import Derived.Test.YtiifnofghicnaaaQAllx15
namespace Go.Proofs.Ytiifnofghicnaaa.PAll
open Go.RowKit Go.Proofs.YtiifnofghicnaaaW.PrintWords Go.Proofs.YtiifnofghicnaaaW.PrintLast Go.Proofs.YtiifnofghicnaaaW.PrintMore
attribute [local go_sem] max2_int min2_int max_two min_two max_three min_three max_four min_four   -- for this text's walks alone
set_option linter.unusedVariables false
set_option linter.unusedSimpArgs false

/-! ### for (pub-hashloom/pub/uint128.Uint128).Add -/
def uint128_Uint128_Add.f (a0_0 a0_1 a1_0 a1_1 : Int) : Option (Int × Int) :=
  if U64 a0_0 ∧ U64 a0_1 ∧ U64 a1_0 ∧ U64 a1_1 ∧ N128 a0_0 a0_1 + N128 a1_0 a1_1 < 340282366920938463463374607431768211456 then some (halves (N128 a0_0 a0_1 + N128 a1_0 a1_1)) else none
theorem add_no (a b c d : Nat) (ha : a < 18446744073709551616) (hc : c < 18446744073709551616) (h : a + b * 18446744073709551616 + (c + d * 18446744073709551616) < 340282366920938463463374607431768211456) : (((aHi b d (aHi a c 0) : Nat) : Int) != 0) = false := by
  have : aHi b d (aHi a c 0) = 0 := by unfold aHi; omega
  rw [this]; rfl
theorem add_yes (a b c d : Nat) (ha : a < 18446744073709551616) (hc : c < 18446744073709551616) (h : ¬ a + b * 18446744073709551616 + (c + d * 18446744073709551616) < 340282366920938463463374607431768211456) : (((aHi b d (aHi a c 0) : Nat) : Int) != 0) = true := by
  have : aHi b d (aHi a c 0) ≠ 0 := by unfold aHi; omega
  rw [bne_iff_ne]; omega
set_option maxHeartbeats 2000000 in
set_option maxRecDepth 100000 in
theorem add_nat (a b c d : Nat) (ha : a < 18446744073709551616) (hb : b < 18446744073709551616) (hc : c < 18446744073709551616) (hd : d < 18446744073709551616) (hk : (((aHi b d (aHi a c 0) : Nat) : Int) != 0) = false) (w : World) :
    Calls Try.prog 108 #[.agg #[.int .u64 a, .int .u64 b], .agg #[.int .u64 c, .int .u64 d]] w fun e w' => e = .returned (.agg #[.int .u64 (aLo a c 0 : Int), .int .u64 (aLo b d (aHi a c 0) : Int)]) ∧ Below w.heap.size w w' := by
  have r1 := run_add64_0 a c
  have r2 := run_add64 b d (aHi a c 0) (aHi_le ha hc (by decide))
  clear ha hb hc hd
  go_enter Try.func108, Try.ntmps108
  go_wp2
  refine bodyPost_ret (v := .agg #[.int .u64 (aLo a c 0 : Int), .int .u64 (aLo b d (aHi a c 0) : Int)]) (by simp [results, Try.results108, go_sem]) rfl ⟨rfl, ?_⟩
  exact (((Below.refl w.heap.size w).alloc (Nat.le_refl _) _).alloc (by simp) _).alloc (by simp; omega) _
set_option maxHeartbeats 2000000 in
set_option maxRecDepth 100000 in
theorem add_nat_panics (a b c d : Nat) (ha : a < 18446744073709551616) (hb : b < 18446744073709551616) (hc : c < 18446744073709551616) (hd : d < 18446744073709551616) (hk : (((aHi b d (aHi a c 0) : Nat) : Int) != 0) = true) (w : World) :
    Calls Try.prog 108 #[.agg #[.int .u64 a, .int .u64 b], .agg #[.int .u64 c, .int .u64 d]] w fun e w' => (∃ pv, e = .panicked [{ v := .iface 9 pv, recovered := false }]) ∧ Below w.heap.size w w' := by
  have r1 := run_add64_0 a c
  have r2 := run_add64 b d (aHi a c 0) (aHi_le ha hc (by decide))
  clear ha hb hc hd
  go_enter Try.func108, Try.ntmps108
  go_wp2
  exact ⟨rfl, ⟨_, rfl⟩, (((Below.refl w.heap.size w).alloc (Nat.le_refl _) _).alloc (by simp) _).alloc (by simp; omega) _⟩
theorem uint128_Uint128_Add.calls (a0_0 : Int) (a0_1 : Int) (a1_0 : Int) (a1_1 : Int) (r1 : Int) (r2 : Int) (w : World) (h : uint128_Uint128_Add.f a0_0 a0_1 a1_0 a1_1 = some (r1, r2)) :
    Calls Try.prog 108 #[.agg #[.int .u64 a0_0, .int .u64 a0_1], .agg #[.int .u64 a1_0, .int .u64 a1_1]] w fun e w' => e = .returned (.agg #[.int .u64 r1, .int .u64 r2]) ∧ Below w.heap.size w w' := by
  unfold uint128_Uint128_Add.f at h
  split at h
  case isFalse => cases h
  rename_i hb
  obtain ⟨ka, kb, kc, kd, kx⟩ := hb
  obtain ⟨a, rfl, ha⟩ := ka.nat
  obtain ⟨b, rfl, hb⟩ := kb.nat
  obtain ⟨c, rfl, hc⟩ := kc.nat
  obtain ⟨d, rfl, hd⟩ := kd.nat
  have e := Option.some.inj h
  simp only [halves, N128, Int.toNat_natCast, Prod.mk.injEq] at e kx
  rw [← addw_1, ← addw_2 a b c d ha hc] at e
  obtain ⟨rfl, rfl⟩ := e
  exact add_nat a b c d ha hb hc hd (add_no a b c d ha hc kx) w
theorem uint128_Uint128_Add.panics (a0_0 : Int) (a0_1 : Int) (a1_0 : Int) (a1_1 : Int) (w : World) (hu : U64 a0_0 ∧ U64 a0_1 ∧ U64 a1_0 ∧ U64 a1_1) (h : ¬ (N128 a0_0 a0_1 + N128 a1_0 a1_1 < 340282366920938463463374607431768211456)) :
    Calls Try.prog 108 #[.agg #[.int .u64 a0_0, .int .u64 a0_1], .agg #[.int .u64 a1_0, .int .u64 a1_1]] w fun e w' => (∃ pv, e = .panicked [{ v := .iface 9 pv, recovered := false }]) ∧ Below w.heap.size w w' := by
  obtain ⟨ka, kb, kc, kd⟩ := hu
  obtain ⟨a, rfl, ha⟩ := ka.nat
  obtain ⟨b, rfl, hb⟩ := kb.nat
  obtain ⟨c, rfl, hc⟩ := kc.nat
  obtain ⟨d, rfl, hd⟩ := kd.nat
  simp only [N128, Int.toNat_natCast] at h
  exact add_nat_panics a b c d ha hb hc hd (add_yes a b c d ha hc h) w

/-! ### impl_WideAdd: function 62 -/
set_option maxHeartbeats 1000000 in
set_option maxRecDepth 100000 in
theorem WideAdd_1ret (a b c d : Int) (r1 r2 : Int) (p q : Nat) (w : World) (h : uint128_Uint128_Add.f a b c d = some (r1, r2)) (lp : p < w.heap.size) (lq : q < w.heap.size)
    (p0 : w.cell? ⟨p, 0, none⟩ = some (.int .u64 a)) (p1 : w.cell? ⟨p, 1, none⟩ = some (.int .u64 b)) (q0 : w.cell? ⟨q, 0, none⟩ = some (.int .u64 c)) (q1 : w.cell? ⟨q, 1, none⟩ = some (.int .u64 d)) :
    Calls Try.prog 107 #[.pointer (some ⟨p, 0, none⟩), .pointer (some ⟨q, 0, none⟩)] w fun e w' => e = .returned (.agg #[.int .u64 r1, .int .u64 r2]) ∧ Below w.heap.size w w' := by
  have HH := Lib.hid h
  clear h
  go_enter Try.func107, Try.ntmps107
  go_wp2_with fail
  obtain ⟨w0, w1, f0, f1, lz, BB⟩ := alloc2_facts w 24 (.int .u64 0) (.int .u64 0)
  replace p0 := (BB.cell (p := ⟨p, 0, none⟩) (by exact lp)).trans p0
  replace p1 := (BB.cell (p := ⟨p, 1, none⟩) (by exact lp)).trans p1
  replace q0 := (BB.cell (p := ⟨q, 0, none⟩) (by exact lq)).trans q0
  replace q1 := (BB.cell (p := ⟨q, 1, none⟩) (by exact lq)).trans q1
  generalize w.alloc (.cells #[.int .u64 0, .int .u64 0] 24) = W0 at *
  refine start_ (n := 7) (S := fun w' => w'.cell? ⟨p, 0, none⟩ = some (.int .u64 a) ∧ w'.cell? ⟨p, 1, none⟩ = some (.int .u64 b) ∧ w'.cell? ⟨q, 0, none⟩ = some (.int .u64 c) ∧ w'.cell? ⟨q, 1, none⟩ = some (.int .u64 d)) (ds := []) #[false, false, false, false, false, false, false] (by kernel_rfl) rfl rfl ⟨p0, p1, q0, q1⟩ (fun hHeld => ?_)
  replace BB := BB.drew
  replace p0 : W0.drew.cell? ⟨p, 0, none⟩ = some (.int .u64 a) := p0
  replace p1 : W0.drew.cell? ⟨p, 1, none⟩ = some (.int .u64 b) := p1
  replace q0 : W0.drew.cell? ⟨q, 0, none⟩ = some (.int .u64 c) := q0
  replace q1 : W0.drew.cell? ⟨q, 1, none⟩ = some (.int .u64 d) := q1
  replace w0 : W0.drew.cell? ⟨w.heap.size, 0, none⟩ = some (.int .u64 0) := w0
  replace w1 : W0.drew.cell? ⟨w.heap.size, 1, none⟩ = some (.int .u64 0) := w1
  replace f0 : W0.drew.frozen? ⟨w.heap.size, 0, none⟩ = false := f0
  replace f1 : W0.drew.frozen? ⟨w.heap.size, 1, none⟩ = false := f1
  replace lz : w.heap.size < W0.drew.heap.size := lz
  generalize W0.drew = W1 at BB p0 p1 q0 q1 w0 w1 f0 f1 lz hHeld ⊢
  refine take_ (i := 0) (N := some 3) (v := ?_) (a' := ?_) #[true, false, false, false, false, false, false] rfl rfl (by kernel_rfl) (fun _ _ _ h => h) (Or.inl ⟨by rfl, ?_⟩) hHeld ?_ ?_
  rotate_left
  · rintro w' ⟨s0, s1, s2, s3⟩
    go_simp
    with_reducible rfl
  rotate_left
  · simp only [Act.put, List.setIfInBounds_toArray, List.set_cons_zero, List.set_cons_succ, i64_w, i32_w]
    rfl
  refine take_ (i := 2) (N := some 5) (v := ?_) (a' := ?_) #[true, false, true, false, false, false, false] rfl rfl (by kernel_rfl) (fun _ _ _ h => h) (Or.inl ⟨by rfl, ?_⟩) hHeld ?_ ?_
  rotate_left
  · rintro w' ⟨s0, s1, s2, s3⟩
    go_simp
    with_reducible rfl
  rotate_left
  · simp only [Act.put, List.setIfInBounds_toArray, List.set_cons_zero, List.set_cons_succ, i64_w, i32_w]
    rfl
  refine one_ (i := 1) (N := some 4) #[true, true, true, false, false, false, false] rfl rfl (by kernel_rfl) (by decide) (fun K hK => ?_)
  refine goes_ Try.func76 (by kernel_rfl) rfl #[.agg #[.int .u64 a, .int .u64 b]] (by rfl) rfl rfl (by (try simp only [List.map_toArray, List.map_cons, List.map_nil]); first | done | rfl) ?_
  refine (impl_Wide_u.calls a b a b _ rfl).mono ?_
  rintro e W2 ⟨rfl, hb⟩
  refine ⟨_, rfl, ?_⟩
  replace p0 := (hb.cell (p := ⟨p, 0, none⟩) (Nat.lt_trans lp lz)).trans p0
  replace p1 := (hb.cell (p := ⟨p, 1, none⟩) (Nat.lt_trans lp lz)).trans p1
  replace q0 := (hb.cell (p := ⟨q, 0, none⟩) (Nat.lt_trans lq lz)).trans q0
  replace q1 := (hb.cell (p := ⟨q, 1, none⟩) (Nat.lt_trans lq lz)).trans q1
  replace w0 := (hb.cell (p := ⟨w.heap.size, 0, none⟩) lz).trans w0
  replace w1 := (hb.cell (p := ⟨w.heap.size, 1, none⟩) lz).trans w1
  replace f0 := (hb.frozen (p := ⟨w.heap.size, 0, none⟩) lz).trans f0
  replace f1 := (hb.frozen (p := ⟨w.heap.size, 1, none⟩) lz).trans f1
  replace BB := BB.trans (hb.mono (Nat.le_of_lt lz))
  replace lz := Nat.lt_of_lt_of_le lz hb.size
  clear hb
  refine hK.out _ _ ⟨p0, p1, q0, q1⟩ (fun hHeld => ?_)
  clear hK K
  refine norm_ (a' := ?_) ?_ ?_
  rotate_left
  · show Act.put _ (some 4) _ = _
    simp only [Act.put, List.setIfInBounds_toArray, List.set_cons_zero, List.set_cons_succ, i64_w, i32_w]
    rfl
  refine one_ (i := 3) (N := some 6) #[true, true, true, true, false, false, false] rfl rfl (by kernel_rfl) (by decide) (fun K hK => ?_)
  refine goes_ Try.func76 (by kernel_rfl) rfl #[.agg #[.int .u64 c, .int .u64 d]] (by rfl) rfl rfl (by (try simp only [List.map_toArray, List.map_cons, List.map_nil]); first | done | rfl) ?_
  refine (impl_Wide_u.calls c d c d _ rfl).mono ?_
  rintro e W2 ⟨rfl, hb⟩
  refine ⟨_, rfl, ?_⟩
  replace p0 := (hb.cell (p := ⟨p, 0, none⟩) (Nat.lt_trans lp lz)).trans p0
  replace p1 := (hb.cell (p := ⟨p, 1, none⟩) (Nat.lt_trans lp lz)).trans p1
  replace q0 := (hb.cell (p := ⟨q, 0, none⟩) (Nat.lt_trans lq lz)).trans q0
  replace q1 := (hb.cell (p := ⟨q, 1, none⟩) (Nat.lt_trans lq lz)).trans q1
  replace w0 := (hb.cell (p := ⟨w.heap.size, 0, none⟩) lz).trans w0
  replace w1 := (hb.cell (p := ⟨w.heap.size, 1, none⟩) lz).trans w1
  replace f0 := (hb.frozen (p := ⟨w.heap.size, 0, none⟩) lz).trans f0
  replace f1 := (hb.frozen (p := ⟨w.heap.size, 1, none⟩) lz).trans f1
  replace BB := BB.trans (hb.mono (Nat.le_of_lt lz))
  replace lz := Nat.lt_of_lt_of_le lz hb.size
  clear hb
  refine hK.out _ _ ⟨p0, p1, q0, q1⟩ (fun hHeld => ?_)
  clear hK K
  refine norm_ (a' := ?_) ?_ ?_
  rotate_left
  · show Act.put _ (some 6) _ = _
    simp only [Act.put, List.setIfInBounds_toArray, List.set_cons_zero, List.set_cons_succ, i64_w, i32_w]
    rfl
  refine one_ (i := 4) (N := some 7) #[true, true, true, true, true, false, false] rfl rfl (by kernel_rfl) (by decide) (fun K hK => ?_)
  refine goes_ Try.func108 (by kernel_rfl) rfl #[.agg #[.int .u64 a, .int .u64 b], .agg #[.int .u64 c, .int .u64 d]] (by rfl) rfl rfl (by (try simp only [List.map_toArray, List.map_cons, List.map_nil]); first | done | rfl) ?_
  refine (uint128_Uint128_Add.calls a b c d r1 r2 _ HH.out).mono ?_
  rintro e W2 ⟨rfl, hb⟩
  refine ⟨_, rfl, ?_⟩
  replace p0 := (hb.cell (p := ⟨p, 0, none⟩) (Nat.lt_trans lp lz)).trans p0
  replace p1 := (hb.cell (p := ⟨p, 1, none⟩) (Nat.lt_trans lp lz)).trans p1
  replace q0 := (hb.cell (p := ⟨q, 0, none⟩) (Nat.lt_trans lq lz)).trans q0
  replace q1 := (hb.cell (p := ⟨q, 1, none⟩) (Nat.lt_trans lq lz)).trans q1
  replace w0 := (hb.cell (p := ⟨w.heap.size, 0, none⟩) lz).trans w0
  replace w1 := (hb.cell (p := ⟨w.heap.size, 1, none⟩) lz).trans w1
  replace f0 := (hb.frozen (p := ⟨w.heap.size, 0, none⟩) lz).trans f0
  replace f1 := (hb.frozen (p := ⟨w.heap.size, 1, none⟩) lz).trans f1
  replace BB := BB.trans (hb.mono (Nat.le_of_lt lz))
  replace lz := Nat.lt_of_lt_of_le lz hb.size
  clear hb
  refine hK.out _ _ ⟨p0, p1, q0, q1⟩ (fun hHeld => ?_)
  clear hK K
  refine norm_ (a' := ?_) ?_ ?_
  rotate_left
  · show Act.put _ (some 7) _ = _
    simp only [Act.put, List.setIfInBounds_toArray, List.set_cons_zero, List.set_cons_succ, i64_w, i32_w]
    rfl
  refine one_ (i := 5) (N := some 8) #[true, true, true, true, true, true, false] rfl rfl (by kernel_rfl) (by decide) (fun K hK => ?_)
  refine goes_ Try.func80 (by kernel_rfl) rfl #[.agg #[.int .u64 r1, .int .u64 r2]] (by rfl) rfl rfl (by (try simp only [List.map_toArray, List.map_cons, List.map_nil]); first | done | rfl) ?_
  refine (impl_wide.calls r1 r2 r1 r2 _ rfl).mono ?_
  rintro e W2 ⟨rfl, hb⟩
  refine ⟨_, rfl, ?_⟩
  replace p0 := (hb.cell (p := ⟨p, 0, none⟩) (Nat.lt_trans lp lz)).trans p0
  replace p1 := (hb.cell (p := ⟨p, 1, none⟩) (Nat.lt_trans lp lz)).trans p1
  replace q0 := (hb.cell (p := ⟨q, 0, none⟩) (Nat.lt_trans lq lz)).trans q0
  replace q1 := (hb.cell (p := ⟨q, 1, none⟩) (Nat.lt_trans lq lz)).trans q1
  replace w0 := (hb.cell (p := ⟨w.heap.size, 0, none⟩) lz).trans w0
  replace w1 := (hb.cell (p := ⟨w.heap.size, 1, none⟩) lz).trans w1
  replace f0 := (hb.frozen (p := ⟨w.heap.size, 0, none⟩) lz).trans f0
  replace f1 := (hb.frozen (p := ⟨w.heap.size, 1, none⟩) lz).trans f1
  replace BB := BB.trans (hb.mono (Nat.le_of_lt lz))
  replace lz := Nat.lt_of_lt_of_le lz hb.size
  clear hb
  refine hK.out _ _ ⟨p0, p1, q0, q1⟩ (fun hHeld => ?_)
  clear hK K
  refine norm_ (a' := ?_) ?_ ?_
  rotate_left
  · show Act.put _ (some 8) _ = _
    simp only [Act.put, List.setIfInBounds_toArray, List.set_cons_zero, List.set_cons_succ, i64_w, i32_w]
    rfl
  refine one_ (i := 6) (N := none) #[true, true, true, true, true, true, true] rfl rfl (by kernel_rfl) (by decide) (fun K hK => ?_)
  refine skip_ (w1 := ?_) (by rfl) rfl ?_ ?_
  rotate_left
  · go_simp
    rfl
  refine hK.out _ _ ⟨(cell_far (p := ⟨w.heap.size, 1, none⟩) (by exact Nat.ne_of_lt lp) _).trans ((cell_far (p := ⟨w.heap.size, 0, none⟩) (by exact Nat.ne_of_lt lp) _).trans p0), (cell_far (p := ⟨w.heap.size, 1, none⟩) (by exact Nat.ne_of_lt lp) _).trans ((cell_far (p := ⟨w.heap.size, 0, none⟩) (by exact Nat.ne_of_lt lp) _).trans p1), (cell_far (p := ⟨w.heap.size, 1, none⟩) (by exact Nat.ne_of_lt lq) _).trans ((cell_far (p := ⟨w.heap.size, 0, none⟩) (by exact Nat.ne_of_lt lq) _).trans q0), (cell_far (p := ⟨w.heap.size, 1, none⟩) (by exact Nat.ne_of_lt lq) _).trans ((cell_far (p := ⟨w.heap.size, 0, none⟩) (by exact Nat.ne_of_lt lq) _).trans q1)⟩ (fun hHeld => ?_)
  clear hK K
  refine done_ (by kernel_rfl) ?_
  go_wp2
  refine bodyPost_ret (v := .agg #[.int .u64 r1, .int .u64 r2]) (by simp [results, Try.results107, go_sem, w0, w1]) rfl ⟨rfl, (BB.setCell (p := ⟨w.heap.size, 0, none⟩) (Nat.le_refl _) _).setCell (p := ⟨w.heap.size, 1, none⟩) (Nat.le_refl _) _⟩
set_option maxHeartbeats 1000000 in
set_option maxRecDepth 100000 in
theorem WideAdd_1pan (a b c d : Int) (p q : Nat) (w : World) (hu : U64 a ∧ U64 b ∧ U64 c ∧ U64 d) (h : ¬ (N128 a b + N128 c d < 340282366920938463463374607431768211456)) (lp : p < w.heap.size) (lq : q < w.heap.size)
    (p0 : w.cell? ⟨p, 0, none⟩ = some (.int .u64 a)) (p1 : w.cell? ⟨p, 1, none⟩ = some (.int .u64 b)) (q0 : w.cell? ⟨q, 0, none⟩ = some (.int .u64 c)) (q1 : w.cell? ⟨q, 1, none⟩ = some (.int .u64 d)) :
    Calls Try.prog 107 #[.pointer (some ⟨p, 0, none⟩), .pointer (some ⟨q, 0, none⟩)] w fun e w' => (∃ pv, e = .panicked [{ v := .iface 9 pv, recovered := false }]) ∧ Below w.heap.size w w' := by
  have HH := Lib.hid hu
  have HN := Lib.hid h
  clear hu h
  go_enter Try.func107, Try.ntmps107
  go_wp2_with fail
  obtain ⟨w0, w1, f0, f1, lz, BB⟩ := alloc2_facts w 24 (.int .u64 0) (.int .u64 0)
  replace p0 := (BB.cell (p := ⟨p, 0, none⟩) (by exact lp)).trans p0
  replace p1 := (BB.cell (p := ⟨p, 1, none⟩) (by exact lp)).trans p1
  replace q0 := (BB.cell (p := ⟨q, 0, none⟩) (by exact lq)).trans q0
  replace q1 := (BB.cell (p := ⟨q, 1, none⟩) (by exact lq)).trans q1
  generalize w.alloc (.cells #[.int .u64 0, .int .u64 0] 24) = W0 at *
  refine start_ (n := 7) (S := fun w' => w'.cell? ⟨p, 0, none⟩ = some (.int .u64 a) ∧ w'.cell? ⟨p, 1, none⟩ = some (.int .u64 b) ∧ w'.cell? ⟨q, 0, none⟩ = some (.int .u64 c) ∧ w'.cell? ⟨q, 1, none⟩ = some (.int .u64 d)) (ds := []) #[false, false, false, false, false, false, false] (by kernel_rfl) rfl rfl ⟨p0, p1, q0, q1⟩ (fun hHeld => ?_)
  replace BB := BB.drew
  replace p0 : W0.drew.cell? ⟨p, 0, none⟩ = some (.int .u64 a) := p0
  replace p1 : W0.drew.cell? ⟨p, 1, none⟩ = some (.int .u64 b) := p1
  replace q0 : W0.drew.cell? ⟨q, 0, none⟩ = some (.int .u64 c) := q0
  replace q1 : W0.drew.cell? ⟨q, 1, none⟩ = some (.int .u64 d) := q1
  replace w0 : W0.drew.cell? ⟨w.heap.size, 0, none⟩ = some (.int .u64 0) := w0
  replace w1 : W0.drew.cell? ⟨w.heap.size, 1, none⟩ = some (.int .u64 0) := w1
  replace f0 : W0.drew.frozen? ⟨w.heap.size, 0, none⟩ = false := f0
  replace f1 : W0.drew.frozen? ⟨w.heap.size, 1, none⟩ = false := f1
  replace lz : w.heap.size < W0.drew.heap.size := lz
  generalize W0.drew = W1 at BB p0 p1 q0 q1 w0 w1 f0 f1 lz hHeld ⊢
  refine take_ (i := 0) (N := some 3) (v := ?_) (a' := ?_) #[true, false, false, false, false, false, false] rfl rfl (by kernel_rfl) (fun _ _ _ h => h) (Or.inl ⟨by rfl, ?_⟩) hHeld ?_ ?_
  rotate_left
  · rintro w' ⟨s0, s1, s2, s3⟩
    go_simp
    with_reducible rfl
  rotate_left
  · simp only [Act.put, List.setIfInBounds_toArray, List.set_cons_zero, List.set_cons_succ, i64_w, i32_w]
    rfl
  refine take_ (i := 2) (N := some 5) (v := ?_) (a' := ?_) #[true, false, true, false, false, false, false] rfl rfl (by kernel_rfl) (fun _ _ _ h => h) (Or.inl ⟨by rfl, ?_⟩) hHeld ?_ ?_
  rotate_left
  · rintro w' ⟨s0, s1, s2, s3⟩
    go_simp
    with_reducible rfl
  rotate_left
  · simp only [Act.put, List.setIfInBounds_toArray, List.set_cons_zero, List.set_cons_succ, i64_w, i32_w]
    rfl
  refine one_ (i := 1) (N := some 4) #[true, true, true, false, false, false, false] rfl rfl (by kernel_rfl) (by decide) (fun K hK => ?_)
  refine goes_ Try.func76 (by kernel_rfl) rfl #[.agg #[.int .u64 a, .int .u64 b]] (by rfl) rfl rfl (by (try simp only [List.map_toArray, List.map_cons, List.map_nil]); first | done | rfl) ?_
  refine (impl_Wide_u.calls a b a b _ rfl).mono ?_
  rintro e W2 ⟨rfl, hb⟩
  refine ⟨_, rfl, ?_⟩
  replace p0 := (hb.cell (p := ⟨p, 0, none⟩) (Nat.lt_trans lp lz)).trans p0
  replace p1 := (hb.cell (p := ⟨p, 1, none⟩) (Nat.lt_trans lp lz)).trans p1
  replace q0 := (hb.cell (p := ⟨q, 0, none⟩) (Nat.lt_trans lq lz)).trans q0
  replace q1 := (hb.cell (p := ⟨q, 1, none⟩) (Nat.lt_trans lq lz)).trans q1
  replace w0 := (hb.cell (p := ⟨w.heap.size, 0, none⟩) lz).trans w0
  replace w1 := (hb.cell (p := ⟨w.heap.size, 1, none⟩) lz).trans w1
  replace f0 := (hb.frozen (p := ⟨w.heap.size, 0, none⟩) lz).trans f0
  replace f1 := (hb.frozen (p := ⟨w.heap.size, 1, none⟩) lz).trans f1
  replace BB := BB.trans (hb.mono (Nat.le_of_lt lz))
  replace lz := Nat.lt_of_lt_of_le lz hb.size
  clear hb
  refine hK.out _ _ ⟨p0, p1, q0, q1⟩ (fun hHeld => ?_)
  clear hK K
  refine norm_ (a' := ?_) ?_ ?_
  rotate_left
  · show Act.put _ (some 4) _ = _
    simp only [Act.put, List.setIfInBounds_toArray, List.set_cons_zero, List.set_cons_succ, i64_w, i32_w]
    rfl
  refine one_ (i := 3) (N := some 6) #[true, true, true, true, false, false, false] rfl rfl (by kernel_rfl) (by decide) (fun K hK => ?_)
  refine goes_ Try.func76 (by kernel_rfl) rfl #[.agg #[.int .u64 c, .int .u64 d]] (by rfl) rfl rfl (by (try simp only [List.map_toArray, List.map_cons, List.map_nil]); first | done | rfl) ?_
  refine (impl_Wide_u.calls c d c d _ rfl).mono ?_
  rintro e W2 ⟨rfl, hb⟩
  refine ⟨_, rfl, ?_⟩
  replace p0 := (hb.cell (p := ⟨p, 0, none⟩) (Nat.lt_trans lp lz)).trans p0
  replace p1 := (hb.cell (p := ⟨p, 1, none⟩) (Nat.lt_trans lp lz)).trans p1
  replace q0 := (hb.cell (p := ⟨q, 0, none⟩) (Nat.lt_trans lq lz)).trans q0
  replace q1 := (hb.cell (p := ⟨q, 1, none⟩) (Nat.lt_trans lq lz)).trans q1
  replace w0 := (hb.cell (p := ⟨w.heap.size, 0, none⟩) lz).trans w0
  replace w1 := (hb.cell (p := ⟨w.heap.size, 1, none⟩) lz).trans w1
  replace f0 := (hb.frozen (p := ⟨w.heap.size, 0, none⟩) lz).trans f0
  replace f1 := (hb.frozen (p := ⟨w.heap.size, 1, none⟩) lz).trans f1
  replace BB := BB.trans (hb.mono (Nat.le_of_lt lz))
  replace lz := Nat.lt_of_lt_of_le lz hb.size
  clear hb
  refine hK.out _ _ ⟨p0, p1, q0, q1⟩ (fun hHeld => ?_)
  clear hK K
  refine norm_ (a' := ?_) ?_ ?_
  rotate_left
  · show Act.put _ (some 6) _ = _
    simp only [Act.put, List.setIfInBounds_toArray, List.set_cons_zero, List.set_cons_succ, i64_w, i32_w]
    rfl
  refine one_ (i := 4) (N := some 7) #[true, true, true, true, true, false, false] rfl rfl (by kernel_rfl) (by decide) (fun K hK => ?_)
  refine pgoes_ Try.func108 (by kernel_rfl) rfl #[.agg #[.int .u64 a, .int .u64 b], .agg #[.int .u64 c, .int .u64 d]] (by rfl) rfl (by (try simp only [List.map_toArray, List.map_cons, List.map_nil]); first | done | rfl) ?_
  refine (uint128_Uint128_Add.panics a b c d _ HH.out HN.out).mono ?_
  rintro e W2 ⟨⟨pv, rfl⟩, hb⟩
  exact ⟨_, rfl, rfl, ⟨_, rfl⟩, BB.trans (hb.mono (Nat.le_of_lt lz))⟩
def impl_WideAdd.f (a0_0 a0_1 a1_0 a1_1 : Int) : Option (Int × Int × Bool) :=
  if U64 a0_0 ∧ U64 a0_1 ∧ U64 a1_0 ∧ U64 a1_1 then (if N128 a0_0 a0_1 + N128 a1_0 a1_1 < 340282366920938463463374607431768211456 then some ((halves (N128 a0_0 a0_1 + N128 a1_0 a1_1)).1, (halves (N128 a0_0 a0_1 + N128 a1_0 a1_1)).2, true) else some (0, 0, false)) else none
set_option maxHeartbeats 1000000 in
set_option maxRecDepth 100000 in
theorem impl_WideAdd.calls (a0_0 : Int) (a0_1 : Int) (a1_0 : Int) (a1_1 : Int) (r1 : Int) (r2 : Int) (r3 : Bool) (w : World) (h : impl_WideAdd.f a0_0 a0_1 a1_0 a1_1 = some (r1, r2, r3)) :
    Calls Try.prog 62 #[.agg #[.int .u64 a0_0, .int .u64 a0_1], .agg #[.int .u64 a1_0, .int .u64 a1_1]] w fun e w' => e = .returned (.tuple #[.agg #[.int .u64 r1, .int .u64 r2], .bool r3]) ∧ Below w.heap.size w w' := by
  have hmf : ∀ (fn : Fn) (first cap : Array Value) (w : World), (Instr.makeFunc fn first cap).run Try.prog w = .ok (.func fn first cap) w := fun _ _ _ _ => rfl
  unfold impl_WideAdd.f at h
  split at h
  case isFalse => cases h
  rename_i hu
  have key : Calls Try.prog 102 #[.func (.func 107) #[] #[.pointer (some ⟨w.heap.size, 0, none⟩), .pointer (some ⟨w.heap.size + 1, 0, none⟩)]] (((w.alloc (.cells #[.int .u64 a0_0, .int .u64 a0_1] 24)).alloc (.cells #[.int .u64 a1_0, .int .u64 a1_1] 24)).alloc (.cells #[.int .u64 0, .int .u64 0] 24)) fun e w' =>
      e = .returned (.tuple #[.agg #[.int .u64 r1, .int .u64 r2], .bool r3]) ∧ Below (((w.alloc (.cells #[.int .u64 a0_0, .int .u64 a0_1] 24)).alloc (.cells #[.int .u64 a1_0, .int .u64 a1_1] 24)).alloc (.cells #[.int .u64 0, .int .u64 0] 24)).heap.size (((w.alloc (.cells #[.int .u64 a0_0, .int .u64 a0_1] 24)).alloc (.cells #[.int .u64 a1_0, .int .u64 a1_1] 24)).alloc (.cells #[.int .u64 0, .int .u64 0] 24)) w' := by
    have c0 : ∀ W : World, Below (((w.alloc (.cells #[.int .u64 a0_0, .int .u64 a0_1] 24)).alloc (.cells #[.int .u64 a1_0, .int .u64 a1_1] 24)).alloc (.cells #[.int .u64 0, .int .u64 0] 24)).heap.size (((w.alloc (.cells #[.int .u64 a0_0, .int .u64 a0_1] 24)).alloc (.cells #[.int .u64 a1_0, .int .u64 a1_1] 24)).alloc (.cells #[.int .u64 0, .int .u64 0] 24)) W → W.heap[w.heap.size]? = some (.cells #[.int .u64 a0_0, .int .u64 a0_1] 24) ∧ W.heap[w.heap.size + 1]? = some (.cells #[.int .u64 a1_0, .int .u64 a1_1] 24) ∧ w.heap.size + 1 < W.heap.size := by
      intro W hW
      have hs := hW.size
      simp only [World.size_alloc] at hs
      refine ⟨(hW.block _ (by simp only [World.size_alloc]; omega)).trans (blk_alloc (blk_alloc (MapKept.heap_alloc w _).1 _) _), (hW.block _ (by simp only [World.size_alloc]; omega)).trans (blk_alloc ?_ _), by omega⟩
      have := (MapKept.heap_alloc (w.alloc (.cells #[.int .u64 a0_0, .int .u64 a0_1] 24)) (.cells #[.int .u64 a1_0, .int .u64 a1_1] 24)).1
      rw [World.size_alloc] at this
      exact this
    split at h
    · rename_i hlt
      obtain ⟨rfl, rfl, rfl⟩ : (halves (N128 a0_0 a0_1 + N128 a1_0 a1_1)).1 = r1 ∧ (halves (N128 a0_0 a0_1 + N128 a1_0 a1_1)).2 = r2 ∧ true = r3 := by simpa using h
      refine tried_ret 107 _ _ _ _ (fun _ _ => rfl) (Lib.hid fun W hW => ?_)
      obtain ⟨k1, k2, k3⟩ := c0 W hW
      exact WideAdd_1ret a0_0 a0_1 a1_0 a1_1 _ _ _ _ W (by unfold uint128_Uint128_Add.f; rw [if_pos ⟨hu.1, hu.2.1, hu.2.2.1, hu.2.2.2, hlt⟩]) (by omega) (by omega) ((blk_cell k1 0).trans rfl) ((blk_cell k1 1).trans rfl) ((blk_cell k2 0).trans rfl) ((blk_cell k2 1).trans rfl)
    · rename_i hlt
      obtain ⟨rfl, rfl, rfl⟩ : (0 : Int) = r1 ∧ (0 : Int) = r2 ∧ false = r3 := by simpa using h
      refine tried_panics 107 _ _ (fun _ _ => rfl) (Lib.hid fun W hW => ?_)
      obtain ⟨k1, k2, k3⟩ := c0 W hW
      exact WideAdd_1pan a0_0 a0_1 a1_0 a1_1 _ _ W hu hlt (by omega) (by omega) ((blk_cell k1 0).trans rfl) ((blk_cell k1 1).trans rfl) ((blk_cell k2 0).trans rfl) ((blk_cell k2 1).trans rfl)
  have HK := Lib.hid key
  clear key h hu
  go_enter Try.func62, Try.ntmps62
  go_wp2_with fail
  refine HK.out.mono ?_
  rintro e w1 ⟨rfl, hb⟩
  have hs := hb.size
  simp only [World.size_alloc] at hs
  have g2 : w1.heap[w.heap.size + 1 + 1]? = some (.cells #[.int .u64 0, .int .u64 0] 24) := (hb.block _ (by simp only [World.size_alloc]; omega)).trans (by
    have := (MapKept.heap_alloc ((w.alloc (.cells #[.int .u64 a0_0, .int .u64 a0_1] 24)).alloc (.cells #[.int .u64 a1_0, .int .u64 a1_1] 24)) (.cells #[.int .u64 0, .int .u64 0] 24)).1
    rw [World.size_alloc, World.size_alloc] at this
    exact this)
  have v0 : w1.cell? ⟨w.heap.size + 1 + 1, 0, none⟩ = some (.int .u64 0) := by rw [blk_cell g2]; rfl
  have v1 : w1.cell? ⟨w.heap.size + 1 + 1, 1, none⟩ = some (.int .u64 0) := by rw [blk_cell g2]; rfl
  have z0 : w1.frozen? ⟨w.heap.size + 1 + 1, 0, none⟩ = false := blk_frozen g2 0
  have z1 : w1.frozen? ⟨w.heap.size + 1 + 1, 1, none⟩ = false := blk_frozen g2 1
  have B : Below w.heap.size w w1 := ((((Below.refl w.heap.size w).alloc (Nat.le_refl _) _).alloc (by simp) _).alloc (by simp; omega) _).trans (hb.mono (by simp only [World.size_alloc]; omega))
  have HB := Lib.hid B
  clear hb g2 HK B
  go_wp2
  refine bodyPost_ret (v := .tuple #[.agg #[.int .u64 r1, .int .u64 r2], .bool r3]) (by simp [results, Try.results62, go_sem, v0, v1]) rfl ⟨rfl, (HB.out.setCell (p := ⟨w.heap.size + 1 + 1, 0, none⟩) (by simp; omega) _).setCell (p := ⟨w.heap.size + 1 + 1, 1, none⟩) (by simp; omega) _⟩

/-! ### laws_FnWideAdd: function 16 -/
def laws_FnWideAdd.f (k : Nat) (a0_0 : Int) (a0_1 : Int) (a1_0 : Int) (a1_1 : Int) : Option (Bool) := (laws_wideWhole.f a0_0 a0_1).bind fun t489 => ((laws_wideWhole.f a1_0 a1_1).bind fun t492 => ((spec_Plus.f k t489 t492).bind fun t495 => ((impl_WideAdd.f a0_0 a0_1 a1_0 a1_1).bind fun bt498 => ((spec_Fits.f k t495).bind fun t502 => (if (bt498.2.2 == t502) = true then (if bt498.2.2 = true then ((laws_wideIs.f k bt498.1 bt498.2.1 t495).bind fun t503 => (some t503)) else (some true)) else (some false))))))
theorem laws_FnWideAdd.mono : ∀ a0 a1 a2 a3 k, LeO (laws_FnWideAdd.f k a0 a1 a2 a3) (laws_FnWideAdd.f (k + 1) a0 a1 a2 a3) := by
  intro a0 a1 a2 a3 k
  unfold laws_FnWideAdd.f
  repeat' first
      | (with_reducible exact laws_wideIs.mono _ _ _ _)
      | (with_reducible exact spec_Fits.mono _ _)
      | (with_reducible exact spec_Plus.mono _ _ _)
      | (with_reducible exact LeO.refl _)
      | (with_reducible exact LeO.none _)
      | (with_reducible refine LeO.ite ?_ ?_)
      | (with_reducible refine LeO.bind ?_ (fun _ => ?_))
      | exact laws_wideIs.mono _ _ _ _
      | exact spec_Fits.mono _ _
      | exact spec_Plus.mono _ _ _
      | exact LeO.none _
      | refine LeO.ite ?_ ?_
      | refine LeO.bind ?_ (fun _ => ?_)
set_option maxHeartbeats 8000000 in
set_option maxRecDepth 100000 in
theorem laws_FnWideAdd.calls (k : Nat) (a0_0 : Int) (a0_1 : Int) (a1_0 : Int) (a1_1 : Int) (r : Bool) (w : World) (h : laws_FnWideAdd.f k a0_0 a0_1 a1_0 a1_1 = some r) :
    Calls Try.prog 16 #[.agg #[.int .u64 a0_0, .int .u64 a0_1], .agg #[.int .u64 a1_0, .int .u64 a1_1]] w fun e w' => e = .returned (.bool r) ∧ Below w.heap.size w w' := by
  have hu24 := Try.underlying24
  have HB := Aside0.mk (Below.refl w.heap.size w)
  have H : ((laws_wideWhole.f a0_0 a0_1).bind fun t489 => ((laws_wideWhole.f a1_0 a1_1).bind fun t492 => ((spec_Plus.f k t489 t492).bind fun t495 => ((impl_WideAdd.f a0_0 a0_1 a1_0 a1_1).bind fun bt498 => ((spec_Fits.f k t495).bind fun t502 => (if (bt498.2.2 == t502) = true then (if bt498.2.2 = true then ((laws_wideIs.f k bt498.1 bt498.2.1 t495).bind fun t503 => (some t503)) else (some true)) else (some false))))))) = some r := h
  clear h
  replace H := Option.bind_eq_some_iff.mp H
  obtain ⟨t489, A30, H⟩ := H
  replace H : ((laws_wideWhole.f a1_0 a1_1).bind fun t492 => ((spec_Plus.f k t489 t492).bind fun t495 => ((impl_WideAdd.f a0_0 a0_1 a1_0 a1_1).bind fun bt498 => ((spec_Fits.f k t495).bind fun t502 => (if (bt498.2.2 == t502) = true then (if bt498.2.2 = true then ((laws_wideIs.f k bt498.1 bt498.2.1 t495).bind fun t503 => (some t503)) else (some true)) else (some false)))))) = some r := H
  have A3 := Aside0.mk A30
  clear A30
  replace H := Option.bind_eq_some_iff.mp H
  obtain ⟨t492, A40, H⟩ := H
  replace H : ((spec_Plus.f k t489 t492).bind fun t495 => ((impl_WideAdd.f a0_0 a0_1 a1_0 a1_1).bind fun bt498 => ((spec_Fits.f k t495).bind fun t502 => (if (bt498.2.2 == t502) = true then (if bt498.2.2 = true then ((laws_wideIs.f k bt498.1 bt498.2.1 t495).bind fun t503 => (some t503)) else (some true)) else (some false))))) = some r := H
  have A4 := Aside0.mk A40
  clear A40
  replace H := Option.bind_eq_some_iff.mp H
  obtain ⟨t495, A50, H⟩ := H
  replace H : ((impl_WideAdd.f a0_0 a0_1 a1_0 a1_1).bind fun bt498 => ((spec_Fits.f k t495).bind fun t502 => (if (bt498.2.2 == t502) = true then (if bt498.2.2 = true then ((laws_wideIs.f k bt498.1 bt498.2.1 t495).bind fun t503 => (some t503)) else (some true)) else (some false)))) = some r := H
  have A5 := Aside0.mk A50
  clear A50
  replace H := Option.bind_eq_some_iff.mp H
  obtain ⟨⟨t498, t499, t500⟩, A60, H⟩ := H
  replace H : ((spec_Fits.f k t495).bind fun t502 => (if (t500 == t502) = true then (if t500 = true then ((laws_wideIs.f k t498 t499 t495).bind fun t503 => (some t503)) else (some true)) else (some false))) = some r := H
  have A6 := Aside0.mk A60
  clear A60
  replace H := Option.bind_eq_some_iff.mp H
  obtain ⟨t502, A70, H⟩ := H
  replace H : (if (t500 == t502) = true then (if t500 = true then ((laws_wideIs.f k t498 t499 t495).bind fun t503 => (some t503)) else (some true)) else (some false)) = some r := H
  have A7 := Aside0.mk A70
  clear A70
  by_cases c8 : (t500 == t502) = true
  · rw [if_pos c8] at H
    have c8b0 : (t500 == t502) = true := c8
    (try (have c8b1 : decide (t500 = t502) = true := by simpa using c8))
    (try (have c8b2 : (t500 == t502) = true := by simpa using c8))
    clear c8
    by_cases c9 : t500 = true
    · subst c9
      have H1 : ((laws_wideIs.f k t498 t499 t495).bind fun t503 => (some t503)) = some r := by rw [if_pos rfl] at H; exact H
      clear H
      have H := H1
      clear H1
      replace H := Option.bind_eq_some_iff.mp H
      obtain ⟨t503, A100, H⟩ := H
      replace H : (some t503) = some r := H
      have A10 := Aside0.mk A100
      clear A100
      obtain rfl := Option.some.inj H
      go_enter Try.func16, Try.ntmps16
      try go_wp2_with (first | ((with_reducible refine gate_dst (N := 2) rfl ?_); refine box_event ?hg (N := 2) ?hd (cs := #[.int .u64 a0_0, .int .u64 a0_1]) (t := 24) ?hr ?_; (case hd => rfl); (case hg => rfl); (case hr => first | (go_simp; done) | (go_simp; rfl)); intro gb487 hg w11 hbox hb; have n0_ := Aside0.mk (below_step (by repeat (first | (with_reducible first | exact HB.out | apply below_alloc | apply pw_below_drewN | apply below_drew1) | exact HB.out)) hb); have n1_ := Aside0.mk (hbox); have n2_ := Aside0.mk ((by rw [hg]; exact (below_size (by repeat (first | (with_reducible first | exact HB.out | apply below_alloc | apply pw_below_drewN | apply below_drew1) | exact HB.out))) : w.heap.size ≤ gb487)); have n3_ := Aside0.mk ((by rw [hg]; exact (below_size (by repeat (first | (with_reducible first | exact HB.out | apply below_alloc | apply pw_below_drewN | apply below_drew1) | exact HB.out))) : w.heap.size ≤ gb487)); clear HB; have HB := n0_; have BK487 := n1_; have GW487 := n2_; have GE487 := n3_; clear n0_ n1_ n2_ n3_; clear hb hbox hg) | ((with_reducible refine gate_dst (N := 3) rfl ?_); refine box_event ?hg (N := 3) ?hd (cs := #[.int .u64 a1_0, .int .u64 a1_1]) (t := 24) ?hr ?_; (case hd => rfl); (case hg => rfl); (case hr => first | (go_simp; done) | (go_simp; rfl)); intro gb488 hg w12 hbox hb; have n0_ := Aside0.mk (blk_below (g := gb487) (o := .cells #[.int .u64 a0_0, .int .u64 a0_1] 24 (0, 0)) (by (with_reducible repeat (first | refine blk_drewN ?_ _ | refine blk_drew ?_ | refine blk_alloc ?_ _)); exact BK487.out) hb); have n1_ := Aside0.mk (below_step (by repeat (first | (with_reducible first | exact HB.out | apply below_alloc | apply pw_below_drewN | apply below_drew1 | refine below_set ?_ GE487.out) | exact HB.out)) hb); have n2_ := Aside0.mk (hbox); have n3_ := Aside0.mk ((by rw [hg]; exact (below_size (by repeat (first | (with_reducible first | exact HB.out | apply below_alloc | apply pw_below_drewN | apply below_drew1 | refine below_set ?_ GE487.out) | exact HB.out))) : w.heap.size ≤ gb488)); have n4_ := Aside0.mk ((by rw [hg]; exact (below_size (by repeat (first | (with_reducible first | exact HB.out | apply below_alloc | apply pw_below_drewN | apply below_drew1 | refine below_set ?_ GE487.out) | exact HB.out))) : w.heap.size ≤ gb488)); have n5_ := Aside0.mk ((by rw [hg]; exact Nat.ne_of_lt (blk_lt (g := gb487) (o := .cells #[.int .u64 a0_0, .int .u64 a0_1] 24 (0, 0)) (by (with_reducible repeat (first | refine blk_drewN ?_ _ | refine blk_drew ?_ | refine blk_alloc ?_ _)); exact BK487.out)) : gb487 ≠ gb488)); have n6_ := Aside0.mk ((by rw [hg]; exact Nat.ne_of_gt (blk_lt (g := gb487) (o := .cells #[.int .u64 a0_0, .int .u64 a0_1] 24 (0, 0)) (by (with_reducible repeat (first | refine blk_drewN ?_ _ | refine blk_drew ?_ | refine blk_alloc ?_ _)); exact BK487.out)) : gb488 ≠ gb487)); clear BK487; clear HB; have BK487 := n0_; have HB := n1_; have BK488 := n2_; have GW488 := n3_; have GE488 := n4_; have NB487_488 := n5_; have NB488_487 := n6_; clear n0_ n1_ n2_ n3_ n4_ n5_ n6_; clear hb hbox hg))
      have n0_ := Aside0.mk (blk_drew BK487.out)
      have n1_ := Aside0.mk (blk_drew BK488.out)
      have n2_ := Aside0.mk (below_drew1 HB.out)
      clear BK487
      clear BK488
      clear HB
      have BK487 := n0_
      have BK488 := n1_
      have HB := n2_
      clear n0_ n1_ n2_
      refine start_ (n := 6) (S := fun w' => w'.cell? ⟨gb487, 0, none⟩ = some (.int .u64 a0_0) ∧ w'.cell? ⟨gb487, 1, none⟩ = some (.int .u64 a0_1) ∧ w'.cell? ⟨gb488, 0, none⟩ = some (.int .u64 a1_0) ∧ w'.cell? ⟨gb488, 1, none⟩ = some (.int .u64 a1_1)) (ds := []) #[false, false, false, false, false, false] (by kernel_rfl) rfl rfl ⟨(blk_cell BK487.out 0).trans rfl, (blk_cell BK487.out 1).trans rfl, (blk_cell BK488.out 0).trans rfl, (blk_cell BK488.out 1).trans rfl⟩ (fun hHeld => ?_)
      generalize w12.drew = w13 at BK487 BK488 HB hHeld ⊢
      refine take_ (i := 0) (N := some 8) (v := ?_) (a' := ?_) #[true, false, false, false, false, false] rfl rfl (by kernel_rfl) (fun _ _ _ h => h) (Or.inl ⟨by rfl, ?_⟩) hHeld ?_ ?_
      rotate_left
      · rintro w' ⟨s0, s1, s2, s3⟩
        go_simp
        with_reducible rfl
      rotate_left
      · simp only [Act.put, List.setIfInBounds_toArray, List.set_cons_zero, List.set_cons_succ, i64_w, i32_w]
        rfl
      refine take_ (i := 2) (N := some 10) (v := ?_) (a' := ?_) #[true, false, true, false, false, false] rfl rfl (by kernel_rfl) (fun _ _ _ h => h) (Or.inl ⟨by rfl, ?_⟩) hHeld ?_ ?_
      rotate_left
      · rintro w' ⟨s0, s1, s2, s3⟩
        go_simp
        with_reducible rfl
      rotate_left
      · simp only [Act.put, List.setIfInBounds_toArray, List.set_cons_zero, List.set_cons_succ, i64_w, i32_w]
        rfl
      refine one_ (i := 1) (N := some 9) #[true, true, true, false, false, false] rfl rfl (by kernel_rfl) (by decide) (fun K hK => ?_)
      refine goes_ Try.func25 (by kernel_rfl) rfl #[.agg #[.int .u64 a0_0, .int .u64 a0_1]] (by rfl) rfl rfl (by (try simp only [List.map_toArray, List.map_cons, List.map_nil]); first | done | rfl | (simp only [List.length_drop, List.length_take]; rfl)) ?_
      with_reducible refine (laws_wideWhole.calls a0_0 a0_1 t489 _ A3.out).mono ?_
      rintro e w14 ⟨v490, rfl, ho0, hb⟩
      refine ⟨_, rfl, ?_⟩
      have n0_ := Aside0.mk (Kd.V_lower (Kd.V_mono (ok' := fun k_ => k_ ≠ gb487 ∧ k_ ≠ gb488) ho0 (fun k_ hk_ => ⟨(Kd.freshB (g := gb487) (o := .cells #[.int .u64 a0_0, .int .u64 a0_1] 24 (0, 0)) (by (with_reducible repeat (first | refine blk_drewN ?_ _ | refine blk_drew ?_ | refine blk_alloc ?_ _)); exact BK487.out) k_ hk_), (Kd.freshB (g := gb488) (o := .cells #[.int .u64 a1_0, .int .u64 a1_1] 24 (0, 0)) (by (with_reducible repeat (first | refine blk_drewN ?_ _ | refine blk_drew ?_ | refine blk_alloc ?_ _)); exact BK488.out) k_ hk_)⟩)) (below_size (by repeat (first | (with_reducible first | exact HB.out | apply below_alloc | apply pw_below_drewN | apply below_drew1 | refine below_set ?_ GE487.out | refine below_set ?_ GE488.out) | exact HB.out))))
      have n1_ := Aside0.mk (blk_below (g := gb487) (o := .cells #[.int .u64 a0_0, .int .u64 a0_1] 24 (0, 0)) (by (with_reducible repeat (first | refine blk_drewN ?_ _ | refine blk_drew ?_ | refine blk_alloc ?_ _)); exact BK487.out) hb)
      have n2_ := Aside0.mk (blk_below (g := gb488) (o := .cells #[.int .u64 a1_0, .int .u64 a1_1] 24 (0, 0)) (by (with_reducible repeat (first | refine blk_drewN ?_ _ | refine blk_drew ?_ | refine blk_alloc ?_ _)); exact BK488.out) hb)
      have n3_ := Aside0.mk (below_step (by repeat (first | (with_reducible first | exact HB.out | apply below_alloc | apply pw_below_drewN | apply below_drew1 | refine below_set ?_ GE487.out | refine below_set ?_ GE488.out) | exact HB.out)) hb)
      clear BK487
      clear BK488
      clear HB
      have HO491 := n0_
      have BK487 := n1_
      have BK488 := n2_
      have HB := n3_
      clear n0_ n1_ n2_ n3_
      (try clear hb)
      (try clear hb2)
      (try clear hk)
      (try clear hi)
      (try clear ho0)
      refine hK.out _ _ ⟨(blk_cell BK487.out 0).trans rfl, (blk_cell BK487.out 1).trans rfl, (blk_cell BK488.out 0).trans rfl, (blk_cell BK488.out 1).trans rfl⟩ (fun hHeld => ?_)
      clear hK K
      refine norm_ (a' := ?_) ?_ ?_
      rotate_left
      · show Act.put _ (some 9) _ = _
        simp only [Act.put, List.setIfInBounds_toArray, List.set_cons_zero, List.set_cons_succ, i64_w, i32_w]
        rfl
      refine one_ (i := 3) (N := some 11) #[true, true, true, true, false, false] rfl rfl (by kernel_rfl) (by decide) (fun K hK => ?_)
      refine goes_ Try.func25 (by kernel_rfl) rfl #[.agg #[.int .u64 a1_0, .int .u64 a1_1]] (by rfl) rfl rfl (by (try simp only [List.map_toArray, List.map_cons, List.map_nil]); first | done | rfl | (simp only [List.length_drop, List.length_take]; rfl)) ?_
      with_reducible refine (laws_wideWhole.calls a1_0 a1_1 t492 _ A4.out).mono ?_
      rintro e w15 ⟨v493, rfl, ho0, hb⟩
      refine ⟨_, rfl, ?_⟩
      have n0_ := Aside0.mk (Kd.V_below (by (with_reducible repeat (first | apply Kd.V_alloc | apply Kd.V_drewN | apply Kd.V_drew)); exact HO491.out) hb)
      have n1_ := Aside0.mk (Kd.V_lower (Kd.V_mono (ok' := fun k_ => k_ ≠ gb487 ∧ k_ ≠ gb488) ho0 (fun k_ hk_ => ⟨(Kd.freshB (g := gb487) (o := .cells #[.int .u64 a0_0, .int .u64 a0_1] 24 (0, 0)) (by (with_reducible repeat (first | refine blk_drewN ?_ _ | refine blk_drew ?_ | refine blk_alloc ?_ _)); exact BK487.out) k_ hk_), (Kd.freshB (g := gb488) (o := .cells #[.int .u64 a1_0, .int .u64 a1_1] 24 (0, 0)) (by (with_reducible repeat (first | refine blk_drewN ?_ _ | refine blk_drew ?_ | refine blk_alloc ?_ _)); exact BK488.out) k_ hk_)⟩)) (below_size (by repeat (first | (with_reducible first | exact HB.out | apply below_alloc | apply pw_below_drewN | apply below_drew1 | refine below_set ?_ GE487.out | refine below_set ?_ GE488.out) | exact HB.out))))
      have n2_ := Aside0.mk (blk_below (g := gb487) (o := .cells #[.int .u64 a0_0, .int .u64 a0_1] 24 (0, 0)) (by (with_reducible repeat (first | refine blk_drewN ?_ _ | refine blk_drew ?_ | refine blk_alloc ?_ _)); exact BK487.out) hb)
      have n3_ := Aside0.mk (blk_below (g := gb488) (o := .cells #[.int .u64 a1_0, .int .u64 a1_1] 24 (0, 0)) (by (with_reducible repeat (first | refine blk_drewN ?_ _ | refine blk_drew ?_ | refine blk_alloc ?_ _)); exact BK488.out) hb)
      have n4_ := Aside0.mk (below_step (by repeat (first | (with_reducible first | exact HB.out | apply below_alloc | apply pw_below_drewN | apply below_drew1 | refine below_set ?_ GE487.out | refine below_set ?_ GE488.out) | exact HB.out)) hb)
      clear HO491
      clear BK487
      clear BK488
      clear HB
      have HO491 := n0_
      have HO494 := n1_
      have BK487 := n2_
      have BK488 := n3_
      have HB := n4_
      clear n0_ n1_ n2_ n3_ n4_
      (try clear hb)
      (try clear hb2)
      (try clear hk)
      (try clear hi)
      (try clear ho0)
      obtain ⟨Ao16, co16, eo16⟩ := Kd.V_slice HO491.out
      (first | subst eo16 | (injection eo16 with f1_ f2_ f3_; have f4_ := f1_.symm; have f5_ := f3_.symm; clear f1_ f2_ f3_; subst f4_; subst f5_))
      obtain ⟨Ao17, co17, eo17⟩ := Kd.V_slice HO494.out
      (first | subst eo17 | (injection eo17 with f1_ f2_ f3_; have f4_ := f1_.symm; have f5_ := f3_.symm; clear f1_ f2_ f3_; subst f4_; subst f5_))
      refine hK.out _ _ ⟨(blk_cell BK487.out 0).trans rfl, (blk_cell BK487.out 1).trans rfl, (blk_cell BK488.out 0).trans rfl, (blk_cell BK488.out 1).trans rfl⟩ (fun hHeld => ?_)
      clear hK K
      refine norm_ (a' := ?_) ?_ ?_
      rotate_left
      · show Act.put _ (some 11) _ = _
        simp only [Act.put, List.setIfInBounds_toArray, List.set_cons_zero, List.set_cons_succ, i64_w, i32_w]
        rfl
      refine one_ (i := 4) (N := some 12) #[true, true, true, true, true, false] rfl rfl (by kernel_rfl) (by decide) (fun K hK => ?_)
      refine goes_ Try.func53 (by kernel_rfl) rfl #[.slice Ao16 t489.length co16, .slice Ao17 t492.length co17] (by rfl) rfl rfl (by (try simp only [List.map_toArray, List.map_cons, List.map_nil]); first | done | rfl | (simp only [List.length_drop, List.length_take]; rfl)) ?_
      with_reducible refine (spec_Plus.calls k _ _ t489 _ _ t492 t495 _ ?side1 ?side2 ?side3 ?side4 A5.out).mono ?_
      (case side1 => repeat (first | exact (Kd.V_reads' HO491.out).2.2 | (with_reducible refine Kd.C_alloc ?_ _) | (with_reducible refine Kd.C_drewN ?_ _) | (with_reducible refine Kd.C_drew ?_)))
      (case side2 => exact (Kd.V_reads' HO491.out).2.1)
      (case side3 => repeat (first | exact (Kd.V_reads' HO494.out).2.2 | (with_reducible refine Kd.C_alloc ?_ _) | (with_reducible refine Kd.C_drewN ?_ _) | (with_reducible refine Kd.C_drew ?_)))
      (case side4 => exact (Kd.V_reads' HO494.out).2.1)
      rintro e w18 ⟨v496, rfl, ho0, hb⟩
      refine ⟨_, rfl, ?_⟩
      have n0_ := Aside0.mk (Kd.V_below (by (with_reducible repeat (first | apply Kd.V_alloc | apply Kd.V_drewN | apply Kd.V_drew)); exact HO491.out) hb)
      have n1_ := Aside0.mk (Kd.V_below (by (with_reducible repeat (first | apply Kd.V_alloc | apply Kd.V_drewN | apply Kd.V_drew)); exact HO494.out) hb)
      have n2_ := Aside0.mk (Kd.V_lower (Kd.V_mono (ok' := fun k_ => k_ ≠ gb487 ∧ k_ ≠ gb488) ho0 (fun k_ hk_ => ⟨(Kd.freshB (g := gb487) (o := .cells #[.int .u64 a0_0, .int .u64 a0_1] 24 (0, 0)) (by (with_reducible repeat (first | refine blk_drewN ?_ _ | refine blk_drew ?_ | refine blk_alloc ?_ _)); exact BK487.out) k_ hk_), (Kd.freshB (g := gb488) (o := .cells #[.int .u64 a1_0, .int .u64 a1_1] 24 (0, 0)) (by (with_reducible repeat (first | refine blk_drewN ?_ _ | refine blk_drew ?_ | refine blk_alloc ?_ _)); exact BK488.out) k_ hk_)⟩)) (below_size (by repeat (first | (with_reducible first | exact HB.out | apply below_alloc | apply pw_below_drewN | apply below_drew1 | refine below_set ?_ GE487.out | refine below_set ?_ GE488.out) | exact HB.out))))
      have n3_ := Aside0.mk (blk_below (g := gb487) (o := .cells #[.int .u64 a0_0, .int .u64 a0_1] 24 (0, 0)) (by (with_reducible repeat (first | refine blk_drewN ?_ _ | refine blk_drew ?_ | refine blk_alloc ?_ _)); exact BK487.out) hb)
      have n4_ := Aside0.mk (blk_below (g := gb488) (o := .cells #[.int .u64 a1_0, .int .u64 a1_1] 24 (0, 0)) (by (with_reducible repeat (first | refine blk_drewN ?_ _ | refine blk_drew ?_ | refine blk_alloc ?_ _)); exact BK488.out) hb)
      have n5_ := Aside0.mk (below_step (by repeat (first | (with_reducible first | exact HB.out | apply below_alloc | apply pw_below_drewN | apply below_drew1 | refine below_set ?_ GE487.out | refine below_set ?_ GE488.out) | exact HB.out)) hb)
      clear HO491
      clear HO494
      clear BK487
      clear BK488
      clear HB
      have HO491 := n0_
      have HO494 := n1_
      have HO497 := n2_
      have BK487 := n3_
      have BK488 := n4_
      have HB := n5_
      clear n0_ n1_ n2_ n3_ n4_ n5_
      (try clear hb)
      (try clear hb2)
      (try clear hk)
      (try clear hi)
      (try clear ho0)
      refine hK.out _ _ ⟨(blk_cell BK487.out 0).trans rfl, (blk_cell BK487.out 1).trans rfl, (blk_cell BK488.out 0).trans rfl, (blk_cell BK488.out 1).trans rfl⟩ (fun hHeld => ?_)
      clear hK K
      refine norm_ (a' := ?_) ?_ ?_
      rotate_left
      · show Act.put _ (some 12) _ = _
        simp only [Act.put, List.setIfInBounds_toArray, List.set_cons_zero, List.set_cons_succ, i64_w, i32_w]
        rfl
      refine pure_ (i := 5) (N := some 5) (v := ?_) (a' := ?_) #[true, true, true, true, true, true] rfl rfl (by kernel_rfl) (fun _ _ _ h => h) (Or.inl ⟨by rfl, ?_⟩) ?_ ?_
      rotate_left
      · intro w'
        go_simp
        with_reducible rfl
      rotate_left
      · simp only [Act.put, List.setIfInBounds_toArray, List.set_cons_zero, List.set_cons_succ, i64_w, i32_w]
        rfl
      refine done_ (by kernel_rfl) ?_
      have hnb19 := NB487_488.out
      have hnc19 := NB488_487.out
      have hcz20_0 : w18.cell? ⟨gb487, 0, none⟩ = some (.int .u64 a0_0) := (blk_cell BK487.out 0).trans rfl
      have hcz20_1 : w18.cell? ⟨gb487, 1, none⟩ = some (.int .u64 a0_1) := (blk_cell BK487.out 1).trans rfl
      have hfz20_0 := blk_frozen BK487.out 0
      have hfz20_1 := blk_frozen BK487.out 1
      have hcz21_0 : w18.cell? ⟨gb488, 0, none⟩ = some (.int .u64 a1_0) := (blk_cell BK488.out 0).trans rfl
      have hcz21_1 : w18.cell? ⟨gb488, 1, none⟩ = some (.int .u64 a1_1) := (blk_cell BK488.out 1).trans rfl
      have hfz21_0 := blk_frozen BK488.out 0
      have hfz21_1 := blk_frozen BK488.out 1
      try go_wp2_with (first | ((with_reducible refine gate_callee (f := 62) rfl ?_); refine goesL_ (some 16) rfl rfl Try.func62 (by kernel_rfl) rfl #[.agg #[.int .u64 a0_0, .int .u64 a0_1], .agg #[.int .u64 a1_0, .int .u64 a1_1]] rfl (by (try simp only [List.map_toArray, List.map_cons, List.map_nil]); first | done | rfl | (simp only [List.length_drop, List.length_take]; rfl)) ?_; (with_reducible refine (impl_WideAdd.calls a0_0 a0_1 a1_0 a1_1 t498 t499 true _ A6.out).mono ?_); rintro e w22 ⟨rfl, hb⟩; refine ⟨_, rfl, ?_⟩; have n0_ := Aside0.mk (Kd.V_below (by (with_reducible repeat (first | apply Kd.V_alloc | apply Kd.V_drewN | apply Kd.V_drew)); exact HO491.out) hb); have n1_ := Aside0.mk (Kd.V_below (by (with_reducible repeat (first | apply Kd.V_alloc | apply Kd.V_drewN | apply Kd.V_drew)); exact HO494.out) hb); have n2_ := Aside0.mk (Kd.V_below (by (with_reducible repeat (first | apply Kd.V_alloc | apply Kd.V_drewN | apply Kd.V_drew)); exact HO497.out) hb); have n3_ := Aside0.mk (blk_below (g := gb487) (o := .cells #[.int .u64 a0_0, .int .u64 a0_1] 24 (0, 0)) (by (with_reducible repeat (first | refine blk_drewN ?_ _ | refine blk_drew ?_ | refine blk_alloc ?_ _)); exact BK487.out) hb); have n4_ := Aside0.mk (blk_below (g := gb488) (o := .cells #[.int .u64 a1_0, .int .u64 a1_1] 24 (0, 0)) (by (with_reducible repeat (first | refine blk_drewN ?_ _ | refine blk_drew ?_ | refine blk_alloc ?_ _)); exact BK488.out) hb); have n5_ := Aside0.mk (below_step (by repeat (first | (with_reducible first | exact HB.out | apply below_alloc | apply pw_below_drewN | apply below_drew1 | refine below_set ?_ GE487.out | refine below_set ?_ GE488.out) | exact HB.out)) hb); clear HO491; clear HO494; clear HO497; clear BK487; clear BK488; clear HB; have HO491 := n0_; have HO494 := n1_; have HO497 := n2_; have BK487 := n3_; have BK488 := n4_; have HB := n5_; clear n0_ n1_ n2_ n3_ n4_ n5_; (try clear hb); (try clear hb2); (try clear hk); (try clear hi)) | ((with_reducible refine gate_dst (N := 6) rfl ?_); refine box_event ?hg (N := 6) ?hd (cs := #[.int .u64 0, .int .u64 0]) (t := 24) ?hr ?_; (case hd => rfl); (case hg => rfl); (case hr => first | (go_simp; done) | (go_simp; rfl)); intro gb501 hg w23 hbox hb; have n0_ := Aside0.mk (Kd.V_below (Kd.V_elderB (by (with_reducible repeat (first | apply Kd.V_alloc | apply Kd.V_drewN | apply Kd.V_drew)); exact HO491.out) gb501 (Nat.le_of_eq hg.symm)) hb); have n1_ := Aside0.mk (Kd.V_below (Kd.V_elderB (by (with_reducible repeat (first | apply Kd.V_alloc | apply Kd.V_drewN | apply Kd.V_drew)); exact HO494.out) gb501 (Nat.le_of_eq hg.symm)) hb); have n2_ := Aside0.mk (Kd.V_below (Kd.V_elderB (by (with_reducible repeat (first | apply Kd.V_alloc | apply Kd.V_drewN | apply Kd.V_drew)); exact HO497.out) gb501 (Nat.le_of_eq hg.symm)) hb); have n3_ := Aside0.mk (blk_below (g := gb487) (o := .cells #[.int .u64 a0_0, .int .u64 a0_1] 24 (0, 0)) (by (with_reducible repeat (first | refine blk_drewN ?_ _ | refine blk_drew ?_ | refine blk_alloc ?_ _)); exact BK487.out) hb); have n4_ := Aside0.mk (blk_below (g := gb488) (o := .cells #[.int .u64 a1_0, .int .u64 a1_1] 24 (0, 0)) (by (with_reducible repeat (first | refine blk_drewN ?_ _ | refine blk_drew ?_ | refine blk_alloc ?_ _)); exact BK488.out) hb); have n5_ := Aside0.mk (below_step (by repeat (first | (with_reducible first | exact HB.out | apply below_alloc | apply pw_below_drewN | apply below_drew1 | refine below_set ?_ GE487.out | refine below_set ?_ GE488.out) | exact HB.out)) hb); have n6_ := Aside0.mk (hbox); have n7_ := Aside0.mk ((by rw [hg]; exact (below_size (by repeat (first | (with_reducible first | exact HB.out | apply below_alloc | apply pw_below_drewN | apply below_drew1 | refine below_set ?_ GE487.out | refine below_set ?_ GE488.out) | exact HB.out))) : w.heap.size ≤ gb501)); have n8_ := Aside0.mk ((by rw [hg]; exact (below_size (by repeat (first | (with_reducible first | exact HB.out | apply below_alloc | apply pw_below_drewN | apply below_drew1 | refine below_set ?_ GE487.out | refine below_set ?_ GE488.out) | exact HB.out))) : w.heap.size ≤ gb501)); have n9_ := Aside0.mk ((by rw [hg]; exact Nat.ne_of_lt (blk_lt (g := gb487) (o := .cells #[.int .u64 a0_0, .int .u64 a0_1] 24 (0, 0)) (by (with_reducible repeat (first | refine blk_drewN ?_ _ | refine blk_drew ?_ | refine blk_alloc ?_ _)); exact BK487.out)) : gb487 ≠ gb501)); have n10_ := Aside0.mk ((by rw [hg]; exact Nat.ne_of_gt (blk_lt (g := gb487) (o := .cells #[.int .u64 a0_0, .int .u64 a0_1] 24 (0, 0)) (by (with_reducible repeat (first | refine blk_drewN ?_ _ | refine blk_drew ?_ | refine blk_alloc ?_ _)); exact BK487.out)) : gb501 ≠ gb487)); have n11_ := Aside0.mk ((by rw [hg]; exact Nat.ne_of_lt (blk_lt (g := gb488) (o := .cells #[.int .u64 a1_0, .int .u64 a1_1] 24 (0, 0)) (by (with_reducible repeat (first | refine blk_drewN ?_ _ | refine blk_drew ?_ | refine blk_alloc ?_ _)); exact BK488.out)) : gb488 ≠ gb501)); have n12_ := Aside0.mk ((by rw [hg]; exact Nat.ne_of_gt (blk_lt (g := gb488) (o := .cells #[.int .u64 a1_0, .int .u64 a1_1] 24 (0, 0)) (by (with_reducible repeat (first | refine blk_drewN ?_ _ | refine blk_drew ?_ | refine blk_alloc ?_ _)); exact BK488.out)) : gb501 ≠ gb488)); clear HO491; clear HO494; clear HO497; clear BK487; clear BK488; clear HB; have HO491 := n0_; have HO494 := n1_; have HO497 := n2_; have BK487 := n3_; have BK488 := n4_; have HB := n5_; have BK501 := n6_; have GW501 := n7_; have GE501 := n8_; have NB487_501 := n9_; have NB501_487 := n10_; have NB488_501 := n11_; have NB501_488 := n12_; clear n0_ n1_ n2_ n3_ n4_ n5_ n6_ n7_ n8_ n9_ n10_ n11_ n12_; clear hb hbox hg; have hnb24 := NB501_487.out; have hnc24 := NB487_501.out; have hnb25 := NB501_488.out; have hnc25 := NB488_501.out; have hcz26_0 : w23.cell? ⟨gb501, 0, none⟩ = some (.int .u64 0) := (blk_cell BK501.out 0).trans rfl; have hcz26_1 : w23.cell? ⟨gb501, 1, none⟩ = some (.int .u64 0) := (blk_cell BK501.out 1).trans rfl; have hfz26_0 := blk_frozen BK501.out 0; have hfz26_1 := blk_frozen BK501.out 1; obtain ⟨Ao27, co27, eo27⟩ := Kd.V_slice HO497.out; subst eo27) | ((with_reducible refine gate_callee (f := 63) rfl ?_); refine goesL_ (some 21) rfl rfl Try.func63 (by kernel_rfl) rfl #[.slice Ao27 t495.length co27] rfl (by (try simp only [List.map_toArray, List.map_cons, List.map_nil]); first | done | rfl | (simp only [List.length_drop, List.length_take]; rfl)) ?_; (with_reducible refine (spec_Fits.calls k _ _ t495 t502 _ ?side1 ?side2 A7.out).mono ?_); (case side1 => refine (Kd.V_reads' (e := 3) (base := w.heap.size) (ok := fun k_ => ((k_ ≠ gb487 ∧ k_ ≠ gb488) ∧ k_ ≠ gb501)) (n := t495.length) (c := co27) ?_).2.2; exact (by (with_reducible repeat (first | apply Kd.V_alloc | apply Kd.V_drewN | apply Kd.V_drew)); exact (Kd.V_mono (Kd.V_far (p := ⟨gb501, 1, none⟩) (Kd.V_far (p := ⟨gb501, 0, none⟩) (Kd.V_mono HO497.out (fun k_ hk => (⟨hk, hk.2⟩ : _ ∧ k_ ≠ gb501))) (fun _ hk => hk.2) (.int .u64 t498)) (fun _ hk => hk.2) (.int .u64 t499)) (fun _ h_ => h_.1)))); (case side2 => exact (Kd.V_reads' HO497.out).2.1); rintro e w' ⟨rfl, ⟨nd, rfl⟩⟩; refine ⟨_, rfl, ?_⟩) | (go_at_call 27; (with_reducible refine (laws_wideIs.calls k t498 t499 _ _ t495 t503 _ ?side1 ?side2 A10.out).mono ?_); (case side1 => refine (Kd.V_reads' (e := 3) (base := w.heap.size) (ok := fun k_ => ((k_ ≠ gb487 ∧ k_ ≠ gb488) ∧ k_ ≠ gb501)) (n := t495.length) (c := co27) ?_).2.2; exact (by (with_reducible repeat (first | apply Kd.V_alloc | apply Kd.V_drewN | apply Kd.V_drew)); exact (Kd.V_mono (Kd.V_far (p := ⟨gb501, 1, none⟩) (Kd.V_far (p := ⟨gb501, 0, none⟩) (Kd.V_mono HO497.out (fun k_ hk => (⟨hk, hk.2⟩ : _ ∧ k_ ≠ gb501))) (fun _ hk => hk.2) (.int .u64 t498)) (fun _ hk => hk.2) (.int .u64 t499)) (fun _ h_ => h_.1)))); (case side2 => exact (Kd.V_reads' HO497.out).2.1); rintro e w28 ⟨rfl, hb⟩; have n0_ := Aside0.mk (Kd.V_below (by (with_reducible repeat (first | apply Kd.V_alloc | apply Kd.V_drewN | apply Kd.V_drew)); exact (Kd.V_mono (Kd.V_far (p := ⟨gb501, 1, none⟩) (Kd.V_far (p := ⟨gb501, 0, none⟩) (Kd.V_mono HO491.out (fun k_ hk => (⟨hk, hk.2⟩ : _ ∧ k_ ≠ gb501))) (fun _ hk => hk.2) (.int .u64 t498)) (fun _ hk => hk.2) (.int .u64 t499)) (fun _ h_ => h_.1))) hb); have n1_ := Aside0.mk (Kd.V_below (by (with_reducible repeat (first | apply Kd.V_alloc | apply Kd.V_drewN | apply Kd.V_drew)); exact (Kd.V_mono (Kd.V_far (p := ⟨gb501, 1, none⟩) (Kd.V_far (p := ⟨gb501, 0, none⟩) (Kd.V_mono HO494.out (fun k_ hk => (⟨hk, hk.2⟩ : _ ∧ k_ ≠ gb501))) (fun _ hk => hk.2) (.int .u64 t498)) (fun _ hk => hk.2) (.int .u64 t499)) (fun _ h_ => h_.1))) hb); have n2_ := Aside0.mk (Kd.V_below (by (with_reducible repeat (first | apply Kd.V_alloc | apply Kd.V_drewN | apply Kd.V_drew)); exact (Kd.V_mono (Kd.V_far (p := ⟨gb501, 1, none⟩) (Kd.V_far (p := ⟨gb501, 0, none⟩) (Kd.V_mono HO497.out (fun k_ hk => (⟨hk, hk.2⟩ : _ ∧ k_ ≠ gb501))) (fun _ hk => hk.2) (.int .u64 t498)) (fun _ hk => hk.2) (.int .u64 t499)) (fun _ h_ => h_.1))) hb); have n3_ := Aside0.mk (blk_below (g := gb487) (o := .cells #[.int .u64 a0_0, .int .u64 a0_1] 24 (0, 0)) (by (with_reducible repeat (first | refine blk_drewN ?_ _ | refine blk_drew ?_ | refine blk_alloc ?_ _)); refine blk_far ?_ NB487_501.out _; (with_reducible repeat (first | refine blk_drewN ?_ _ | refine blk_drew ?_ | refine blk_alloc ?_ _)); refine blk_far ?_ NB487_501.out _; (with_reducible repeat (first | refine blk_drewN ?_ _ | refine blk_drew ?_ | refine blk_alloc ?_ _)); exact BK487.out) hb); have n4_ := Aside0.mk (blk_below (g := gb488) (o := .cells #[.int .u64 a1_0, .int .u64 a1_1] 24 (0, 0)) (by (with_reducible repeat (first | refine blk_drewN ?_ _ | refine blk_drew ?_ | refine blk_alloc ?_ _)); refine blk_far ?_ NB488_501.out _; (with_reducible repeat (first | refine blk_drewN ?_ _ | refine blk_drew ?_ | refine blk_alloc ?_ _)); refine blk_far ?_ NB488_501.out _; (with_reducible repeat (first | refine blk_drewN ?_ _ | refine blk_drew ?_ | refine blk_alloc ?_ _)); exact BK488.out) hb); have n5_ := Aside0.mk (blk_below (g := gb501) (o := .cells #[.int .u64 t498, .int .u64 t499] 24 (0, 0)) (by (with_reducible repeat (first | refine blk_drewN ?_ _ | refine blk_drew ?_ | refine blk_alloc ?_ _)); refine blk_put (cs := #[.int .u64 t498, .int .u64 0]) ?_ 1 _ rfl; (with_reducible repeat (first | refine blk_drewN ?_ _ | refine blk_drew ?_ | refine blk_alloc ?_ _)); refine blk_put (cs := #[.int .u64 0, .int .u64 0]) ?_ 0 _ rfl; (with_reducible repeat (first | refine blk_drewN ?_ _ | refine blk_drew ?_ | refine blk_alloc ?_ _)); exact BK501.out) hb); have n6_ := Aside0.mk (below_step (by repeat (first | (with_reducible first | exact HB.out | apply below_alloc | apply pw_below_drewN | apply below_drew1 | refine below_set ?_ GE487.out | refine below_set ?_ GE488.out | refine below_set ?_ GE501.out) | exact HB.out)) hb); clear HO491; clear HO494; clear HO497; clear BK487; clear BK488; clear BK501; clear HB; have HO491 := n0_; have HO494 := n1_; have HO497 := n2_; have BK487 := n3_; have BK488 := n4_; have BK501 := n5_; have HB := n6_; clear n0_ n1_ n2_ n3_ n4_ n5_ n6_; (try clear hb); (try clear hb2); (try clear hk); (try clear hi)))
      go_ret
      exact ⟨by first | rfl | (simp [errW_none, errW_some] <;> rfl) | (simp [*, errW_none, errW_some] <;> rfl), by repeat (first | (with_reducible first | exact HB.out | apply below_alloc | apply pw_below_drewN | apply below_drew1 | refine below_set ?_ GE487.out | refine below_set ?_ GE488.out | refine below_set ?_ GE501.out) | exact HB.out)⟩
    · replace c9 := Bool.eq_false_iff.mpr c9
      subst c9
      have H1 : (some true) = some r := by rw [if_neg (show ¬ (false = true) by decide)] at H; exact H
      clear H
      have H := H1
      clear H1
      obtain rfl := Option.some.inj H
      go_enter Try.func16, Try.ntmps16
      try go_wp2_with (first | ((with_reducible refine gate_dst (N := 2) rfl ?_); refine box_event ?hg (N := 2) ?hd (cs := #[.int .u64 a0_0, .int .u64 a0_1]) (t := 24) ?hr ?_; (case hd => rfl); (case hg => rfl); (case hr => first | (go_simp; done) | (go_simp; rfl)); intro gb487 hg w29 hbox hb; have n0_ := Aside0.mk (below_step (by repeat (first | (with_reducible first | exact HB.out | apply below_alloc | apply pw_below_drewN | apply below_drew1) | exact HB.out)) hb); have n1_ := Aside0.mk (hbox); have n2_ := Aside0.mk ((by rw [hg]; exact (below_size (by repeat (first | (with_reducible first | exact HB.out | apply below_alloc | apply pw_below_drewN | apply below_drew1) | exact HB.out))) : w.heap.size ≤ gb487)); have n3_ := Aside0.mk ((by rw [hg]; exact (below_size (by repeat (first | (with_reducible first | exact HB.out | apply below_alloc | apply pw_below_drewN | apply below_drew1) | exact HB.out))) : w.heap.size ≤ gb487)); clear HB; have HB := n0_; have BK487 := n1_; have GW487 := n2_; have GE487 := n3_; clear n0_ n1_ n2_ n3_; clear hb hbox hg) | ((with_reducible refine gate_dst (N := 3) rfl ?_); refine box_event ?hg (N := 3) ?hd (cs := #[.int .u64 a1_0, .int .u64 a1_1]) (t := 24) ?hr ?_; (case hd => rfl); (case hg => rfl); (case hr => first | (go_simp; done) | (go_simp; rfl)); intro gb488 hg w30 hbox hb; have n0_ := Aside0.mk (blk_below (g := gb487) (o := .cells #[.int .u64 a0_0, .int .u64 a0_1] 24 (0, 0)) (by (with_reducible repeat (first | refine blk_drewN ?_ _ | refine blk_drew ?_ | refine blk_alloc ?_ _)); exact BK487.out) hb); have n1_ := Aside0.mk (below_step (by repeat (first | (with_reducible first | exact HB.out | apply below_alloc | apply pw_below_drewN | apply below_drew1 | refine below_set ?_ GE487.out) | exact HB.out)) hb); have n2_ := Aside0.mk (hbox); have n3_ := Aside0.mk ((by rw [hg]; exact (below_size (by repeat (first | (with_reducible first | exact HB.out | apply below_alloc | apply pw_below_drewN | apply below_drew1 | refine below_set ?_ GE487.out) | exact HB.out))) : w.heap.size ≤ gb488)); have n4_ := Aside0.mk ((by rw [hg]; exact (below_size (by repeat (first | (with_reducible first | exact HB.out | apply below_alloc | apply pw_below_drewN | apply below_drew1 | refine below_set ?_ GE487.out) | exact HB.out))) : w.heap.size ≤ gb488)); have n5_ := Aside0.mk ((by rw [hg]; exact Nat.ne_of_lt (blk_lt (g := gb487) (o := .cells #[.int .u64 a0_0, .int .u64 a0_1] 24 (0, 0)) (by (with_reducible repeat (first | refine blk_drewN ?_ _ | refine blk_drew ?_ | refine blk_alloc ?_ _)); exact BK487.out)) : gb487 ≠ gb488)); have n6_ := Aside0.mk ((by rw [hg]; exact Nat.ne_of_gt (blk_lt (g := gb487) (o := .cells #[.int .u64 a0_0, .int .u64 a0_1] 24 (0, 0)) (by (with_reducible repeat (first | refine blk_drewN ?_ _ | refine blk_drew ?_ | refine blk_alloc ?_ _)); exact BK487.out)) : gb488 ≠ gb487)); clear BK487; clear HB; have BK487 := n0_; have HB := n1_; have BK488 := n2_; have GW488 := n3_; have GE488 := n4_; have NB487_488 := n5_; have NB488_487 := n6_; clear n0_ n1_ n2_ n3_ n4_ n5_ n6_; clear hb hbox hg))
      have n0_ := Aside0.mk (blk_drew BK487.out)
      have n1_ := Aside0.mk (blk_drew BK488.out)
      have n2_ := Aside0.mk (below_drew1 HB.out)
      clear BK487
      clear BK488
      clear HB
      have BK487 := n0_
      have BK488 := n1_
      have HB := n2_
      clear n0_ n1_ n2_
      refine start_ (n := 6) (S := fun w' => w'.cell? ⟨gb487, 0, none⟩ = some (.int .u64 a0_0) ∧ w'.cell? ⟨gb487, 1, none⟩ = some (.int .u64 a0_1) ∧ w'.cell? ⟨gb488, 0, none⟩ = some (.int .u64 a1_0) ∧ w'.cell? ⟨gb488, 1, none⟩ = some (.int .u64 a1_1)) (ds := []) #[false, false, false, false, false, false] (by kernel_rfl) rfl rfl ⟨(blk_cell BK487.out 0).trans rfl, (blk_cell BK487.out 1).trans rfl, (blk_cell BK488.out 0).trans rfl, (blk_cell BK488.out 1).trans rfl⟩ (fun hHeld => ?_)
      generalize w30.drew = w31 at BK487 BK488 HB hHeld ⊢
      refine take_ (i := 0) (N := some 8) (v := ?_) (a' := ?_) #[true, false, false, false, false, false] rfl rfl (by kernel_rfl) (fun _ _ _ h => h) (Or.inl ⟨by rfl, ?_⟩) hHeld ?_ ?_
      rotate_left
      · rintro w' ⟨s0, s1, s2, s3⟩
        go_simp
        with_reducible rfl
      rotate_left
      · simp only [Act.put, List.setIfInBounds_toArray, List.set_cons_zero, List.set_cons_succ, i64_w, i32_w]
        rfl
      refine take_ (i := 2) (N := some 10) (v := ?_) (a' := ?_) #[true, false, true, false, false, false] rfl rfl (by kernel_rfl) (fun _ _ _ h => h) (Or.inl ⟨by rfl, ?_⟩) hHeld ?_ ?_
      rotate_left
      · rintro w' ⟨s0, s1, s2, s3⟩
        go_simp
        with_reducible rfl
      rotate_left
      · simp only [Act.put, List.setIfInBounds_toArray, List.set_cons_zero, List.set_cons_succ, i64_w, i32_w]
        rfl
      refine one_ (i := 1) (N := some 9) #[true, true, true, false, false, false] rfl rfl (by kernel_rfl) (by decide) (fun K hK => ?_)
      refine goes_ Try.func25 (by kernel_rfl) rfl #[.agg #[.int .u64 a0_0, .int .u64 a0_1]] (by rfl) rfl rfl (by (try simp only [List.map_toArray, List.map_cons, List.map_nil]); first | done | rfl | (simp only [List.length_drop, List.length_take]; rfl)) ?_
      with_reducible refine (laws_wideWhole.calls a0_0 a0_1 t489 _ A3.out).mono ?_
      rintro e w32 ⟨v490, rfl, ho0, hb⟩
      refine ⟨_, rfl, ?_⟩
      have n0_ := Aside0.mk (Kd.V_lower (Kd.V_mono (ok' := fun k_ => k_ ≠ gb487 ∧ k_ ≠ gb488) ho0 (fun k_ hk_ => ⟨(Kd.freshB (g := gb487) (o := .cells #[.int .u64 a0_0, .int .u64 a0_1] 24 (0, 0)) (by (with_reducible repeat (first | refine blk_drewN ?_ _ | refine blk_drew ?_ | refine blk_alloc ?_ _)); exact BK487.out) k_ hk_), (Kd.freshB (g := gb488) (o := .cells #[.int .u64 a1_0, .int .u64 a1_1] 24 (0, 0)) (by (with_reducible repeat (first | refine blk_drewN ?_ _ | refine blk_drew ?_ | refine blk_alloc ?_ _)); exact BK488.out) k_ hk_)⟩)) (below_size (by repeat (first | (with_reducible first | exact HB.out | apply below_alloc | apply pw_below_drewN | apply below_drew1 | refine below_set ?_ GE487.out | refine below_set ?_ GE488.out) | exact HB.out))))
      have n1_ := Aside0.mk (blk_below (g := gb487) (o := .cells #[.int .u64 a0_0, .int .u64 a0_1] 24 (0, 0)) (by (with_reducible repeat (first | refine blk_drewN ?_ _ | refine blk_drew ?_ | refine blk_alloc ?_ _)); exact BK487.out) hb)
      have n2_ := Aside0.mk (blk_below (g := gb488) (o := .cells #[.int .u64 a1_0, .int .u64 a1_1] 24 (0, 0)) (by (with_reducible repeat (first | refine blk_drewN ?_ _ | refine blk_drew ?_ | refine blk_alloc ?_ _)); exact BK488.out) hb)
      have n3_ := Aside0.mk (below_step (by repeat (first | (with_reducible first | exact HB.out | apply below_alloc | apply pw_below_drewN | apply below_drew1 | refine below_set ?_ GE487.out | refine below_set ?_ GE488.out) | exact HB.out)) hb)
      clear BK487
      clear BK488
      clear HB
      have HO491 := n0_
      have BK487 := n1_
      have BK488 := n2_
      have HB := n3_
      clear n0_ n1_ n2_ n3_
      (try clear hb)
      (try clear hb2)
      (try clear hk)
      (try clear hi)
      (try clear ho0)
      refine hK.out _ _ ⟨(blk_cell BK487.out 0).trans rfl, (blk_cell BK487.out 1).trans rfl, (blk_cell BK488.out 0).trans rfl, (blk_cell BK488.out 1).trans rfl⟩ (fun hHeld => ?_)
      clear hK K
      refine norm_ (a' := ?_) ?_ ?_
      rotate_left
      · show Act.put _ (some 9) _ = _
        simp only [Act.put, List.setIfInBounds_toArray, List.set_cons_zero, List.set_cons_succ, i64_w, i32_w]
        rfl
      refine one_ (i := 3) (N := some 11) #[true, true, true, true, false, false] rfl rfl (by kernel_rfl) (by decide) (fun K hK => ?_)
      refine goes_ Try.func25 (by kernel_rfl) rfl #[.agg #[.int .u64 a1_0, .int .u64 a1_1]] (by rfl) rfl rfl (by (try simp only [List.map_toArray, List.map_cons, List.map_nil]); first | done | rfl | (simp only [List.length_drop, List.length_take]; rfl)) ?_
      with_reducible refine (laws_wideWhole.calls a1_0 a1_1 t492 _ A4.out).mono ?_
      rintro e w33 ⟨v493, rfl, ho0, hb⟩
      refine ⟨_, rfl, ?_⟩
      have n0_ := Aside0.mk (Kd.V_below (by (with_reducible repeat (first | apply Kd.V_alloc | apply Kd.V_drewN | apply Kd.V_drew)); exact HO491.out) hb)
      have n1_ := Aside0.mk (Kd.V_lower (Kd.V_mono (ok' := fun k_ => k_ ≠ gb487 ∧ k_ ≠ gb488) ho0 (fun k_ hk_ => ⟨(Kd.freshB (g := gb487) (o := .cells #[.int .u64 a0_0, .int .u64 a0_1] 24 (0, 0)) (by (with_reducible repeat (first | refine blk_drewN ?_ _ | refine blk_drew ?_ | refine blk_alloc ?_ _)); exact BK487.out) k_ hk_), (Kd.freshB (g := gb488) (o := .cells #[.int .u64 a1_0, .int .u64 a1_1] 24 (0, 0)) (by (with_reducible repeat (first | refine blk_drewN ?_ _ | refine blk_drew ?_ | refine blk_alloc ?_ _)); exact BK488.out) k_ hk_)⟩)) (below_size (by repeat (first | (with_reducible first | exact HB.out | apply below_alloc | apply pw_below_drewN | apply below_drew1 | refine below_set ?_ GE487.out | refine below_set ?_ GE488.out) | exact HB.out))))
      have n2_ := Aside0.mk (blk_below (g := gb487) (o := .cells #[.int .u64 a0_0, .int .u64 a0_1] 24 (0, 0)) (by (with_reducible repeat (first | refine blk_drewN ?_ _ | refine blk_drew ?_ | refine blk_alloc ?_ _)); exact BK487.out) hb)
      have n3_ := Aside0.mk (blk_below (g := gb488) (o := .cells #[.int .u64 a1_0, .int .u64 a1_1] 24 (0, 0)) (by (with_reducible repeat (first | refine blk_drewN ?_ _ | refine blk_drew ?_ | refine blk_alloc ?_ _)); exact BK488.out) hb)
      have n4_ := Aside0.mk (below_step (by repeat (first | (with_reducible first | exact HB.out | apply below_alloc | apply pw_below_drewN | apply below_drew1 | refine below_set ?_ GE487.out | refine below_set ?_ GE488.out) | exact HB.out)) hb)
      clear HO491
      clear BK487
      clear BK488
      clear HB
      have HO491 := n0_
      have HO494 := n1_
      have BK487 := n2_
      have BK488 := n3_
      have HB := n4_
      clear n0_ n1_ n2_ n3_ n4_
      (try clear hb)
      (try clear hb2)
      (try clear hk)
      (try clear hi)
      (try clear ho0)
      obtain ⟨Ao34, co34, eo34⟩ := Kd.V_slice HO491.out
      (first | subst eo34 | (injection eo34 with f1_ f2_ f3_; have f4_ := f1_.symm; have f5_ := f3_.symm; clear f1_ f2_ f3_; subst f4_; subst f5_))
      obtain ⟨Ao35, co35, eo35⟩ := Kd.V_slice HO494.out
      (first | subst eo35 | (injection eo35 with f1_ f2_ f3_; have f4_ := f1_.symm; have f5_ := f3_.symm; clear f1_ f2_ f3_; subst f4_; subst f5_))
      refine hK.out _ _ ⟨(blk_cell BK487.out 0).trans rfl, (blk_cell BK487.out 1).trans rfl, (blk_cell BK488.out 0).trans rfl, (blk_cell BK488.out 1).trans rfl⟩ (fun hHeld => ?_)
      clear hK K
      refine norm_ (a' := ?_) ?_ ?_
      rotate_left
      · show Act.put _ (some 11) _ = _
        simp only [Act.put, List.setIfInBounds_toArray, List.set_cons_zero, List.set_cons_succ, i64_w, i32_w]
        rfl
      refine one_ (i := 4) (N := some 12) #[true, true, true, true, true, false] rfl rfl (by kernel_rfl) (by decide) (fun K hK => ?_)
      refine goes_ Try.func53 (by kernel_rfl) rfl #[.slice Ao34 t489.length co34, .slice Ao35 t492.length co35] (by rfl) rfl rfl (by (try simp only [List.map_toArray, List.map_cons, List.map_nil]); first | done | rfl | (simp only [List.length_drop, List.length_take]; rfl)) ?_
      with_reducible refine (spec_Plus.calls k _ _ t489 _ _ t492 t495 _ ?side1 ?side2 ?side3 ?side4 A5.out).mono ?_
      (case side1 => repeat (first | exact (Kd.V_reads' HO491.out).2.2 | (with_reducible refine Kd.C_alloc ?_ _) | (with_reducible refine Kd.C_drewN ?_ _) | (with_reducible refine Kd.C_drew ?_)))
      (case side2 => exact (Kd.V_reads' HO491.out).2.1)
      (case side3 => repeat (first | exact (Kd.V_reads' HO494.out).2.2 | (with_reducible refine Kd.C_alloc ?_ _) | (with_reducible refine Kd.C_drewN ?_ _) | (with_reducible refine Kd.C_drew ?_)))
      (case side4 => exact (Kd.V_reads' HO494.out).2.1)
      rintro e w36 ⟨v496, rfl, ho0, hb⟩
      refine ⟨_, rfl, ?_⟩
      have n0_ := Aside0.mk (Kd.V_below (by (with_reducible repeat (first | apply Kd.V_alloc | apply Kd.V_drewN | apply Kd.V_drew)); exact HO491.out) hb)
      have n1_ := Aside0.mk (Kd.V_below (by (with_reducible repeat (first | apply Kd.V_alloc | apply Kd.V_drewN | apply Kd.V_drew)); exact HO494.out) hb)
      have n2_ := Aside0.mk (Kd.V_lower (Kd.V_mono (ok' := fun k_ => k_ ≠ gb487 ∧ k_ ≠ gb488) ho0 (fun k_ hk_ => ⟨(Kd.freshB (g := gb487) (o := .cells #[.int .u64 a0_0, .int .u64 a0_1] 24 (0, 0)) (by (with_reducible repeat (first | refine blk_drewN ?_ _ | refine blk_drew ?_ | refine blk_alloc ?_ _)); exact BK487.out) k_ hk_), (Kd.freshB (g := gb488) (o := .cells #[.int .u64 a1_0, .int .u64 a1_1] 24 (0, 0)) (by (with_reducible repeat (first | refine blk_drewN ?_ _ | refine blk_drew ?_ | refine blk_alloc ?_ _)); exact BK488.out) k_ hk_)⟩)) (below_size (by repeat (first | (with_reducible first | exact HB.out | apply below_alloc | apply pw_below_drewN | apply below_drew1 | refine below_set ?_ GE487.out | refine below_set ?_ GE488.out) | exact HB.out))))
      have n3_ := Aside0.mk (blk_below (g := gb487) (o := .cells #[.int .u64 a0_0, .int .u64 a0_1] 24 (0, 0)) (by (with_reducible repeat (first | refine blk_drewN ?_ _ | refine blk_drew ?_ | refine blk_alloc ?_ _)); exact BK487.out) hb)
      have n4_ := Aside0.mk (blk_below (g := gb488) (o := .cells #[.int .u64 a1_0, .int .u64 a1_1] 24 (0, 0)) (by (with_reducible repeat (first | refine blk_drewN ?_ _ | refine blk_drew ?_ | refine blk_alloc ?_ _)); exact BK488.out) hb)
      have n5_ := Aside0.mk (below_step (by repeat (first | (with_reducible first | exact HB.out | apply below_alloc | apply pw_below_drewN | apply below_drew1 | refine below_set ?_ GE487.out | refine below_set ?_ GE488.out) | exact HB.out)) hb)
      clear HO491
      clear HO494
      clear BK487
      clear BK488
      clear HB
      have HO491 := n0_
      have HO494 := n1_
      have HO497 := n2_
      have BK487 := n3_
      have BK488 := n4_
      have HB := n5_
      clear n0_ n1_ n2_ n3_ n4_ n5_
      (try clear hb)
      (try clear hb2)
      (try clear hk)
      (try clear hi)
      (try clear ho0)
      refine hK.out _ _ ⟨(blk_cell BK487.out 0).trans rfl, (blk_cell BK487.out 1).trans rfl, (blk_cell BK488.out 0).trans rfl, (blk_cell BK488.out 1).trans rfl⟩ (fun hHeld => ?_)
      clear hK K
      refine norm_ (a' := ?_) ?_ ?_
      rotate_left
      · show Act.put _ (some 12) _ = _
        simp only [Act.put, List.setIfInBounds_toArray, List.set_cons_zero, List.set_cons_succ, i64_w, i32_w]
        rfl
      refine pure_ (i := 5) (N := some 5) (v := ?_) (a' := ?_) #[true, true, true, true, true, true] rfl rfl (by kernel_rfl) (fun _ _ _ h => h) (Or.inl ⟨by rfl, ?_⟩) ?_ ?_
      rotate_left
      · intro w'
        go_simp
        with_reducible rfl
      rotate_left
      · simp only [Act.put, List.setIfInBounds_toArray, List.set_cons_zero, List.set_cons_succ, i64_w, i32_w]
        rfl
      refine done_ (by kernel_rfl) ?_
      have hnb37 := NB487_488.out
      have hnc37 := NB488_487.out
      have hcz38_0 : w36.cell? ⟨gb487, 0, none⟩ = some (.int .u64 a0_0) := (blk_cell BK487.out 0).trans rfl
      have hcz38_1 : w36.cell? ⟨gb487, 1, none⟩ = some (.int .u64 a0_1) := (blk_cell BK487.out 1).trans rfl
      have hfz38_0 := blk_frozen BK487.out 0
      have hfz38_1 := blk_frozen BK487.out 1
      have hcz39_0 : w36.cell? ⟨gb488, 0, none⟩ = some (.int .u64 a1_0) := (blk_cell BK488.out 0).trans rfl
      have hcz39_1 : w36.cell? ⟨gb488, 1, none⟩ = some (.int .u64 a1_1) := (blk_cell BK488.out 1).trans rfl
      have hfz39_0 := blk_frozen BK488.out 0
      have hfz39_1 := blk_frozen BK488.out 1
      try go_wp2_with (first | ((with_reducible refine gate_callee (f := 62) rfl ?_); refine goesL_ (some 16) rfl rfl Try.func62 (by kernel_rfl) rfl #[.agg #[.int .u64 a0_0, .int .u64 a0_1], .agg #[.int .u64 a1_0, .int .u64 a1_1]] rfl (by (try simp only [List.map_toArray, List.map_cons, List.map_nil]); first | done | rfl | (simp only [List.length_drop, List.length_take]; rfl)) ?_; (with_reducible refine (impl_WideAdd.calls a0_0 a0_1 a1_0 a1_1 t498 t499 false _ A6.out).mono ?_); rintro e w40 ⟨rfl, hb⟩; refine ⟨_, rfl, ?_⟩; have n0_ := Aside0.mk (Kd.V_below (by (with_reducible repeat (first | apply Kd.V_alloc | apply Kd.V_drewN | apply Kd.V_drew)); exact HO491.out) hb); have n1_ := Aside0.mk (Kd.V_below (by (with_reducible repeat (first | apply Kd.V_alloc | apply Kd.V_drewN | apply Kd.V_drew)); exact HO494.out) hb); have n2_ := Aside0.mk (Kd.V_below (by (with_reducible repeat (first | apply Kd.V_alloc | apply Kd.V_drewN | apply Kd.V_drew)); exact HO497.out) hb); have n3_ := Aside0.mk (blk_below (g := gb487) (o := .cells #[.int .u64 a0_0, .int .u64 a0_1] 24 (0, 0)) (by (with_reducible repeat (first | refine blk_drewN ?_ _ | refine blk_drew ?_ | refine blk_alloc ?_ _)); exact BK487.out) hb); have n4_ := Aside0.mk (blk_below (g := gb488) (o := .cells #[.int .u64 a1_0, .int .u64 a1_1] 24 (0, 0)) (by (with_reducible repeat (first | refine blk_drewN ?_ _ | refine blk_drew ?_ | refine blk_alloc ?_ _)); exact BK488.out) hb); have n5_ := Aside0.mk (below_step (by repeat (first | (with_reducible first | exact HB.out | apply below_alloc | apply pw_below_drewN | apply below_drew1 | refine below_set ?_ GE487.out | refine below_set ?_ GE488.out) | exact HB.out)) hb); clear HO491; clear HO494; clear HO497; clear BK487; clear BK488; clear HB; have HO491 := n0_; have HO494 := n1_; have HO497 := n2_; have BK487 := n3_; have BK488 := n4_; have HB := n5_; clear n0_ n1_ n2_ n3_ n4_ n5_; (try clear hb); (try clear hb2); (try clear hk); (try clear hi)) | ((with_reducible refine gate_dst (N := 6) rfl ?_); refine box_event ?hg (N := 6) ?hd (cs := #[.int .u64 0, .int .u64 0]) (t := 24) ?hr ?_; (case hd => rfl); (case hg => rfl); (case hr => first | (go_simp; done) | (go_simp; rfl)); intro gb501 hg w41 hbox hb; have n0_ := Aside0.mk (Kd.V_below (Kd.V_elderB (by (with_reducible repeat (first | apply Kd.V_alloc | apply Kd.V_drewN | apply Kd.V_drew)); exact HO491.out) gb501 (Nat.le_of_eq hg.symm)) hb); have n1_ := Aside0.mk (Kd.V_below (Kd.V_elderB (by (with_reducible repeat (first | apply Kd.V_alloc | apply Kd.V_drewN | apply Kd.V_drew)); exact HO494.out) gb501 (Nat.le_of_eq hg.symm)) hb); have n2_ := Aside0.mk (Kd.V_below (Kd.V_elderB (by (with_reducible repeat (first | apply Kd.V_alloc | apply Kd.V_drewN | apply Kd.V_drew)); exact HO497.out) gb501 (Nat.le_of_eq hg.symm)) hb); have n3_ := Aside0.mk (blk_below (g := gb487) (o := .cells #[.int .u64 a0_0, .int .u64 a0_1] 24 (0, 0)) (by (with_reducible repeat (first | refine blk_drewN ?_ _ | refine blk_drew ?_ | refine blk_alloc ?_ _)); exact BK487.out) hb); have n4_ := Aside0.mk (blk_below (g := gb488) (o := .cells #[.int .u64 a1_0, .int .u64 a1_1] 24 (0, 0)) (by (with_reducible repeat (first | refine blk_drewN ?_ _ | refine blk_drew ?_ | refine blk_alloc ?_ _)); exact BK488.out) hb); have n5_ := Aside0.mk (below_step (by repeat (first | (with_reducible first | exact HB.out | apply below_alloc | apply pw_below_drewN | apply below_drew1 | refine below_set ?_ GE487.out | refine below_set ?_ GE488.out) | exact HB.out)) hb); have n6_ := Aside0.mk (hbox); have n7_ := Aside0.mk ((by rw [hg]; exact (below_size (by repeat (first | (with_reducible first | exact HB.out | apply below_alloc | apply pw_below_drewN | apply below_drew1 | refine below_set ?_ GE487.out | refine below_set ?_ GE488.out) | exact HB.out))) : w.heap.size ≤ gb501)); have n8_ := Aside0.mk ((by rw [hg]; exact (below_size (by repeat (first | (with_reducible first | exact HB.out | apply below_alloc | apply pw_below_drewN | apply below_drew1 | refine below_set ?_ GE487.out | refine below_set ?_ GE488.out) | exact HB.out))) : w.heap.size ≤ gb501)); have n9_ := Aside0.mk ((by rw [hg]; exact Nat.ne_of_lt (blk_lt (g := gb487) (o := .cells #[.int .u64 a0_0, .int .u64 a0_1] 24 (0, 0)) (by (with_reducible repeat (first | refine blk_drewN ?_ _ | refine blk_drew ?_ | refine blk_alloc ?_ _)); exact BK487.out)) : gb487 ≠ gb501)); have n10_ := Aside0.mk ((by rw [hg]; exact Nat.ne_of_gt (blk_lt (g := gb487) (o := .cells #[.int .u64 a0_0, .int .u64 a0_1] 24 (0, 0)) (by (with_reducible repeat (first | refine blk_drewN ?_ _ | refine blk_drew ?_ | refine blk_alloc ?_ _)); exact BK487.out)) : gb501 ≠ gb487)); have n11_ := Aside0.mk ((by rw [hg]; exact Nat.ne_of_lt (blk_lt (g := gb488) (o := .cells #[.int .u64 a1_0, .int .u64 a1_1] 24 (0, 0)) (by (with_reducible repeat (first | refine blk_drewN ?_ _ | refine blk_drew ?_ | refine blk_alloc ?_ _)); exact BK488.out)) : gb488 ≠ gb501)); have n12_ := Aside0.mk ((by rw [hg]; exact Nat.ne_of_gt (blk_lt (g := gb488) (o := .cells #[.int .u64 a1_0, .int .u64 a1_1] 24 (0, 0)) (by (with_reducible repeat (first | refine blk_drewN ?_ _ | refine blk_drew ?_ | refine blk_alloc ?_ _)); exact BK488.out)) : gb501 ≠ gb488)); clear HO491; clear HO494; clear HO497; clear BK487; clear BK488; clear HB; have HO491 := n0_; have HO494 := n1_; have HO497 := n2_; have BK487 := n3_; have BK488 := n4_; have HB := n5_; have BK501 := n6_; have GW501 := n7_; have GE501 := n8_; have NB487_501 := n9_; have NB501_487 := n10_; have NB488_501 := n11_; have NB501_488 := n12_; clear n0_ n1_ n2_ n3_ n4_ n5_ n6_ n7_ n8_ n9_ n10_ n11_ n12_; clear hb hbox hg; have hnb42 := NB501_487.out; have hnc42 := NB487_501.out; have hnb43 := NB501_488.out; have hnc43 := NB488_501.out; have hcz44_0 : w41.cell? ⟨gb501, 0, none⟩ = some (.int .u64 0) := (blk_cell BK501.out 0).trans rfl; have hcz44_1 : w41.cell? ⟨gb501, 1, none⟩ = some (.int .u64 0) := (blk_cell BK501.out 1).trans rfl; have hfz44_0 := blk_frozen BK501.out 0; have hfz44_1 := blk_frozen BK501.out 1; obtain ⟨Ao45, co45, eo45⟩ := Kd.V_slice HO497.out; subst eo45) | ((with_reducible refine gate_callee (f := 63) rfl ?_); refine goesL_ (some 21) rfl rfl Try.func63 (by kernel_rfl) rfl #[.slice Ao45 t495.length co45] rfl (by (try simp only [List.map_toArray, List.map_cons, List.map_nil]); first | done | rfl | (simp only [List.length_drop, List.length_take]; rfl)) ?_; (with_reducible refine (spec_Fits.calls k _ _ t495 t502 _ ?side1 ?side2 A7.out).mono ?_); (case side1 => refine (Kd.V_reads' (e := 3) (base := w.heap.size) (ok := fun k_ => ((k_ ≠ gb487 ∧ k_ ≠ gb488) ∧ k_ ≠ gb501)) (n := t495.length) (c := co45) ?_).2.2; exact (by (with_reducible repeat (first | apply Kd.V_alloc | apply Kd.V_drewN | apply Kd.V_drew)); exact (Kd.V_mono (Kd.V_far (p := ⟨gb501, 1, none⟩) (Kd.V_far (p := ⟨gb501, 0, none⟩) (Kd.V_mono HO497.out (fun k_ hk => (⟨hk, hk.2⟩ : _ ∧ k_ ≠ gb501))) (fun _ hk => hk.2) (.int .u64 t498)) (fun _ hk => hk.2) (.int .u64 t499)) (fun _ h_ => h_.1)))); (case side2 => exact (Kd.V_reads' HO497.out).2.1); rintro e w' ⟨rfl, ⟨nd, rfl⟩⟩; refine ⟨_, rfl, ?_⟩))
      go_ret
      exact ⟨by first | rfl | (simp [errW_none, errW_some] <;> rfl) | (simp [*, errW_none, errW_some] <;> rfl), by repeat (first | (with_reducible first | exact HB.out | apply below_alloc | apply pw_below_drewN | apply below_drew1 | refine below_set ?_ GE487.out | refine below_set ?_ GE488.out | refine below_set ?_ GE501.out) | exact HB.out)⟩
  · rw [if_neg c8] at H
    have c8b0 : (t500 == t502) = false := by simpa using c8
    (try (have c8b1 : decide (t500 = t502) = false := by simpa using c8))
    (try (have c8b2 : (t500 == t502) = false := by simpa using c8))
    (try (have c8b3 : ¬ (t500 = t502) := by simpa using c8))
    clear c8
    obtain rfl := Option.some.inj H
    go_enter Try.func16, Try.ntmps16
    try go_wp2_with (first | ((with_reducible refine gate_dst (N := 2) rfl ?_); refine box_event ?hg (N := 2) ?hd (cs := #[.int .u64 a0_0, .int .u64 a0_1]) (t := 24) ?hr ?_; (case hd => rfl); (case hg => rfl); (case hr => first | (go_simp; done) | (go_simp; rfl)); intro gb487 hg w46 hbox hb; have n0_ := Aside0.mk (below_step (by repeat (first | (with_reducible first | exact HB.out | apply below_alloc | apply pw_below_drewN | apply below_drew1) | exact HB.out)) hb); have n1_ := Aside0.mk (hbox); have n2_ := Aside0.mk ((by rw [hg]; exact (below_size (by repeat (first | (with_reducible first | exact HB.out | apply below_alloc | apply pw_below_drewN | apply below_drew1) | exact HB.out))) : w.heap.size ≤ gb487)); have n3_ := Aside0.mk ((by rw [hg]; exact (below_size (by repeat (first | (with_reducible first | exact HB.out | apply below_alloc | apply pw_below_drewN | apply below_drew1) | exact HB.out))) : w.heap.size ≤ gb487)); clear HB; have HB := n0_; have BK487 := n1_; have GW487 := n2_; have GE487 := n3_; clear n0_ n1_ n2_ n3_; clear hb hbox hg) | ((with_reducible refine gate_dst (N := 3) rfl ?_); refine box_event ?hg (N := 3) ?hd (cs := #[.int .u64 a1_0, .int .u64 a1_1]) (t := 24) ?hr ?_; (case hd => rfl); (case hg => rfl); (case hr => first | (go_simp; done) | (go_simp; rfl)); intro gb488 hg w47 hbox hb; have n0_ := Aside0.mk (blk_below (g := gb487) (o := .cells #[.int .u64 a0_0, .int .u64 a0_1] 24 (0, 0)) (by (with_reducible repeat (first | refine blk_drewN ?_ _ | refine blk_drew ?_ | refine blk_alloc ?_ _)); exact BK487.out) hb); have n1_ := Aside0.mk (below_step (by repeat (first | (with_reducible first | exact HB.out | apply below_alloc | apply pw_below_drewN | apply below_drew1 | refine below_set ?_ GE487.out) | exact HB.out)) hb); have n2_ := Aside0.mk (hbox); have n3_ := Aside0.mk ((by rw [hg]; exact (below_size (by repeat (first | (with_reducible first | exact HB.out | apply below_alloc | apply pw_below_drewN | apply below_drew1 | refine below_set ?_ GE487.out) | exact HB.out))) : w.heap.size ≤ gb488)); have n4_ := Aside0.mk ((by rw [hg]; exact (below_size (by repeat (first | (with_reducible first | exact HB.out | apply below_alloc | apply pw_below_drewN | apply below_drew1 | refine below_set ?_ GE487.out) | exact HB.out))) : w.heap.size ≤ gb488)); have n5_ := Aside0.mk ((by rw [hg]; exact Nat.ne_of_lt (blk_lt (g := gb487) (o := .cells #[.int .u64 a0_0, .int .u64 a0_1] 24 (0, 0)) (by (with_reducible repeat (first | refine blk_drewN ?_ _ | refine blk_drew ?_ | refine blk_alloc ?_ _)); exact BK487.out)) : gb487 ≠ gb488)); have n6_ := Aside0.mk ((by rw [hg]; exact Nat.ne_of_gt (blk_lt (g := gb487) (o := .cells #[.int .u64 a0_0, .int .u64 a0_1] 24 (0, 0)) (by (with_reducible repeat (first | refine blk_drewN ?_ _ | refine blk_drew ?_ | refine blk_alloc ?_ _)); exact BK487.out)) : gb488 ≠ gb487)); clear BK487; clear HB; have BK487 := n0_; have HB := n1_; have BK488 := n2_; have GW488 := n3_; have GE488 := n4_; have NB487_488 := n5_; have NB488_487 := n6_; clear n0_ n1_ n2_ n3_ n4_ n5_ n6_; clear hb hbox hg))
    have n0_ := Aside0.mk (blk_drew BK487.out)
    have n1_ := Aside0.mk (blk_drew BK488.out)
    have n2_ := Aside0.mk (below_drew1 HB.out)
    clear BK487
    clear BK488
    clear HB
    have BK487 := n0_
    have BK488 := n1_
    have HB := n2_
    clear n0_ n1_ n2_
    refine start_ (n := 6) (S := fun w' => w'.cell? ⟨gb487, 0, none⟩ = some (.int .u64 a0_0) ∧ w'.cell? ⟨gb487, 1, none⟩ = some (.int .u64 a0_1) ∧ w'.cell? ⟨gb488, 0, none⟩ = some (.int .u64 a1_0) ∧ w'.cell? ⟨gb488, 1, none⟩ = some (.int .u64 a1_1)) (ds := []) #[false, false, false, false, false, false] (by kernel_rfl) rfl rfl ⟨(blk_cell BK487.out 0).trans rfl, (blk_cell BK487.out 1).trans rfl, (blk_cell BK488.out 0).trans rfl, (blk_cell BK488.out 1).trans rfl⟩ (fun hHeld => ?_)
    generalize w47.drew = w48 at BK487 BK488 HB hHeld ⊢
    refine take_ (i := 0) (N := some 8) (v := ?_) (a' := ?_) #[true, false, false, false, false, false] rfl rfl (by kernel_rfl) (fun _ _ _ h => h) (Or.inl ⟨by rfl, ?_⟩) hHeld ?_ ?_
    rotate_left
    · rintro w' ⟨s0, s1, s2, s3⟩
      go_simp
      with_reducible rfl
    rotate_left
    · simp only [Act.put, List.setIfInBounds_toArray, List.set_cons_zero, List.set_cons_succ, i64_w, i32_w]
      rfl
    refine take_ (i := 2) (N := some 10) (v := ?_) (a' := ?_) #[true, false, true, false, false, false] rfl rfl (by kernel_rfl) (fun _ _ _ h => h) (Or.inl ⟨by rfl, ?_⟩) hHeld ?_ ?_
    rotate_left
    · rintro w' ⟨s0, s1, s2, s3⟩
      go_simp
      with_reducible rfl
    rotate_left
    · simp only [Act.put, List.setIfInBounds_toArray, List.set_cons_zero, List.set_cons_succ, i64_w, i32_w]
      rfl
    refine one_ (i := 1) (N := some 9) #[true, true, true, false, false, false] rfl rfl (by kernel_rfl) (by decide) (fun K hK => ?_)
    refine goes_ Try.func25 (by kernel_rfl) rfl #[.agg #[.int .u64 a0_0, .int .u64 a0_1]] (by rfl) rfl rfl (by (try simp only [List.map_toArray, List.map_cons, List.map_nil]); first | done | rfl | (simp only [List.length_drop, List.length_take]; rfl)) ?_
    with_reducible refine (laws_wideWhole.calls a0_0 a0_1 t489 _ A3.out).mono ?_
    rintro e w49 ⟨v490, rfl, ho0, hb⟩
    refine ⟨_, rfl, ?_⟩
    have n0_ := Aside0.mk (Kd.V_lower (Kd.V_mono (ok' := fun k_ => k_ ≠ gb487 ∧ k_ ≠ gb488) ho0 (fun k_ hk_ => ⟨(Kd.freshB (g := gb487) (o := .cells #[.int .u64 a0_0, .int .u64 a0_1] 24 (0, 0)) (by (with_reducible repeat (first | refine blk_drewN ?_ _ | refine blk_drew ?_ | refine blk_alloc ?_ _)); exact BK487.out) k_ hk_), (Kd.freshB (g := gb488) (o := .cells #[.int .u64 a1_0, .int .u64 a1_1] 24 (0, 0)) (by (with_reducible repeat (first | refine blk_drewN ?_ _ | refine blk_drew ?_ | refine blk_alloc ?_ _)); exact BK488.out) k_ hk_)⟩)) (below_size (by repeat (first | (with_reducible first | exact HB.out | apply below_alloc | apply pw_below_drewN | apply below_drew1 | refine below_set ?_ GE487.out | refine below_set ?_ GE488.out) | exact HB.out))))
    have n1_ := Aside0.mk (blk_below (g := gb487) (o := .cells #[.int .u64 a0_0, .int .u64 a0_1] 24 (0, 0)) (by (with_reducible repeat (first | refine blk_drewN ?_ _ | refine blk_drew ?_ | refine blk_alloc ?_ _)); exact BK487.out) hb)
    have n2_ := Aside0.mk (blk_below (g := gb488) (o := .cells #[.int .u64 a1_0, .int .u64 a1_1] 24 (0, 0)) (by (with_reducible repeat (first | refine blk_drewN ?_ _ | refine blk_drew ?_ | refine blk_alloc ?_ _)); exact BK488.out) hb)
    have n3_ := Aside0.mk (below_step (by repeat (first | (with_reducible first | exact HB.out | apply below_alloc | apply pw_below_drewN | apply below_drew1 | refine below_set ?_ GE487.out | refine below_set ?_ GE488.out) | exact HB.out)) hb)
    clear BK487
    clear BK488
    clear HB
    have HO491 := n0_
    have BK487 := n1_
    have BK488 := n2_
    have HB := n3_
    clear n0_ n1_ n2_ n3_
    (try clear hb)
    (try clear hb2)
    (try clear hk)
    (try clear hi)
    (try clear ho0)
    refine hK.out _ _ ⟨(blk_cell BK487.out 0).trans rfl, (blk_cell BK487.out 1).trans rfl, (blk_cell BK488.out 0).trans rfl, (blk_cell BK488.out 1).trans rfl⟩ (fun hHeld => ?_)
    clear hK K
    refine norm_ (a' := ?_) ?_ ?_
    rotate_left
    · show Act.put _ (some 9) _ = _
      simp only [Act.put, List.setIfInBounds_toArray, List.set_cons_zero, List.set_cons_succ, i64_w, i32_w]
      rfl
    refine one_ (i := 3) (N := some 11) #[true, true, true, true, false, false] rfl rfl (by kernel_rfl) (by decide) (fun K hK => ?_)
    refine goes_ Try.func25 (by kernel_rfl) rfl #[.agg #[.int .u64 a1_0, .int .u64 a1_1]] (by rfl) rfl rfl (by (try simp only [List.map_toArray, List.map_cons, List.map_nil]); first | done | rfl | (simp only [List.length_drop, List.length_take]; rfl)) ?_
    with_reducible refine (laws_wideWhole.calls a1_0 a1_1 t492 _ A4.out).mono ?_
    rintro e w50 ⟨v493, rfl, ho0, hb⟩
    refine ⟨_, rfl, ?_⟩
    have n0_ := Aside0.mk (Kd.V_below (by (with_reducible repeat (first | apply Kd.V_alloc | apply Kd.V_drewN | apply Kd.V_drew)); exact HO491.out) hb)
    have n1_ := Aside0.mk (Kd.V_lower (Kd.V_mono (ok' := fun k_ => k_ ≠ gb487 ∧ k_ ≠ gb488) ho0 (fun k_ hk_ => ⟨(Kd.freshB (g := gb487) (o := .cells #[.int .u64 a0_0, .int .u64 a0_1] 24 (0, 0)) (by (with_reducible repeat (first | refine blk_drewN ?_ _ | refine blk_drew ?_ | refine blk_alloc ?_ _)); exact BK487.out) k_ hk_), (Kd.freshB (g := gb488) (o := .cells #[.int .u64 a1_0, .int .u64 a1_1] 24 (0, 0)) (by (with_reducible repeat (first | refine blk_drewN ?_ _ | refine blk_drew ?_ | refine blk_alloc ?_ _)); exact BK488.out) k_ hk_)⟩)) (below_size (by repeat (first | (with_reducible first | exact HB.out | apply below_alloc | apply pw_below_drewN | apply below_drew1 | refine below_set ?_ GE487.out | refine below_set ?_ GE488.out) | exact HB.out))))
    have n2_ := Aside0.mk (blk_below (g := gb487) (o := .cells #[.int .u64 a0_0, .int .u64 a0_1] 24 (0, 0)) (by (with_reducible repeat (first | refine blk_drewN ?_ _ | refine blk_drew ?_ | refine blk_alloc ?_ _)); exact BK487.out) hb)
    have n3_ := Aside0.mk (blk_below (g := gb488) (o := .cells #[.int .u64 a1_0, .int .u64 a1_1] 24 (0, 0)) (by (with_reducible repeat (first | refine blk_drewN ?_ _ | refine blk_drew ?_ | refine blk_alloc ?_ _)); exact BK488.out) hb)
    have n4_ := Aside0.mk (below_step (by repeat (first | (with_reducible first | exact HB.out | apply below_alloc | apply pw_below_drewN | apply below_drew1 | refine below_set ?_ GE487.out | refine below_set ?_ GE488.out) | exact HB.out)) hb)
    clear HO491
    clear BK487
    clear BK488
    clear HB
    have HO491 := n0_
    have HO494 := n1_
    have BK487 := n2_
    have BK488 := n3_
    have HB := n4_
    clear n0_ n1_ n2_ n3_ n4_
    (try clear hb)
    (try clear hb2)
    (try clear hk)
    (try clear hi)
    (try clear ho0)
    obtain ⟨Ao51, co51, eo51⟩ := Kd.V_slice HO491.out
    (first | subst eo51 | (injection eo51 with f1_ f2_ f3_; have f4_ := f1_.symm; have f5_ := f3_.symm; clear f1_ f2_ f3_; subst f4_; subst f5_))
    obtain ⟨Ao52, co52, eo52⟩ := Kd.V_slice HO494.out
    (first | subst eo52 | (injection eo52 with f1_ f2_ f3_; have f4_ := f1_.symm; have f5_ := f3_.symm; clear f1_ f2_ f3_; subst f4_; subst f5_))
    refine hK.out _ _ ⟨(blk_cell BK487.out 0).trans rfl, (blk_cell BK487.out 1).trans rfl, (blk_cell BK488.out 0).trans rfl, (blk_cell BK488.out 1).trans rfl⟩ (fun hHeld => ?_)
    clear hK K
    refine norm_ (a' := ?_) ?_ ?_
    rotate_left
    · show Act.put _ (some 11) _ = _
      simp only [Act.put, List.setIfInBounds_toArray, List.set_cons_zero, List.set_cons_succ, i64_w, i32_w]
      rfl
    refine one_ (i := 4) (N := some 12) #[true, true, true, true, true, false] rfl rfl (by kernel_rfl) (by decide) (fun K hK => ?_)
    refine goes_ Try.func53 (by kernel_rfl) rfl #[.slice Ao51 t489.length co51, .slice Ao52 t492.length co52] (by rfl) rfl rfl (by (try simp only [List.map_toArray, List.map_cons, List.map_nil]); first | done | rfl | (simp only [List.length_drop, List.length_take]; rfl)) ?_
    with_reducible refine (spec_Plus.calls k _ _ t489 _ _ t492 t495 _ ?side1 ?side2 ?side3 ?side4 A5.out).mono ?_
    (case side1 => repeat (first | exact (Kd.V_reads' HO491.out).2.2 | (with_reducible refine Kd.C_alloc ?_ _) | (with_reducible refine Kd.C_drewN ?_ _) | (with_reducible refine Kd.C_drew ?_)))
    (case side2 => exact (Kd.V_reads' HO491.out).2.1)
    (case side3 => repeat (first | exact (Kd.V_reads' HO494.out).2.2 | (with_reducible refine Kd.C_alloc ?_ _) | (with_reducible refine Kd.C_drewN ?_ _) | (with_reducible refine Kd.C_drew ?_)))
    (case side4 => exact (Kd.V_reads' HO494.out).2.1)
    rintro e w53 ⟨v496, rfl, ho0, hb⟩
    refine ⟨_, rfl, ?_⟩
    have n0_ := Aside0.mk (Kd.V_below (by (with_reducible repeat (first | apply Kd.V_alloc | apply Kd.V_drewN | apply Kd.V_drew)); exact HO491.out) hb)
    have n1_ := Aside0.mk (Kd.V_below (by (with_reducible repeat (first | apply Kd.V_alloc | apply Kd.V_drewN | apply Kd.V_drew)); exact HO494.out) hb)
    have n2_ := Aside0.mk (Kd.V_lower (Kd.V_mono (ok' := fun k_ => k_ ≠ gb487 ∧ k_ ≠ gb488) ho0 (fun k_ hk_ => ⟨(Kd.freshB (g := gb487) (o := .cells #[.int .u64 a0_0, .int .u64 a0_1] 24 (0, 0)) (by (with_reducible repeat (first | refine blk_drewN ?_ _ | refine blk_drew ?_ | refine blk_alloc ?_ _)); exact BK487.out) k_ hk_), (Kd.freshB (g := gb488) (o := .cells #[.int .u64 a1_0, .int .u64 a1_1] 24 (0, 0)) (by (with_reducible repeat (first | refine blk_drewN ?_ _ | refine blk_drew ?_ | refine blk_alloc ?_ _)); exact BK488.out) k_ hk_)⟩)) (below_size (by repeat (first | (with_reducible first | exact HB.out | apply below_alloc | apply pw_below_drewN | apply below_drew1 | refine below_set ?_ GE487.out | refine below_set ?_ GE488.out) | exact HB.out))))
    have n3_ := Aside0.mk (blk_below (g := gb487) (o := .cells #[.int .u64 a0_0, .int .u64 a0_1] 24 (0, 0)) (by (with_reducible repeat (first | refine blk_drewN ?_ _ | refine blk_drew ?_ | refine blk_alloc ?_ _)); exact BK487.out) hb)
    have n4_ := Aside0.mk (blk_below (g := gb488) (o := .cells #[.int .u64 a1_0, .int .u64 a1_1] 24 (0, 0)) (by (with_reducible repeat (first | refine blk_drewN ?_ _ | refine blk_drew ?_ | refine blk_alloc ?_ _)); exact BK488.out) hb)
    have n5_ := Aside0.mk (below_step (by repeat (first | (with_reducible first | exact HB.out | apply below_alloc | apply pw_below_drewN | apply below_drew1 | refine below_set ?_ GE487.out | refine below_set ?_ GE488.out) | exact HB.out)) hb)
    clear HO491
    clear HO494
    clear BK487
    clear BK488
    clear HB
    have HO491 := n0_
    have HO494 := n1_
    have HO497 := n2_
    have BK487 := n3_
    have BK488 := n4_
    have HB := n5_
    clear n0_ n1_ n2_ n3_ n4_ n5_
    (try clear hb)
    (try clear hb2)
    (try clear hk)
    (try clear hi)
    (try clear ho0)
    refine hK.out _ _ ⟨(blk_cell BK487.out 0).trans rfl, (blk_cell BK487.out 1).trans rfl, (blk_cell BK488.out 0).trans rfl, (blk_cell BK488.out 1).trans rfl⟩ (fun hHeld => ?_)
    clear hK K
    refine norm_ (a' := ?_) ?_ ?_
    rotate_left
    · show Act.put _ (some 12) _ = _
      simp only [Act.put, List.setIfInBounds_toArray, List.set_cons_zero, List.set_cons_succ, i64_w, i32_w]
      rfl
    refine pure_ (i := 5) (N := some 5) (v := ?_) (a' := ?_) #[true, true, true, true, true, true] rfl rfl (by kernel_rfl) (fun _ _ _ h => h) (Or.inl ⟨by rfl, ?_⟩) ?_ ?_
    rotate_left
    · intro w'
      go_simp
      with_reducible rfl
    rotate_left
    · simp only [Act.put, List.setIfInBounds_toArray, List.set_cons_zero, List.set_cons_succ, i64_w, i32_w]
      rfl
    refine done_ (by kernel_rfl) ?_
    have hnb54 := NB487_488.out
    have hnc54 := NB488_487.out
    have hcz55_0 : w53.cell? ⟨gb487, 0, none⟩ = some (.int .u64 a0_0) := (blk_cell BK487.out 0).trans rfl
    have hcz55_1 : w53.cell? ⟨gb487, 1, none⟩ = some (.int .u64 a0_1) := (blk_cell BK487.out 1).trans rfl
    have hfz55_0 := blk_frozen BK487.out 0
    have hfz55_1 := blk_frozen BK487.out 1
    have hcz56_0 : w53.cell? ⟨gb488, 0, none⟩ = some (.int .u64 a1_0) := (blk_cell BK488.out 0).trans rfl
    have hcz56_1 : w53.cell? ⟨gb488, 1, none⟩ = some (.int .u64 a1_1) := (blk_cell BK488.out 1).trans rfl
    have hfz56_0 := blk_frozen BK488.out 0
    have hfz56_1 := blk_frozen BK488.out 1
    try go_wp2_with (first | ((with_reducible refine gate_callee (f := 62) rfl ?_); refine goesL_ (some 16) rfl rfl Try.func62 (by kernel_rfl) rfl #[.agg #[.int .u64 a0_0, .int .u64 a0_1], .agg #[.int .u64 a1_0, .int .u64 a1_1]] rfl (by (try simp only [List.map_toArray, List.map_cons, List.map_nil]); first | done | rfl | (simp only [List.length_drop, List.length_take]; rfl)) ?_; (with_reducible refine (impl_WideAdd.calls a0_0 a0_1 a1_0 a1_1 t498 t499 t500 _ A6.out).mono ?_); rintro e w57 ⟨rfl, hb⟩; refine ⟨_, rfl, ?_⟩; have n0_ := Aside0.mk (Kd.V_below (by (with_reducible repeat (first | apply Kd.V_alloc | apply Kd.V_drewN | apply Kd.V_drew)); exact HO491.out) hb); have n1_ := Aside0.mk (Kd.V_below (by (with_reducible repeat (first | apply Kd.V_alloc | apply Kd.V_drewN | apply Kd.V_drew)); exact HO494.out) hb); have n2_ := Aside0.mk (Kd.V_below (by (with_reducible repeat (first | apply Kd.V_alloc | apply Kd.V_drewN | apply Kd.V_drew)); exact HO497.out) hb); have n3_ := Aside0.mk (blk_below (g := gb487) (o := .cells #[.int .u64 a0_0, .int .u64 a0_1] 24 (0, 0)) (by (with_reducible repeat (first | refine blk_drewN ?_ _ | refine blk_drew ?_ | refine blk_alloc ?_ _)); exact BK487.out) hb); have n4_ := Aside0.mk (blk_below (g := gb488) (o := .cells #[.int .u64 a1_0, .int .u64 a1_1] 24 (0, 0)) (by (with_reducible repeat (first | refine blk_drewN ?_ _ | refine blk_drew ?_ | refine blk_alloc ?_ _)); exact BK488.out) hb); have n5_ := Aside0.mk (below_step (by repeat (first | (with_reducible first | exact HB.out | apply below_alloc | apply pw_below_drewN | apply below_drew1 | refine below_set ?_ GE487.out | refine below_set ?_ GE488.out) | exact HB.out)) hb); clear HO491; clear HO494; clear HO497; clear BK487; clear BK488; clear HB; have HO491 := n0_; have HO494 := n1_; have HO497 := n2_; have BK487 := n3_; have BK488 := n4_; have HB := n5_; clear n0_ n1_ n2_ n3_ n4_ n5_; (try clear hb); (try clear hb2); (try clear hk); (try clear hi)) | ((with_reducible refine gate_dst (N := 6) rfl ?_); refine box_event ?hg (N := 6) ?hd (cs := #[.int .u64 0, .int .u64 0]) (t := 24) ?hr ?_; (case hd => rfl); (case hg => rfl); (case hr => first | (go_simp; done) | (go_simp; rfl)); intro gb501 hg w58 hbox hb; have n0_ := Aside0.mk (Kd.V_below (Kd.V_elderB (by (with_reducible repeat (first | apply Kd.V_alloc | apply Kd.V_drewN | apply Kd.V_drew)); exact HO491.out) gb501 (Nat.le_of_eq hg.symm)) hb); have n1_ := Aside0.mk (Kd.V_below (Kd.V_elderB (by (with_reducible repeat (first | apply Kd.V_alloc | apply Kd.V_drewN | apply Kd.V_drew)); exact HO494.out) gb501 (Nat.le_of_eq hg.symm)) hb); have n2_ := Aside0.mk (Kd.V_below (Kd.V_elderB (by (with_reducible repeat (first | apply Kd.V_alloc | apply Kd.V_drewN | apply Kd.V_drew)); exact HO497.out) gb501 (Nat.le_of_eq hg.symm)) hb); have n3_ := Aside0.mk (blk_below (g := gb487) (o := .cells #[.int .u64 a0_0, .int .u64 a0_1] 24 (0, 0)) (by (with_reducible repeat (first | refine blk_drewN ?_ _ | refine blk_drew ?_ | refine blk_alloc ?_ _)); exact BK487.out) hb); have n4_ := Aside0.mk (blk_below (g := gb488) (o := .cells #[.int .u64 a1_0, .int .u64 a1_1] 24 (0, 0)) (by (with_reducible repeat (first | refine blk_drewN ?_ _ | refine blk_drew ?_ | refine blk_alloc ?_ _)); exact BK488.out) hb); have n5_ := Aside0.mk (below_step (by repeat (first | (with_reducible first | exact HB.out | apply below_alloc | apply pw_below_drewN | apply below_drew1 | refine below_set ?_ GE487.out | refine below_set ?_ GE488.out) | exact HB.out)) hb); have n6_ := Aside0.mk (hbox); have n7_ := Aside0.mk ((by rw [hg]; exact (below_size (by repeat (first | (with_reducible first | exact HB.out | apply below_alloc | apply pw_below_drewN | apply below_drew1 | refine below_set ?_ GE487.out | refine below_set ?_ GE488.out) | exact HB.out))) : w.heap.size ≤ gb501)); have n8_ := Aside0.mk ((by rw [hg]; exact (below_size (by repeat (first | (with_reducible first | exact HB.out | apply below_alloc | apply pw_below_drewN | apply below_drew1 | refine below_set ?_ GE487.out | refine below_set ?_ GE488.out) | exact HB.out))) : w.heap.size ≤ gb501)); have n9_ := Aside0.mk ((by rw [hg]; exact Nat.ne_of_lt (blk_lt (g := gb487) (o := .cells #[.int .u64 a0_0, .int .u64 a0_1] 24 (0, 0)) (by (with_reducible repeat (first | refine blk_drewN ?_ _ | refine blk_drew ?_ | refine blk_alloc ?_ _)); exact BK487.out)) : gb487 ≠ gb501)); have n10_ := Aside0.mk ((by rw [hg]; exact Nat.ne_of_gt (blk_lt (g := gb487) (o := .cells #[.int .u64 a0_0, .int .u64 a0_1] 24 (0, 0)) (by (with_reducible repeat (first | refine blk_drewN ?_ _ | refine blk_drew ?_ | refine blk_alloc ?_ _)); exact BK487.out)) : gb501 ≠ gb487)); have n11_ := Aside0.mk ((by rw [hg]; exact Nat.ne_of_lt (blk_lt (g := gb488) (o := .cells #[.int .u64 a1_0, .int .u64 a1_1] 24 (0, 0)) (by (with_reducible repeat (first | refine blk_drewN ?_ _ | refine blk_drew ?_ | refine blk_alloc ?_ _)); exact BK488.out)) : gb488 ≠ gb501)); have n12_ := Aside0.mk ((by rw [hg]; exact Nat.ne_of_gt (blk_lt (g := gb488) (o := .cells #[.int .u64 a1_0, .int .u64 a1_1] 24 (0, 0)) (by (with_reducible repeat (first | refine blk_drewN ?_ _ | refine blk_drew ?_ | refine blk_alloc ?_ _)); exact BK488.out)) : gb501 ≠ gb488)); clear HO491; clear HO494; clear HO497; clear BK487; clear BK488; clear HB; have HO491 := n0_; have HO494 := n1_; have HO497 := n2_; have BK487 := n3_; have BK488 := n4_; have HB := n5_; have BK501 := n6_; have GW501 := n7_; have GE501 := n8_; have NB487_501 := n9_; have NB501_487 := n10_; have NB488_501 := n11_; have NB501_488 := n12_; clear n0_ n1_ n2_ n3_ n4_ n5_ n6_ n7_ n8_ n9_ n10_ n11_ n12_; clear hb hbox hg; have hnb59 := NB501_487.out; have hnc59 := NB487_501.out; have hnb60 := NB501_488.out; have hnc60 := NB488_501.out; have hcz61_0 : w58.cell? ⟨gb501, 0, none⟩ = some (.int .u64 0) := (blk_cell BK501.out 0).trans rfl; have hcz61_1 : w58.cell? ⟨gb501, 1, none⟩ = some (.int .u64 0) := (blk_cell BK501.out 1).trans rfl; have hfz61_0 := blk_frozen BK501.out 0; have hfz61_1 := blk_frozen BK501.out 1; obtain ⟨Ao62, co62, eo62⟩ := Kd.V_slice HO497.out; subst eo62) | ((with_reducible refine gate_callee (f := 63) rfl ?_); refine goesL_ (some 21) rfl rfl Try.func63 (by kernel_rfl) rfl #[.slice Ao62 t495.length co62] rfl (by (try simp only [List.map_toArray, List.map_cons, List.map_nil]); first | done | rfl | (simp only [List.length_drop, List.length_take]; rfl)) ?_; (with_reducible refine (spec_Fits.calls k _ _ t495 t502 _ ?side1 ?side2 A7.out).mono ?_); (case side1 => refine (Kd.V_reads' (e := 3) (base := w.heap.size) (ok := fun k_ => ((k_ ≠ gb487 ∧ k_ ≠ gb488) ∧ k_ ≠ gb501)) (n := t495.length) (c := co62) ?_).2.2; exact (by (with_reducible repeat (first | apply Kd.V_alloc | apply Kd.V_drewN | apply Kd.V_drew)); exact (Kd.V_mono (Kd.V_far (p := ⟨gb501, 1, none⟩) (Kd.V_far (p := ⟨gb501, 0, none⟩) (Kd.V_mono HO497.out (fun k_ hk => (⟨hk, hk.2⟩ : _ ∧ k_ ≠ gb501))) (fun _ hk => hk.2) (.int .u64 t498)) (fun _ hk => hk.2) (.int .u64 t499)) (fun _ h_ => h_.1)))); (case side2 => exact (Kd.V_reads' HO497.out).2.1); rintro e w' ⟨rfl, ⟨nd, rfl⟩⟩; refine ⟨_, rfl, ?_⟩))
    go_ret
    exact ⟨by first | rfl | (simp [errW_none, errW_some] <;> rfl) | (simp [*, errW_none, errW_some] <;> rfl), by repeat (first | (with_reducible first | exact HB.out | apply below_alloc | apply pw_below_drewN | apply below_drew1 | refine below_set ?_ GE487.out | refine below_set ?_ GE488.out | refine below_set ?_ GE501.out) | exact HB.out)⟩


end Go.Proofs.Ytiifnofghicnaaa.PAll
