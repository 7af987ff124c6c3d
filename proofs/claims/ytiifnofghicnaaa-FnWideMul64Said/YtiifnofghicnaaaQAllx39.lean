/- Printed by the kit's print.py, called for several laws at once: functions as plain Lean, and the walks' contracts. -/
import Derived.Test.YtiifnofghicnaaaQAllx0
import Derived.Test.YtiifnofghicnaaaQAllx1
import Derived.Test.YtiifnofghicnaaaQAllx2
import Derived.Test.YtiifnofghicnaaaQAllx3
import Derived.Test.YtiifnofghicnaaaQAllx5
import Derived.Test.YtiifnofghicnaaaQAllx6
import Derived.Test.YtiifnofghicnaaaQAllx9
import Derived.Test.YtiifnofghicnaaaQAllx14
namespace Go.Proofs.Ytiifnofghicnaaa.PAll
open Go.RowKit Go.Proofs.YtiifnofghicnaaaW.PrintWords Go.Proofs.YtiifnofghicnaaaW.PrintLast Go.Proofs.YtiifnofghicnaaaW.PrintMore
attribute [local go_sem] max2_int min2_int max_two min_two max_three min_three max_four min_four   -- for this text's walks alone
set_option linter.unusedVariables false
set_option linter.unusedSimpArgs false

/-! ### for (pub-hashloom/pub/uint128.Uint128).Mul64 -/
def uint128_Uint128_Mul64.f (a0_0 a0_1 a1 : Int) : Option (Int × Int) :=
  if (U64 a0_0 ∧ U64 a0_1 ∧ U64 a1) ∧ N128 a0_0 a0_1 * a1.toNat < 340282366920938463463374607431768211456 then some (halves (N128 a0_0 a0_1 * a1.toNat)) else none
theorem muln_val (a b c : Nat) : (a + b * 18446744073709551616) * c = a * c + b * c * 18446744073709551616 := by grind
theorem muln_no (a b c : Nat) (h : a * c + b * c * 18446744073709551616 < 340282366920938463463374607431768211456) :
    (((mHi b c : Nat) : Int) != 0) = false ∧ (((aHi (mHi a c) (mLo b c) 0 : Nat) : Int) != 0) = false := by
  have h1 : mHi b c = 0 := by unfold mHi; omega
  have h2 : aHi (mHi a c) (mLo b c) 0 = 0 := by unfold aHi mHi mLo; omega
  rw [h1, h2]
  exact ⟨rfl, rfl⟩
theorem muln_yes (a b c : Nat) (h : ¬ a * c + b * c * 18446744073709551616 < 340282366920938463463374607431768211456) :
    (((mHi b c : Nat) : Int) != 0) = true ∨ ((((mHi b c : Nat) : Int) != 0) = false ∧ (((aHi (mHi a c) (mLo b c) 0 : Nat) : Int) != 0) = true) := by
  by_cases h1 : mHi b c = 0
  · right
    have h2 : aHi (mHi a c) (mLo b c) 0 ≠ 0 := by unfold aHi mHi mLo; unfold mHi at h1; omega
    rw [h1, bne_iff_ne]
    exact ⟨rfl, by omega⟩
  · left
    rw [bne_iff_ne]
    omega
theorem muln_1 (a b c : Nat) (h : a * c + b * c * 18446744073709551616 < 340282366920938463463374607431768211456) : mLo a c = (a * c + b * c * 18446744073709551616) % 18446744073709551616 ∧ aLo (mHi a c) (mLo b c) 0 = (a * c + b * c * 18446744073709551616) / 18446744073709551616 % 18446744073709551616 := by
  unfold aLo mHi mLo
  omega
set_option maxHeartbeats 2000000 in
set_option maxRecDepth 100000 in
theorem mul64n_nat (a b c : Nat) (ha : a < 18446744073709551616) (hb : b < 18446744073709551616) (hc : c < 18446744073709551616) (hk : (((mHi b c : Nat) : Int) != 0) = false ∧ (((aHi (mHi a c) (mLo b c) 0 : Nat) : Int) != 0) = false) (w : World) :
    Calls Try.prog 117 #[.agg #[.int .u64 a, .int .u64 b], .int .u64 c] w fun e w' => e = .returned (.agg #[.int .u64 (mLo a c : Int), .int .u64 (aLo (mHi a c) (mLo b c) 0 : Int)]) ∧ Below w.heap.size w w' := by
  have m1 := Lib.hid (mul64_law a c ha hc)
  have m2 := Lib.hid (mul64_law b c hb hc)
  have r1 := run_add64_0 (mHi a c) (mLo b c)
  obtain ⟨k1, k2⟩ := hk
  clear ha hb hc
  go_enter Try.func117, Try.ntmps117
  go_wp2_with fail
  refine (bits_Mul64.calls _ _ _ _ _ m1.out).mono ?_
  rintro e w1 ⟨rfl, ⟨⟨n1, rfl⟩⟩⟩
  go_wp2_with fail
  refine (bits_Mul64.calls _ _ _ _ _ m2.out).mono ?_
  rintro e w1 ⟨rfl, ⟨⟨n2, rfl⟩⟩⟩
  go_wp2
  refine bodyPost_ret (v := .agg #[.int .u64 (mLo a c : Int), .int .u64 (aLo (mHi a c) (mLo b c) 0 : Int)]) (by simp [results, Try.results117, go_sem]) rfl ⟨rfl, ?_⟩
  exact by repeat (first | exact Below.refl _ _ | apply pw_below_drewN | apply below_alloc | refine Below.setCell ?_ (by (try simp only [Nat.le_refl]); omega) _)
set_option maxHeartbeats 2000000 in
set_option maxRecDepth 100000 in
theorem mul64n_panics (a b c : Nat) (ha : a < 18446744073709551616) (hb : b < 18446744073709551616) (hc : c < 18446744073709551616) (hk : (((mHi b c : Nat) : Int) != 0) = true ∨ ((((mHi b c : Nat) : Int) != 0) = false ∧ (((aHi (mHi a c) (mLo b c) 0 : Nat) : Int) != 0) = true)) (w : World) :
    Calls Try.prog 117 #[.agg #[.int .u64 a, .int .u64 b], .int .u64 c] w fun e w' => (∃ pv, e = .panicked [{ v := .iface 9 pv, recovered := false }]) ∧ Below w.heap.size w w' := by
  have m1 := Lib.hid (mul64_law a c ha hc)
  have m2 := Lib.hid (mul64_law b c hb hc)
  have r1 := run_add64_0 (mHi a c) (mLo b c)
  clear ha hb hc
  rcases hk with k1 | ⟨k1, k2⟩
  all_goals
    go_enter Try.func117, Try.ntmps117
    go_wp2_with fail
    refine (bits_Mul64.calls _ _ _ _ _ m1.out).mono ?_
    rintro e w1 ⟨rfl, ⟨⟨n1, rfl⟩⟩⟩
    go_wp2_with fail
    refine (bits_Mul64.calls _ _ _ _ _ m2.out).mono ?_
    rintro e w1 ⟨rfl, ⟨⟨n2, rfl⟩⟩⟩
    go_wp2
    exact ⟨rfl, ⟨_, rfl⟩, by repeat (first | exact Below.refl _ _ | apply pw_below_drewN | apply below_alloc | refine Below.setCell ?_ (by (try simp only [Nat.le_refl]); omega) _)⟩
theorem uint128_Uint128_Mul64.calls (a0_0 : Int) (a0_1 : Int) (a1 : Int) (r1 : Int) (r2 : Int) (w : World) (h : uint128_Uint128_Mul64.f a0_0 a0_1 a1 = some (r1, r2)) :
    Calls Try.prog 117 #[.agg #[.int .u64 a0_0, .int .u64 a0_1], .int .u64 a1] w fun e w' => e = .returned (.agg #[.int .u64 r1, .int .u64 r2]) ∧ Below w.heap.size w w' := by
  unfold uint128_Uint128_Mul64.f at h
  split at h
  case isFalse => cases h
  rename_i hb
  obtain ⟨⟨ka, kb, kc⟩, kx⟩ := hb
  obtain ⟨a, rfl, ha⟩ := ka.nat
  obtain ⟨b, rfl, hb⟩ := kb.nat
  obtain ⟨c, rfl, hc⟩ := kc.nat
  have e := Option.some.inj h
  simp only [halves, N128, Int.toNat_natCast, Prod.mk.injEq, muln_val] at e kx
  rw [← (muln_1 a b c kx).1, ← (muln_1 a b c kx).2] at e
  obtain ⟨rfl, rfl⟩ := e
  exact mul64n_nat a b c ha hb hc (muln_no a b c kx) w
theorem uint128_Uint128_Mul64.panics (a0_0 : Int) (a0_1 : Int) (a1 : Int) (w : World) (hu : U64 a0_0 ∧ U64 a0_1 ∧ U64 a1) (h : ¬ (N128 a0_0 a0_1 * a1.toNat < 340282366920938463463374607431768211456)) :
    Calls Try.prog 117 #[.agg #[.int .u64 a0_0, .int .u64 a0_1], .int .u64 a1] w fun e w' => (∃ pv, e = .panicked [{ v := .iface 9 pv, recovered := false }]) ∧ Below w.heap.size w w' := by
  obtain ⟨ka, kb, kc⟩ := hu
  obtain ⟨a, rfl, ha⟩ := ka.nat
  obtain ⟨b, rfl, hb⟩ := kb.nat
  obtain ⟨c, rfl, hc⟩ := kc.nat
  simp only [N128, Int.toNat_natCast, muln_val] at h
  exact mul64n_panics a b c ha hb hc (muln_yes a b c h) w

/-! ### impl_WideMul64: function 72 -/
set_option maxHeartbeats 1000000 in
set_option maxRecDepth 100000 in
theorem WideMul64_1ret (a b c : Int) (r1 r2 : Int) (p q : Nat) (w : World) (h : uint128_Uint128_Mul64.f a b c = some (r1, r2)) (lp : p < w.heap.size) (lq : q < w.heap.size)
    (p0 : w.cell? ⟨p, 0, none⟩ = some (.int .u64 a)) (p1 : w.cell? ⟨p, 1, none⟩ = some (.int .u64 b)) (q0 : w.cell? ⟨q, 0, none⟩ = some (.int .u64 c)) :
    Calls Try.prog 116 #[.pointer (some ⟨p, 0, none⟩), .pointer (some ⟨q, 0, none⟩)] w fun e w' => e = .returned (.agg #[.int .u64 r1, .int .u64 r2]) ∧ Below w.heap.size w w' := by
  have HH := Lib.hid h
  clear h
  go_enter Try.func116, Try.ntmps116
  go_wp2_with fail
  obtain ⟨w0, w1, f0, f1, lz, BB⟩ := alloc2_facts w 24 (.int .u64 0) (.int .u64 0)
  replace p0 := (BB.cell (p := ⟨p, 0, none⟩) (by exact lp)).trans p0
  replace p1 := (BB.cell (p := ⟨p, 1, none⟩) (by exact lp)).trans p1
  replace q0 := (BB.cell (p := ⟨q, 0, none⟩) (by exact lq)).trans q0
  generalize w.alloc (.cells #[.int .u64 0, .int .u64 0] 24) = W0 at *
  refine start_ (n := 6) (S := fun w' => w'.cell? ⟨p, 0, none⟩ = some (.int .u64 a) ∧ w'.cell? ⟨p, 1, none⟩ = some (.int .u64 b) ∧ w'.cell? ⟨q, 0, none⟩ = some (.int .u64 c)) (ds := []) #[false, false, false, false, false, false] (by kernel_rfl) rfl rfl ⟨p0, p1, q0⟩ (fun hHeld => ?_)
  replace BB := BB.drew
  replace p0 : W0.drew.cell? ⟨p, 0, none⟩ = some (.int .u64 a) := p0
  replace p1 : W0.drew.cell? ⟨p, 1, none⟩ = some (.int .u64 b) := p1
  replace q0 : W0.drew.cell? ⟨q, 0, none⟩ = some (.int .u64 c) := q0
  replace w0 : W0.drew.cell? ⟨w.heap.size, 0, none⟩ = some (.int .u64 0) := w0
  replace w1 : W0.drew.cell? ⟨w.heap.size, 1, none⟩ = some (.int .u64 0) := w1
  replace f0 : W0.drew.frozen? ⟨w.heap.size, 0, none⟩ = false := f0
  replace f1 : W0.drew.frozen? ⟨w.heap.size, 1, none⟩ = false := f1
  replace lz : w.heap.size < W0.drew.heap.size := lz
  generalize W0.drew = W1 at BB p0 p1 q0 w0 w1 f0 f1 lz hHeld ⊢
  refine take_ (i := 0) (N := some 3) (v := ?_) (a' := ?_) #[true, false, false, false, false, false] rfl rfl (by kernel_rfl) (fun _ _ _ h => h) (Or.inl ⟨by rfl, ?_⟩) hHeld ?_ ?_
  rotate_left
  · rintro w' ⟨s0, s1, s2⟩
    go_simp
    with_reducible rfl
  rotate_left
  · simp only [Act.put, List.setIfInBounds_toArray, List.set_cons_zero, List.set_cons_succ, i64_w, i32_w]
    rfl
  refine take_ (i := 2) (N := some 5) (v := ?_) (a' := ?_) #[true, false, true, false, false, false] rfl rfl (by kernel_rfl) (fun _ _ _ h => h) (Or.inl ⟨by rfl, ?_⟩) hHeld ?_ ?_
  rotate_left
  · rintro w' ⟨s0, s1, s2⟩
    go_simp
    with_reducible rfl
  rotate_left
  · simp only [Act.put, List.setIfInBounds_toArray, List.set_cons_zero, List.set_cons_succ, i64_w, i32_w]
    rfl
  refine one_ (i := 1) (N := some 4) #[true, true, true, false, false, false] rfl rfl (by kernel_rfl) (by decide) (fun K hK => ?_)
  refine goes_ Try.func76 (by kernel_rfl) rfl #[.agg #[.int .u64 a, .int .u64 b]] (by rfl) rfl rfl (by (try simp only [List.map_toArray, List.map_cons, List.map_nil]); first | done | rfl) ?_
  refine (impl_Wide_u.calls a b a b _ rfl).mono ?_
  rintro e W2 ⟨rfl, hb⟩
  refine ⟨_, rfl, ?_⟩
  replace p0 := (hb.cell (p := ⟨p, 0, none⟩) (Nat.lt_trans lp lz)).trans p0
  replace p1 := (hb.cell (p := ⟨p, 1, none⟩) (Nat.lt_trans lp lz)).trans p1
  replace q0 := (hb.cell (p := ⟨q, 0, none⟩) (Nat.lt_trans lq lz)).trans q0
  replace w0 := (hb.cell (p := ⟨w.heap.size, 0, none⟩) lz).trans w0
  replace w1 := (hb.cell (p := ⟨w.heap.size, 1, none⟩) lz).trans w1
  replace f0 := (hb.frozen (p := ⟨w.heap.size, 0, none⟩) lz).trans f0
  replace f1 := (hb.frozen (p := ⟨w.heap.size, 1, none⟩) lz).trans f1
  replace BB := BB.trans (hb.mono (Nat.le_of_lt lz))
  replace lz := Nat.lt_of_lt_of_le lz hb.size
  clear hb
  refine hK.out _ _ ⟨p0, p1, q0⟩ (fun hHeld => ?_)
  clear hK K
  refine norm_ (a' := ?_) ?_ ?_
  rotate_left
  · show Act.put _ (some 4) _ = _
    simp only [Act.put, List.setIfInBounds_toArray, List.set_cons_zero, List.set_cons_succ, i64_w, i32_w]
    rfl
  refine one_ (i := 3) (N := some 6) #[true, true, true, true, false, false] rfl rfl (by kernel_rfl) (by decide) (fun K hK => ?_)
  refine goes_ Try.func117 (by kernel_rfl) rfl #[.agg #[.int .u64 a, .int .u64 b], .int .u64 c] (by rfl) rfl rfl (by (try simp only [List.map_toArray, List.map_cons, List.map_nil]); first | done | rfl) ?_
  refine (uint128_Uint128_Mul64.calls a b c r1 r2 _ HH.out).mono ?_
  rintro e W2 ⟨rfl, hb⟩
  refine ⟨_, rfl, ?_⟩
  replace p0 := (hb.cell (p := ⟨p, 0, none⟩) (Nat.lt_trans lp lz)).trans p0
  replace p1 := (hb.cell (p := ⟨p, 1, none⟩) (Nat.lt_trans lp lz)).trans p1
  replace q0 := (hb.cell (p := ⟨q, 0, none⟩) (Nat.lt_trans lq lz)).trans q0
  replace w0 := (hb.cell (p := ⟨w.heap.size, 0, none⟩) lz).trans w0
  replace w1 := (hb.cell (p := ⟨w.heap.size, 1, none⟩) lz).trans w1
  replace f0 := (hb.frozen (p := ⟨w.heap.size, 0, none⟩) lz).trans f0
  replace f1 := (hb.frozen (p := ⟨w.heap.size, 1, none⟩) lz).trans f1
  replace BB := BB.trans (hb.mono (Nat.le_of_lt lz))
  replace lz := Nat.lt_of_lt_of_le lz hb.size
  clear hb
  refine hK.out _ _ ⟨p0, p1, q0⟩ (fun hHeld => ?_)
  clear hK K
  refine norm_ (a' := ?_) ?_ ?_
  rotate_left
  · show Act.put _ (some 6) _ = _
    simp only [Act.put, List.setIfInBounds_toArray, List.set_cons_zero, List.set_cons_succ, i64_w, i32_w]
    rfl
  refine one_ (i := 4) (N := some 7) #[true, true, true, true, true, false] rfl rfl (by kernel_rfl) (by decide) (fun K hK => ?_)
  refine goes_ Try.func80 (by kernel_rfl) rfl #[.agg #[.int .u64 r1, .int .u64 r2]] (by rfl) rfl rfl (by (try simp only [List.map_toArray, List.map_cons, List.map_nil]); first | done | rfl) ?_
  refine (impl_wide.calls r1 r2 r1 r2 _ rfl).mono ?_
  rintro e W2 ⟨rfl, hb⟩
  refine ⟨_, rfl, ?_⟩
  replace p0 := (hb.cell (p := ⟨p, 0, none⟩) (Nat.lt_trans lp lz)).trans p0
  replace p1 := (hb.cell (p := ⟨p, 1, none⟩) (Nat.lt_trans lp lz)).trans p1
  replace q0 := (hb.cell (p := ⟨q, 0, none⟩) (Nat.lt_trans lq lz)).trans q0
  replace w0 := (hb.cell (p := ⟨w.heap.size, 0, none⟩) lz).trans w0
  replace w1 := (hb.cell (p := ⟨w.heap.size, 1, none⟩) lz).trans w1
  replace f0 := (hb.frozen (p := ⟨w.heap.size, 0, none⟩) lz).trans f0
  replace f1 := (hb.frozen (p := ⟨w.heap.size, 1, none⟩) lz).trans f1
  replace BB := BB.trans (hb.mono (Nat.le_of_lt lz))
  replace lz := Nat.lt_of_lt_of_le lz hb.size
  clear hb
  refine hK.out _ _ ⟨p0, p1, q0⟩ (fun hHeld => ?_)
  clear hK K
  refine norm_ (a' := ?_) ?_ ?_
  rotate_left
  · show Act.put _ (some 7) _ = _
    simp only [Act.put, List.setIfInBounds_toArray, List.set_cons_zero, List.set_cons_succ, i64_w, i32_w]
    rfl
  refine one_ (i := 5) (N := none) #[true, true, true, true, true, true] rfl rfl (by kernel_rfl) (by decide) (fun K hK => ?_)
  refine skip_ (w1 := ?_) (by rfl) rfl ?_ ?_
  rotate_left
  · go_simp
    rfl
  refine hK.out _ _ ⟨(cell_far (p := ⟨w.heap.size, 1, none⟩) (by exact Nat.ne_of_lt lp) _).trans ((cell_far (p := ⟨w.heap.size, 0, none⟩) (by exact Nat.ne_of_lt lp) _).trans p0), (cell_far (p := ⟨w.heap.size, 1, none⟩) (by exact Nat.ne_of_lt lp) _).trans ((cell_far (p := ⟨w.heap.size, 0, none⟩) (by exact Nat.ne_of_lt lp) _).trans p1), (cell_far (p := ⟨w.heap.size, 1, none⟩) (by exact Nat.ne_of_lt lq) _).trans ((cell_far (p := ⟨w.heap.size, 0, none⟩) (by exact Nat.ne_of_lt lq) _).trans q0)⟩ (fun hHeld => ?_)
  clear hK K
  refine done_ (by kernel_rfl) ?_
  go_wp2
  refine bodyPost_ret (v := .agg #[.int .u64 r1, .int .u64 r2]) (by simp [results, Try.results116, go_sem, w0, w1]) rfl ⟨rfl, (BB.setCell (p := ⟨w.heap.size, 0, none⟩) (Nat.le_refl _) _).setCell (p := ⟨w.heap.size, 1, none⟩) (Nat.le_refl _) _⟩
set_option maxHeartbeats 1000000 in
set_option maxRecDepth 100000 in
theorem WideMul64_1pan (a b c : Int) (p q : Nat) (w : World) (hu : U64 a ∧ U64 b ∧ U64 c) (h : ¬ (N128 a b * c.toNat < 340282366920938463463374607431768211456)) (lp : p < w.heap.size) (lq : q < w.heap.size)
    (p0 : w.cell? ⟨p, 0, none⟩ = some (.int .u64 a)) (p1 : w.cell? ⟨p, 1, none⟩ = some (.int .u64 b)) (q0 : w.cell? ⟨q, 0, none⟩ = some (.int .u64 c)) :
    Calls Try.prog 116 #[.pointer (some ⟨p, 0, none⟩), .pointer (some ⟨q, 0, none⟩)] w fun e w' => (∃ pv, e = .panicked [{ v := .iface 9 pv, recovered := false }]) ∧ Below w.heap.size w w' := by
  have HH := Lib.hid hu
  have HN := Lib.hid h
  clear hu h
  go_enter Try.func116, Try.ntmps116
  go_wp2_with fail
  obtain ⟨w0, w1, f0, f1, lz, BB⟩ := alloc2_facts w 24 (.int .u64 0) (.int .u64 0)
  replace p0 := (BB.cell (p := ⟨p, 0, none⟩) (by exact lp)).trans p0
  replace p1 := (BB.cell (p := ⟨p, 1, none⟩) (by exact lp)).trans p1
  replace q0 := (BB.cell (p := ⟨q, 0, none⟩) (by exact lq)).trans q0
  generalize w.alloc (.cells #[.int .u64 0, .int .u64 0] 24) = W0 at *
  refine start_ (n := 6) (S := fun w' => w'.cell? ⟨p, 0, none⟩ = some (.int .u64 a) ∧ w'.cell? ⟨p, 1, none⟩ = some (.int .u64 b) ∧ w'.cell? ⟨q, 0, none⟩ = some (.int .u64 c)) (ds := []) #[false, false, false, false, false, false] (by kernel_rfl) rfl rfl ⟨p0, p1, q0⟩ (fun hHeld => ?_)
  replace BB := BB.drew
  replace p0 : W0.drew.cell? ⟨p, 0, none⟩ = some (.int .u64 a) := p0
  replace p1 : W0.drew.cell? ⟨p, 1, none⟩ = some (.int .u64 b) := p1
  replace q0 : W0.drew.cell? ⟨q, 0, none⟩ = some (.int .u64 c) := q0
  replace w0 : W0.drew.cell? ⟨w.heap.size, 0, none⟩ = some (.int .u64 0) := w0
  replace w1 : W0.drew.cell? ⟨w.heap.size, 1, none⟩ = some (.int .u64 0) := w1
  replace f0 : W0.drew.frozen? ⟨w.heap.size, 0, none⟩ = false := f0
  replace f1 : W0.drew.frozen? ⟨w.heap.size, 1, none⟩ = false := f1
  replace lz : w.heap.size < W0.drew.heap.size := lz
  generalize W0.drew = W1 at BB p0 p1 q0 w0 w1 f0 f1 lz hHeld ⊢
  refine take_ (i := 0) (N := some 3) (v := ?_) (a' := ?_) #[true, false, false, false, false, false] rfl rfl (by kernel_rfl) (fun _ _ _ h => h) (Or.inl ⟨by rfl, ?_⟩) hHeld ?_ ?_
  rotate_left
  · rintro w' ⟨s0, s1, s2⟩
    go_simp
    with_reducible rfl
  rotate_left
  · simp only [Act.put, List.setIfInBounds_toArray, List.set_cons_zero, List.set_cons_succ, i64_w, i32_w]
    rfl
  refine take_ (i := 2) (N := some 5) (v := ?_) (a' := ?_) #[true, false, true, false, false, false] rfl rfl (by kernel_rfl) (fun _ _ _ h => h) (Or.inl ⟨by rfl, ?_⟩) hHeld ?_ ?_
  rotate_left
  · rintro w' ⟨s0, s1, s2⟩
    go_simp
    with_reducible rfl
  rotate_left
  · simp only [Act.put, List.setIfInBounds_toArray, List.set_cons_zero, List.set_cons_succ, i64_w, i32_w]
    rfl
  refine one_ (i := 1) (N := some 4) #[true, true, true, false, false, false] rfl rfl (by kernel_rfl) (by decide) (fun K hK => ?_)
  refine goes_ Try.func76 (by kernel_rfl) rfl #[.agg #[.int .u64 a, .int .u64 b]] (by rfl) rfl rfl (by (try simp only [List.map_toArray, List.map_cons, List.map_nil]); first | done | rfl) ?_
  refine (impl_Wide_u.calls a b a b _ rfl).mono ?_
  rintro e W2 ⟨rfl, hb⟩
  refine ⟨_, rfl, ?_⟩
  replace p0 := (hb.cell (p := ⟨p, 0, none⟩) (Nat.lt_trans lp lz)).trans p0
  replace p1 := (hb.cell (p := ⟨p, 1, none⟩) (Nat.lt_trans lp lz)).trans p1
  replace q0 := (hb.cell (p := ⟨q, 0, none⟩) (Nat.lt_trans lq lz)).trans q0
  replace w0 := (hb.cell (p := ⟨w.heap.size, 0, none⟩) lz).trans w0
  replace w1 := (hb.cell (p := ⟨w.heap.size, 1, none⟩) lz).trans w1
  replace f0 := (hb.frozen (p := ⟨w.heap.size, 0, none⟩) lz).trans f0
  replace f1 := (hb.frozen (p := ⟨w.heap.size, 1, none⟩) lz).trans f1
  replace BB := BB.trans (hb.mono (Nat.le_of_lt lz))
  replace lz := Nat.lt_of_lt_of_le lz hb.size
  clear hb
  refine hK.out _ _ ⟨p0, p1, q0⟩ (fun hHeld => ?_)
  clear hK K
  refine norm_ (a' := ?_) ?_ ?_
  rotate_left
  · show Act.put _ (some 4) _ = _
    simp only [Act.put, List.setIfInBounds_toArray, List.set_cons_zero, List.set_cons_succ, i64_w, i32_w]
    rfl
  refine one_ (i := 3) (N := some 6) #[true, true, true, true, false, false] rfl rfl (by kernel_rfl) (by decide) (fun K hK => ?_)
  refine pgoes_ Try.func117 (by kernel_rfl) rfl #[.agg #[.int .u64 a, .int .u64 b], .int .u64 c] (by rfl) rfl (by (try simp only [List.map_toArray, List.map_cons, List.map_nil]); first | done | rfl) ?_
  refine (uint128_Uint128_Mul64.panics a b c _ HH.out HN.out).mono ?_
  rintro e W2 ⟨⟨pv, rfl⟩, hb⟩
  exact ⟨_, rfl, rfl, ⟨_, rfl⟩, BB.trans (hb.mono (Nat.le_of_lt lz))⟩
def impl_WideMul64.f (a0_0 a0_1 a1 : Int) : Option (Int × Int × Bool) :=
  if U64 a0_0 ∧ U64 a0_1 ∧ U64 a1 then (if N128 a0_0 a0_1 * a1.toNat < 340282366920938463463374607431768211456 then some ((halves (N128 a0_0 a0_1 * a1.toNat)).1, (halves (N128 a0_0 a0_1 * a1.toNat)).2, true) else some (0, 0, false)) else none
set_option maxHeartbeats 1000000 in
set_option maxRecDepth 100000 in
theorem impl_WideMul64.calls (a0_0 : Int) (a0_1 : Int) (a1 : Int) (r1 : Int) (r2 : Int) (r3 : Bool) (w : World) (h : impl_WideMul64.f a0_0 a0_1 a1 = some (r1, r2, r3)) :
    Calls Try.prog 72 #[.agg #[.int .u64 a0_0, .int .u64 a0_1], .int .u64 a1] w fun e w' => e = .returned (.tuple #[.agg #[.int .u64 r1, .int .u64 r2], .bool r3]) ∧ Below w.heap.size w w' := by
  have hmf : ∀ (fn : Fn) (first cap : Array Value) (w : World), (Instr.makeFunc fn first cap).run Try.prog w = .ok (.func fn first cap) w := fun _ _ _ _ => rfl
  unfold impl_WideMul64.f at h
  split at h
  case isFalse => cases h
  rename_i hu
  have key : Calls Try.prog 102 #[.func (.func 116) #[] #[.pointer (some ⟨w.heap.size, 0, none⟩), .pointer (some ⟨w.heap.size + 1, 0, none⟩)]] (((w.alloc (.cells #[.int .u64 a0_0, .int .u64 a0_1] 24)).alloc (.cells #[.int .u64 a1] 22)).alloc (.cells #[.int .u64 0, .int .u64 0] 24)) fun e w' =>
      e = .returned (.tuple #[.agg #[.int .u64 r1, .int .u64 r2], .bool r3]) ∧ Below (((w.alloc (.cells #[.int .u64 a0_0, .int .u64 a0_1] 24)).alloc (.cells #[.int .u64 a1] 22)).alloc (.cells #[.int .u64 0, .int .u64 0] 24)).heap.size (((w.alloc (.cells #[.int .u64 a0_0, .int .u64 a0_1] 24)).alloc (.cells #[.int .u64 a1] 22)).alloc (.cells #[.int .u64 0, .int .u64 0] 24)) w' := by
    have c0 : ∀ W : World, Below (((w.alloc (.cells #[.int .u64 a0_0, .int .u64 a0_1] 24)).alloc (.cells #[.int .u64 a1] 22)).alloc (.cells #[.int .u64 0, .int .u64 0] 24)).heap.size (((w.alloc (.cells #[.int .u64 a0_0, .int .u64 a0_1] 24)).alloc (.cells #[.int .u64 a1] 22)).alloc (.cells #[.int .u64 0, .int .u64 0] 24)) W → W.heap[w.heap.size]? = some (.cells #[.int .u64 a0_0, .int .u64 a0_1] 24) ∧ W.heap[w.heap.size + 1]? = some (.cells #[.int .u64 a1] 22) ∧ w.heap.size + 1 < W.heap.size := by
      intro W hW
      have hs := hW.size
      simp only [World.size_alloc] at hs
      refine ⟨(hW.block _ (by simp only [World.size_alloc]; omega)).trans (blk_alloc (blk_alloc (MapKept.heap_alloc w _).1 _) _), (hW.block _ (by simp only [World.size_alloc]; omega)).trans (blk_alloc ?_ _), by omega⟩
      have := (MapKept.heap_alloc (w.alloc (.cells #[.int .u64 a0_0, .int .u64 a0_1] 24)) (.cells #[.int .u64 a1] 22)).1
      rw [World.size_alloc] at this
      exact this
    split at h
    · rename_i hlt
      obtain ⟨rfl, rfl, rfl⟩ : (halves (N128 a0_0 a0_1 * a1.toNat)).1 = r1 ∧ (halves (N128 a0_0 a0_1 * a1.toNat)).2 = r2 ∧ true = r3 := by simpa using h
      refine tried_ret 116 _ _ _ _ (fun _ _ => rfl) (Lib.hid fun W hW => ?_)
      obtain ⟨k1, k2, k3⟩ := c0 W hW
      exact WideMul64_1ret a0_0 a0_1 a1 _ _ _ _ W (by unfold uint128_Uint128_Mul64.f; rw [if_pos ⟨hu, hlt⟩]) (by omega) (by omega) ((blk_cell k1 0).trans rfl) ((blk_cell k1 1).trans rfl) ((blk_cell k2 0).trans rfl)
    · rename_i hlt
      obtain ⟨rfl, rfl, rfl⟩ : (0 : Int) = r1 ∧ (0 : Int) = r2 ∧ false = r3 := by simpa using h
      refine tried_panics 116 _ _ (fun _ _ => rfl) (Lib.hid fun W hW => ?_)
      obtain ⟨k1, k2, k3⟩ := c0 W hW
      exact WideMul64_1pan a0_0 a0_1 a1 _ _ W hu hlt (by omega) (by omega) ((blk_cell k1 0).trans rfl) ((blk_cell k1 1).trans rfl) ((blk_cell k2 0).trans rfl)
  have HK := Lib.hid key
  clear key h hu
  go_enter Try.func72, Try.ntmps72
  go_wp2_with fail
  refine HK.out.mono ?_
  rintro e w1 ⟨rfl, hb⟩
  have hs := hb.size
  simp only [World.size_alloc] at hs
  have g2 : w1.heap[w.heap.size + 1 + 1]? = some (.cells #[.int .u64 0, .int .u64 0] 24) := (hb.block _ (by simp only [World.size_alloc]; omega)).trans (by
    have := (MapKept.heap_alloc ((w.alloc (.cells #[.int .u64 a0_0, .int .u64 a0_1] 24)).alloc (.cells #[.int .u64 a1] 22)) (.cells #[.int .u64 0, .int .u64 0] 24)).1
    rw [World.size_alloc, World.size_alloc] at this
    exact this)
  have v0 : w1.cell? ⟨w.heap.size + 1 + 1, 0, none⟩ = some (.int .u64 0) := by rw [blk_cell g2]; rfl
  have v1 : w1.cell? ⟨w.heap.size + 1 + 1, 1, none⟩ = some (.int .u64 0) := by rw [blk_cell g2]; rfl
  have z0 : w1.frozen? ⟨w.heap.size + 1 + 1, 0, none⟩ = false := blk_frozen g2 0
  have z1 : w1.frozen? ⟨w.heap.size + 1 + 1, 1, none⟩ = false := blk_frozen g2 1
  have B : Below w.heap.size w w1 := ((((Below.refl w.heap.size w).alloc (Nat.le_refl _) _).alloc (by simp) _).alloc (by simp; omega) _).trans (hb.mono (by simp only [World.size_alloc]; omega))
  have HB := Lib.hid B
  clear hb g2 HK B
  go_wp2
  refine bodyPost_ret (v := .tuple #[.agg #[.int .u64 r1, .int .u64 r2], .bool r3]) (by simp [results, Try.results72, go_sem, v0, v1]) rfl ⟨rfl, (HB.out.setCell (p := ⟨w.heap.size + 1 + 1, 0, none⟩) (by simp; omega) _).setCell (p := ⟨w.heap.size + 1 + 1, 1, none⟩) (by simp; omega) _⟩

/-! ### laws_FnWideMul64: function 21 -/
def laws_FnWideMul64.f (k : Nat) (a0_0 : Int) (a0_1 : Int) (a1 : Int) : Option (Bool) := (laws_wideWhole.f a0_0 a0_1).bind fun t614 => ((laws_wideSmall.f a1).bind fun t617 => ((spec_Product.f k t614 t617).bind fun t620 => ((impl_WideMul64.f a0_0 a0_1 a1).bind fun bt623 => ((spec_Fits.f k t620).bind fun t627 => (if (bt623.2.2 == t627) = true then (if bt623.2.2 = true then ((laws_wideIs.f k bt623.1 bt623.2.1 t620).bind fun t628 => (some t628)) else (some true)) else (some false))))))
theorem laws_FnWideMul64.mono : ∀ a0 a1 a2 k, LeO (laws_FnWideMul64.f k a0 a1 a2) (laws_FnWideMul64.f (k + 1) a0 a1 a2) := by
  intro a0 a1 a2 k
  unfold laws_FnWideMul64.f
  repeat' first
      | (with_reducible exact laws_wideIs.mono _ _ _ _)
      | (with_reducible exact spec_Fits.mono _ _)
      | (with_reducible exact spec_Product.mono _ _ _)
      | (with_reducible exact LeO.refl _)
      | (with_reducible exact LeO.none _)
      | (with_reducible refine LeO.ite ?_ ?_)
      | (with_reducible refine LeO.bind ?_ (fun _ => ?_))
      | exact laws_wideIs.mono _ _ _ _
      | exact spec_Fits.mono _ _
      | exact spec_Product.mono _ _ _
      | exact LeO.none _
      | refine LeO.ite ?_ ?_
      | refine LeO.bind ?_ (fun _ => ?_)
set_option maxHeartbeats 8000000 in
set_option maxRecDepth 100000 in
theorem laws_FnWideMul64.calls (k : Nat) (a0_0 : Int) (a0_1 : Int) (a1 : Int) (r : Bool) (w : World) (h : laws_FnWideMul64.f k a0_0 a0_1 a1 = some r) :
    Calls Try.prog 21 #[.agg #[.int .u64 a0_0, .int .u64 a0_1], .int .u64 a1] w fun e w' => e = .returned (.bool r) ∧ Below w.heap.size w w' := by
  have hu24 := Try.underlying24
  have HB := Aside0.mk (Below.refl w.heap.size w)
  have H : ((laws_wideWhole.f a0_0 a0_1).bind fun t614 => ((laws_wideSmall.f a1).bind fun t617 => ((spec_Product.f k t614 t617).bind fun t620 => ((impl_WideMul64.f a0_0 a0_1 a1).bind fun bt623 => ((spec_Fits.f k t620).bind fun t627 => (if (bt623.2.2 == t627) = true then (if bt623.2.2 = true then ((laws_wideIs.f k bt623.1 bt623.2.1 t620).bind fun t628 => (some t628)) else (some true)) else (some false))))))) = some r := h
  clear h
  replace H := Option.bind_eq_some_iff.mp H
  obtain ⟨t614, A30, H⟩ := H
  replace H : ((laws_wideSmall.f a1).bind fun t617 => ((spec_Product.f k t614 t617).bind fun t620 => ((impl_WideMul64.f a0_0 a0_1 a1).bind fun bt623 => ((spec_Fits.f k t620).bind fun t627 => (if (bt623.2.2 == t627) = true then (if bt623.2.2 = true then ((laws_wideIs.f k bt623.1 bt623.2.1 t620).bind fun t628 => (some t628)) else (some true)) else (some false)))))) = some r := H
  have A3 := Aside0.mk A30
  clear A30
  replace H := Option.bind_eq_some_iff.mp H
  obtain ⟨t617, A40, H⟩ := H
  replace H : ((spec_Product.f k t614 t617).bind fun t620 => ((impl_WideMul64.f a0_0 a0_1 a1).bind fun bt623 => ((spec_Fits.f k t620).bind fun t627 => (if (bt623.2.2 == t627) = true then (if bt623.2.2 = true then ((laws_wideIs.f k bt623.1 bt623.2.1 t620).bind fun t628 => (some t628)) else (some true)) else (some false))))) = some r := H
  have A4 := Aside0.mk A40
  clear A40
  replace H := Option.bind_eq_some_iff.mp H
  obtain ⟨t620, A50, H⟩ := H
  replace H : ((impl_WideMul64.f a0_0 a0_1 a1).bind fun bt623 => ((spec_Fits.f k t620).bind fun t627 => (if (bt623.2.2 == t627) = true then (if bt623.2.2 = true then ((laws_wideIs.f k bt623.1 bt623.2.1 t620).bind fun t628 => (some t628)) else (some true)) else (some false)))) = some r := H
  have A5 := Aside0.mk A50
  clear A50
  replace H := Option.bind_eq_some_iff.mp H
  obtain ⟨⟨t623, t624, t625⟩, A60, H⟩ := H
  replace H : ((spec_Fits.f k t620).bind fun t627 => (if (t625 == t627) = true then (if t625 = true then ((laws_wideIs.f k t623 t624 t620).bind fun t628 => (some t628)) else (some true)) else (some false))) = some r := H
  have A6 := Aside0.mk A60
  clear A60
  replace H := Option.bind_eq_some_iff.mp H
  obtain ⟨t627, A70, H⟩ := H
  replace H : (if (t625 == t627) = true then (if t625 = true then ((laws_wideIs.f k t623 t624 t620).bind fun t628 => (some t628)) else (some true)) else (some false)) = some r := H
  have A7 := Aside0.mk A70
  clear A70
  by_cases c8 : (t625 == t627) = true
  · rw [if_pos c8] at H
    have c8b0 : (t625 == t627) = true := c8
    (try (have c8b1 : decide (t625 = t627) = true := by simpa using c8))
    (try (have c8b2 : (t625 == t627) = true := by simpa using c8))
    clear c8
    by_cases c9 : t625 = true
    · subst c9
      have H1 : ((laws_wideIs.f k t623 t624 t620).bind fun t628 => (some t628)) = some r := by rw [if_pos rfl] at H; exact H
      clear H
      have H := H1
      clear H1
      replace H := Option.bind_eq_some_iff.mp H
      obtain ⟨t628, A100, H⟩ := H
      replace H : (some t628) = some r := H
      have A10 := Aside0.mk A100
      clear A100
      obtain rfl := Option.some.inj H
      go_enter Try.func21, Try.ntmps21
      go_wp2_with (first | ((with_reducible refine gate_dst (N := 2) rfl ?_); refine box_event ?hg (N := 2) ?hd (cs := #[.int .u64 a0_0, .int .u64 a0_1]) (t := 24) ?hr ?_; (case hd => rfl); (case hg => rfl); (case hr => first | (go_simp; done) | (go_simp; rfl)); intro gb613 hg w11 hbox hb; have n0_ := Aside0.mk (below_step (by repeat (first | (with_reducible first | exact HB.out | apply below_alloc | apply pw_below_drewN | apply below_drew1) | exact HB.out)) hb); have n1_ := Aside0.mk (hbox); have n2_ := Aside0.mk ((by rw [hg]; exact (below_size (by repeat (first | (with_reducible first | exact HB.out | apply below_alloc | apply pw_below_drewN | apply below_drew1) | exact HB.out))) : w.heap.size ≤ gb613)); have n3_ := Aside0.mk ((by rw [hg]; exact (below_size (by repeat (first | (with_reducible first | exact HB.out | apply below_alloc | apply pw_below_drewN | apply below_drew1) | exact HB.out))) : w.heap.size ≤ gb613)); clear HB; have HB := n0_; have BK613 := n1_; have GW613 := n2_; have GE613 := n3_; clear n0_ n1_ n2_ n3_; clear hb hbox hg; have hcz12_0 : w11.cell? ⟨gb613, 0, none⟩ = some (.int .u64 a0_0) := (blk_cell BK613.out 0).trans rfl; have hcz12_1 : w11.cell? ⟨gb613, 1, none⟩ = some (.int .u64 a0_1) := (blk_cell BK613.out 1).trans rfl; have hfz12_0 := blk_frozen BK613.out 0; have hfz12_1 := blk_frozen BK613.out 1) | ((with_reducible refine gate_callee (f := 25) rfl ?_); refine goesL_ (some 9) rfl rfl Try.func25 (by kernel_rfl) rfl #[.agg #[.int .u64 a0_0, .int .u64 a0_1]] rfl (by (try simp only [List.map_toArray, List.map_cons, List.map_nil]); first | done | rfl | (simp only [List.length_drop, List.length_take]; rfl)) ?_; (with_reducible refine (laws_wideWhole.calls a0_0 a0_1 t614 _ A3.out).mono ?_); rintro e w13 ⟨v615, rfl, ho0, hb⟩; refine ⟨_, rfl, ?_⟩; have n0_ := Aside0.mk (Kd.V_lower (Kd.V_mono (ok' := fun k_ => k_ ≠ gb613) ho0 (fun k_ hk_ => (Kd.freshB (g := gb613) (o := .cells #[.int .u64 a0_0, .int .u64 a0_1] 24 (0, 0)) (by (with_reducible repeat (first | refine blk_drewN ?_ _ | refine blk_drew ?_ | refine blk_alloc ?_ _)); exact BK613.out) k_ hk_))) (below_size (by repeat (first | (with_reducible first | exact HB.out | apply below_alloc | apply pw_below_drewN | apply below_drew1 | refine below_set ?_ GE613.out) | exact HB.out)))); have n1_ := Aside0.mk (blk_below (g := gb613) (o := .cells #[.int .u64 a0_0, .int .u64 a0_1] 24 (0, 0)) (by (with_reducible repeat (first | refine blk_drewN ?_ _ | refine blk_drew ?_ | refine blk_alloc ?_ _)); exact BK613.out) hb); have n2_ := Aside0.mk (below_step (by repeat (first | (with_reducible first | exact HB.out | apply below_alloc | apply pw_below_drewN | apply below_drew1 | refine below_set ?_ GE613.out) | exact HB.out)) hb); clear BK613; clear HB; have HO616 := n0_; have BK613 := n1_; have HB := n2_; clear n0_ n1_ n2_; (try clear hb); (try clear hb2); (try clear hk); (try clear hi); (try clear ho0)) | ((with_reducible refine gate_callee (f := 31) rfl ?_); refine goesL_ (some 11) rfl rfl Try.func31 (by kernel_rfl) rfl #[.int .u64 a1] rfl (by (try simp only [List.map_toArray, List.map_cons, List.map_nil]); first | done | rfl | (simp only [List.length_drop, List.length_take]; rfl)) ?_; (with_reducible refine (laws_wideSmall.calls a1 t617 _ A4.out).mono ?_); rintro e w14 ⟨v618, rfl, ho0, hb⟩; refine ⟨_, rfl, ?_⟩; have n0_ := Aside0.mk (Kd.V_below (by (with_reducible repeat (first | apply Kd.V_alloc | apply Kd.V_drewN | apply Kd.V_drew)); exact HO616.out) hb); have n1_ := Aside0.mk (Kd.V_lower (Kd.V_mono (ok' := fun k_ => k_ ≠ gb613) ho0 (fun k_ hk_ => (Kd.freshB (g := gb613) (o := .cells #[.int .u64 a0_0, .int .u64 a0_1] 24 (0, 0)) (by (with_reducible repeat (first | refine blk_drewN ?_ _ | refine blk_drew ?_ | refine blk_alloc ?_ _)); exact BK613.out) k_ hk_))) (below_size (by repeat (first | (with_reducible first | exact HB.out | apply below_alloc | apply pw_below_drewN | apply below_drew1 | refine below_set ?_ GE613.out) | exact HB.out)))); have n2_ := Aside0.mk (blk_below (g := gb613) (o := .cells #[.int .u64 a0_0, .int .u64 a0_1] 24 (0, 0)) (by (with_reducible repeat (first | refine blk_drewN ?_ _ | refine blk_drew ?_ | refine blk_alloc ?_ _)); exact BK613.out) hb); have n3_ := Aside0.mk (below_step (by repeat (first | (with_reducible first | exact HB.out | apply below_alloc | apply pw_below_drewN | apply below_drew1 | refine below_set ?_ GE613.out) | exact HB.out)) hb); clear HO616; clear BK613; clear HB; have HO616 := n0_; have HO619 := n1_; have BK613 := n2_; have HB := n3_; clear n0_ n1_ n2_ n3_; (try clear hb); (try clear hb2); (try clear hk); (try clear hi); (try clear ho0); obtain ⟨Ao15, co15, eo15⟩ := Kd.V_slice HO616.out; subst eo15; obtain ⟨Ao16, co16, eo16⟩ := Kd.V_slice HO619.out; subst eo16) | ((with_reducible refine gate_callee (f := 66) rfl ?_); refine goesL_ (some 12) rfl rfl Try.func66 (by kernel_rfl) rfl #[.slice Ao15 t614.length co15, .slice Ao16 t617.length co16] rfl (by (try simp only [List.map_toArray, List.map_cons, List.map_nil]); first | done | rfl | (simp only [List.length_drop, List.length_take]; rfl)) ?_; (with_reducible refine (spec_Product.calls k _ _ t614 _ _ t617 t620 _ ?side1 ?side2 ?side3 ?side4 A5.out).mono ?_); (case side1 => repeat (first | exact (Kd.V_reads' HO616.out).2.2 | (with_reducible refine Kd.C_alloc ?_ _) | (with_reducible refine Kd.C_drewN ?_ _) | (with_reducible refine Kd.C_drew ?_))); (case side2 => exact (Kd.V_reads' HO616.out).2.1); (case side3 => repeat (first | exact (Kd.V_reads' HO619.out).2.2 | (with_reducible refine Kd.C_alloc ?_ _) | (with_reducible refine Kd.C_drewN ?_ _) | (with_reducible refine Kd.C_drew ?_))); (case side4 => exact (Kd.V_reads' HO619.out).2.1); rintro e w17 ⟨v621, rfl, ho0, hb⟩; refine ⟨_, rfl, ?_⟩; have n0_ := Aside0.mk (Kd.V_below (by (with_reducible repeat (first | apply Kd.V_alloc | apply Kd.V_drewN | apply Kd.V_drew)); exact HO616.out) hb); have n1_ := Aside0.mk (Kd.V_below (by (with_reducible repeat (first | apply Kd.V_alloc | apply Kd.V_drewN | apply Kd.V_drew)); exact HO619.out) hb); have n2_ := Aside0.mk (Kd.V_lower (Kd.V_mono (ok' := fun k_ => k_ ≠ gb613) ho0 (fun k_ hk_ => (Kd.freshB (g := gb613) (o := .cells #[.int .u64 a0_0, .int .u64 a0_1] 24 (0, 0)) (by (with_reducible repeat (first | refine blk_drewN ?_ _ | refine blk_drew ?_ | refine blk_alloc ?_ _)); exact BK613.out) k_ hk_))) (below_size (by repeat (first | (with_reducible first | exact HB.out | apply below_alloc | apply pw_below_drewN | apply below_drew1 | refine below_set ?_ GE613.out) | exact HB.out)))); have n3_ := Aside0.mk (blk_below (g := gb613) (o := .cells #[.int .u64 a0_0, .int .u64 a0_1] 24 (0, 0)) (by (with_reducible repeat (first | refine blk_drewN ?_ _ | refine blk_drew ?_ | refine blk_alloc ?_ _)); exact BK613.out) hb); have n4_ := Aside0.mk (below_step (by repeat (first | (with_reducible first | exact HB.out | apply below_alloc | apply pw_below_drewN | apply below_drew1 | refine below_set ?_ GE613.out) | exact HB.out)) hb); clear HO616; clear HO619; clear BK613; clear HB; have HO616 := n0_; have HO619 := n1_; have HO622 := n2_; have BK613 := n3_; have HB := n4_; clear n0_ n1_ n2_ n3_ n4_; (try clear hb); (try clear hb2); (try clear hk); (try clear hi); (try clear ho0); have hcz18_0 : w17.cell? ⟨gb613, 0, none⟩ = some (.int .u64 a0_0) := (blk_cell BK613.out 0).trans rfl; have hcz18_1 : w17.cell? ⟨gb613, 1, none⟩ = some (.int .u64 a0_1) := (blk_cell BK613.out 1).trans rfl; have hfz18_0 := blk_frozen BK613.out 0; have hfz18_1 := blk_frozen BK613.out 1) | ((with_reducible refine gate_callee (f := 72) rfl ?_); refine goesL_ (some 16) rfl rfl Try.func72 (by kernel_rfl) rfl #[.agg #[.int .u64 a0_0, .int .u64 a0_1], .int .u64 a1] rfl (by (try simp only [List.map_toArray, List.map_cons, List.map_nil]); first | done | rfl | (simp only [List.length_drop, List.length_take]; rfl)) ?_; (with_reducible refine (impl_WideMul64.calls a0_0 a0_1 a1 t623 t624 true _ A6.out).mono ?_); rintro e w19 ⟨rfl, hb⟩; refine ⟨_, rfl, ?_⟩; have n0_ := Aside0.mk (Kd.V_below (by (with_reducible repeat (first | apply Kd.V_alloc | apply Kd.V_drewN | apply Kd.V_drew)); exact HO616.out) hb); have n1_ := Aside0.mk (Kd.V_below (by (with_reducible repeat (first | apply Kd.V_alloc | apply Kd.V_drewN | apply Kd.V_drew)); exact HO619.out) hb); have n2_ := Aside0.mk (Kd.V_below (by (with_reducible repeat (first | apply Kd.V_alloc | apply Kd.V_drewN | apply Kd.V_drew)); exact HO622.out) hb); have n3_ := Aside0.mk (blk_below (g := gb613) (o := .cells #[.int .u64 a0_0, .int .u64 a0_1] 24 (0, 0)) (by (with_reducible repeat (first | refine blk_drewN ?_ _ | refine blk_drew ?_ | refine blk_alloc ?_ _)); exact BK613.out) hb); have n4_ := Aside0.mk (below_step (by repeat (first | (with_reducible first | exact HB.out | apply below_alloc | apply pw_below_drewN | apply below_drew1 | refine below_set ?_ GE613.out) | exact HB.out)) hb); clear HO616; clear HO619; clear HO622; clear BK613; clear HB; have HO616 := n0_; have HO619 := n1_; have HO622 := n2_; have BK613 := n3_; have HB := n4_; clear n0_ n1_ n2_ n3_ n4_; (try clear hb); (try clear hb2); (try clear hk); (try clear hi)) | ((with_reducible refine gate_dst (N := 6) rfl ?_); refine box_event ?hg (N := 6) ?hd (cs := #[.int .u64 0, .int .u64 0]) (t := 24) ?hr ?_; (case hd => rfl); (case hg => rfl); (case hr => first | (go_simp; done) | (go_simp; rfl)); intro gb626 hg w20 hbox hb; have n0_ := Aside0.mk (Kd.V_below (Kd.V_elderB (by (with_reducible repeat (first | apply Kd.V_alloc | apply Kd.V_drewN | apply Kd.V_drew)); exact HO616.out) gb626 (Nat.le_of_eq hg.symm)) hb); have n1_ := Aside0.mk (Kd.V_below (Kd.V_elderB (by (with_reducible repeat (first | apply Kd.V_alloc | apply Kd.V_drewN | apply Kd.V_drew)); exact HO619.out) gb626 (Nat.le_of_eq hg.symm)) hb); have n2_ := Aside0.mk (Kd.V_below (Kd.V_elderB (by (with_reducible repeat (first | apply Kd.V_alloc | apply Kd.V_drewN | apply Kd.V_drew)); exact HO622.out) gb626 (Nat.le_of_eq hg.symm)) hb); have n3_ := Aside0.mk (blk_below (g := gb613) (o := .cells #[.int .u64 a0_0, .int .u64 a0_1] 24 (0, 0)) (by (with_reducible repeat (first | refine blk_drewN ?_ _ | refine blk_drew ?_ | refine blk_alloc ?_ _)); exact BK613.out) hb); have n4_ := Aside0.mk (below_step (by repeat (first | (with_reducible first | exact HB.out | apply below_alloc | apply pw_below_drewN | apply below_drew1 | refine below_set ?_ GE613.out) | exact HB.out)) hb); have n5_ := Aside0.mk (hbox); have n6_ := Aside0.mk ((by rw [hg]; exact (below_size (by repeat (first | (with_reducible first | exact HB.out | apply below_alloc | apply pw_below_drewN | apply below_drew1 | refine below_set ?_ GE613.out) | exact HB.out))) : w.heap.size ≤ gb626)); have n7_ := Aside0.mk ((by rw [hg]; exact (below_size (by repeat (first | (with_reducible first | exact HB.out | apply below_alloc | apply pw_below_drewN | apply below_drew1 | refine below_set ?_ GE613.out) | exact HB.out))) : w.heap.size ≤ gb626)); have n8_ := Aside0.mk ((by rw [hg]; exact Nat.ne_of_lt (blk_lt (g := gb613) (o := .cells #[.int .u64 a0_0, .int .u64 a0_1] 24 (0, 0)) (by (with_reducible repeat (first | refine blk_drewN ?_ _ | refine blk_drew ?_ | refine blk_alloc ?_ _)); exact BK613.out)) : gb613 ≠ gb626)); have n9_ := Aside0.mk ((by rw [hg]; exact Nat.ne_of_gt (blk_lt (g := gb613) (o := .cells #[.int .u64 a0_0, .int .u64 a0_1] 24 (0, 0)) (by (with_reducible repeat (first | refine blk_drewN ?_ _ | refine blk_drew ?_ | refine blk_alloc ?_ _)); exact BK613.out)) : gb626 ≠ gb613)); clear HO616; clear HO619; clear HO622; clear BK613; clear HB; have HO616 := n0_; have HO619 := n1_; have HO622 := n2_; have BK613 := n3_; have HB := n4_; have BK626 := n5_; have GW626 := n6_; have GE626 := n7_; have NB613_626 := n8_; have NB626_613 := n9_; clear n0_ n1_ n2_ n3_ n4_ n5_ n6_ n7_ n8_ n9_; clear hb hbox hg; have hnb21 := NB626_613.out; have hnc21 := NB613_626.out; have hcz22_0 : w20.cell? ⟨gb626, 0, none⟩ = some (.int .u64 0) := (blk_cell BK626.out 0).trans rfl; have hcz22_1 : w20.cell? ⟨gb626, 1, none⟩ = some (.int .u64 0) := (blk_cell BK626.out 1).trans rfl; have hfz22_0 := blk_frozen BK626.out 0; have hfz22_1 := blk_frozen BK626.out 1; obtain ⟨Ao23, co23, eo23⟩ := Kd.V_slice HO622.out; subst eo23) | ((with_reducible refine gate_callee (f := 63) rfl ?_); refine goesL_ (some 21) rfl rfl Try.func63 (by kernel_rfl) rfl #[.slice Ao23 t620.length co23] rfl (by (try simp only [List.map_toArray, List.map_cons, List.map_nil]); first | done | rfl | (simp only [List.length_drop, List.length_take]; rfl)) ?_; (with_reducible refine (spec_Fits.calls k _ _ t620 t627 _ ?side1 ?side2 A7.out).mono ?_); (case side1 => refine (Kd.V_reads' (e := 3) (base := w.heap.size) (ok := fun k_ => (k_ ≠ gb613 ∧ k_ ≠ gb626)) (n := t620.length) (c := co23) ?_).2.2; exact (by (with_reducible repeat (first | apply Kd.V_alloc | apply Kd.V_drewN | apply Kd.V_drew)); exact (Kd.V_mono (Kd.V_far (p := ⟨gb626, 1, none⟩) (Kd.V_far (p := ⟨gb626, 0, none⟩) (Kd.V_mono HO622.out (fun k_ hk => (⟨hk, hk.2⟩ : _ ∧ k_ ≠ gb626))) (fun _ hk => hk.2) (.int .u64 t623)) (fun _ hk => hk.2) (.int .u64 t624)) (fun _ h_ => h_.1)))); (case side2 => exact (Kd.V_reads' HO622.out).2.1); rintro e w' ⟨rfl, ⟨nd, rfl⟩⟩; refine ⟨_, rfl, ?_⟩) | (go_at_call 27; (with_reducible refine (laws_wideIs.calls k t623 t624 _ _ t620 t628 _ ?side1 ?side2 A10.out).mono ?_); (case side1 => refine (Kd.V_reads' (e := 3) (base := w.heap.size) (ok := fun k_ => (k_ ≠ gb613 ∧ k_ ≠ gb626)) (n := t620.length) (c := co23) ?_).2.2; exact (by (with_reducible repeat (first | apply Kd.V_alloc | apply Kd.V_drewN | apply Kd.V_drew)); exact (Kd.V_mono (Kd.V_far (p := ⟨gb626, 1, none⟩) (Kd.V_far (p := ⟨gb626, 0, none⟩) (Kd.V_mono HO622.out (fun k_ hk => (⟨hk, hk.2⟩ : _ ∧ k_ ≠ gb626))) (fun _ hk => hk.2) (.int .u64 t623)) (fun _ hk => hk.2) (.int .u64 t624)) (fun _ h_ => h_.1)))); (case side2 => exact (Kd.V_reads' HO622.out).2.1); rintro e w24 ⟨rfl, hb⟩; have n0_ := Aside0.mk (Kd.V_below (by (with_reducible repeat (first | apply Kd.V_alloc | apply Kd.V_drewN | apply Kd.V_drew)); exact (Kd.V_mono (Kd.V_far (p := ⟨gb626, 1, none⟩) (Kd.V_far (p := ⟨gb626, 0, none⟩) (Kd.V_mono HO616.out (fun k_ hk => (⟨hk, hk.2⟩ : _ ∧ k_ ≠ gb626))) (fun _ hk => hk.2) (.int .u64 t623)) (fun _ hk => hk.2) (.int .u64 t624)) (fun _ h_ => h_.1))) hb); have n1_ := Aside0.mk (Kd.V_below (by (with_reducible repeat (first | apply Kd.V_alloc | apply Kd.V_drewN | apply Kd.V_drew)); exact (Kd.V_mono (Kd.V_far (p := ⟨gb626, 1, none⟩) (Kd.V_far (p := ⟨gb626, 0, none⟩) (Kd.V_mono HO619.out (fun k_ hk => (⟨hk, hk.2⟩ : _ ∧ k_ ≠ gb626))) (fun _ hk => hk.2) (.int .u64 t623)) (fun _ hk => hk.2) (.int .u64 t624)) (fun _ h_ => h_.1))) hb); have n2_ := Aside0.mk (Kd.V_below (by (with_reducible repeat (first | apply Kd.V_alloc | apply Kd.V_drewN | apply Kd.V_drew)); exact (Kd.V_mono (Kd.V_far (p := ⟨gb626, 1, none⟩) (Kd.V_far (p := ⟨gb626, 0, none⟩) (Kd.V_mono HO622.out (fun k_ hk => (⟨hk, hk.2⟩ : _ ∧ k_ ≠ gb626))) (fun _ hk => hk.2) (.int .u64 t623)) (fun _ hk => hk.2) (.int .u64 t624)) (fun _ h_ => h_.1))) hb); have n3_ := Aside0.mk (blk_below (g := gb613) (o := .cells #[.int .u64 a0_0, .int .u64 a0_1] 24 (0, 0)) (by (with_reducible repeat (first | refine blk_drewN ?_ _ | refine blk_drew ?_ | refine blk_alloc ?_ _)); refine blk_far ?_ NB613_626.out _; (with_reducible repeat (first | refine blk_drewN ?_ _ | refine blk_drew ?_ | refine blk_alloc ?_ _)); refine blk_far ?_ NB613_626.out _; (with_reducible repeat (first | refine blk_drewN ?_ _ | refine blk_drew ?_ | refine blk_alloc ?_ _)); exact BK613.out) hb); have n4_ := Aside0.mk (blk_below (g := gb626) (o := .cells #[.int .u64 t623, .int .u64 t624] 24 (0, 0)) (by (with_reducible repeat (first | refine blk_drewN ?_ _ | refine blk_drew ?_ | refine blk_alloc ?_ _)); refine blk_put (cs := #[.int .u64 t623, .int .u64 0]) ?_ 1 _ rfl; (with_reducible repeat (first | refine blk_drewN ?_ _ | refine blk_drew ?_ | refine blk_alloc ?_ _)); refine blk_put (cs := #[.int .u64 0, .int .u64 0]) ?_ 0 _ rfl; (with_reducible repeat (first | refine blk_drewN ?_ _ | refine blk_drew ?_ | refine blk_alloc ?_ _)); exact BK626.out) hb); have n5_ := Aside0.mk (below_step (by repeat (first | (with_reducible first | exact HB.out | apply below_alloc | apply pw_below_drewN | apply below_drew1 | refine below_set ?_ GE613.out | refine below_set ?_ GE626.out) | exact HB.out)) hb); clear HO616; clear HO619; clear HO622; clear BK613; clear BK626; clear HB; have HO616 := n0_; have HO619 := n1_; have HO622 := n2_; have BK613 := n3_; have BK626 := n4_; have HB := n5_; clear n0_ n1_ n2_ n3_ n4_ n5_; (try clear hb); (try clear hb2); (try clear hk); (try clear hi)))
      go_ret
      exact ⟨by first | rfl | (simp [errW_none, errW_some] <;> rfl) | (simp [*, errW_none, errW_some] <;> rfl), by repeat (first | (with_reducible first | exact HB.out | apply below_alloc | apply pw_below_drewN | apply below_drew1 | refine below_set ?_ GE613.out | refine below_set ?_ GE626.out) | exact HB.out)⟩
    · replace c9 := Bool.eq_false_iff.mpr c9
      subst c9
      have H1 : (some true) = some r := by rw [if_neg (show ¬ (false = true) by decide)] at H; exact H
      clear H
      have H := H1
      clear H1
      obtain rfl := Option.some.inj H
      go_enter Try.func21, Try.ntmps21
      go_wp2_with (first | ((with_reducible refine gate_dst (N := 2) rfl ?_); refine box_event ?hg (N := 2) ?hd (cs := #[.int .u64 a0_0, .int .u64 a0_1]) (t := 24) ?hr ?_; (case hd => rfl); (case hg => rfl); (case hr => first | (go_simp; done) | (go_simp; rfl)); intro gb613 hg w25 hbox hb; have n0_ := Aside0.mk (below_step (by repeat (first | (with_reducible first | exact HB.out | apply below_alloc | apply pw_below_drewN | apply below_drew1) | exact HB.out)) hb); have n1_ := Aside0.mk (hbox); have n2_ := Aside0.mk ((by rw [hg]; exact (below_size (by repeat (first | (with_reducible first | exact HB.out | apply below_alloc | apply pw_below_drewN | apply below_drew1) | exact HB.out))) : w.heap.size ≤ gb613)); have n3_ := Aside0.mk ((by rw [hg]; exact (below_size (by repeat (first | (with_reducible first | exact HB.out | apply below_alloc | apply pw_below_drewN | apply below_drew1) | exact HB.out))) : w.heap.size ≤ gb613)); clear HB; have HB := n0_; have BK613 := n1_; have GW613 := n2_; have GE613 := n3_; clear n0_ n1_ n2_ n3_; clear hb hbox hg; have hcz26_0 : w25.cell? ⟨gb613, 0, none⟩ = some (.int .u64 a0_0) := (blk_cell BK613.out 0).trans rfl; have hcz26_1 : w25.cell? ⟨gb613, 1, none⟩ = some (.int .u64 a0_1) := (blk_cell BK613.out 1).trans rfl; have hfz26_0 := blk_frozen BK613.out 0; have hfz26_1 := blk_frozen BK613.out 1) | ((with_reducible refine gate_callee (f := 25) rfl ?_); refine goesL_ (some 9) rfl rfl Try.func25 (by kernel_rfl) rfl #[.agg #[.int .u64 a0_0, .int .u64 a0_1]] rfl (by (try simp only [List.map_toArray, List.map_cons, List.map_nil]); first | done | rfl | (simp only [List.length_drop, List.length_take]; rfl)) ?_; (with_reducible refine (laws_wideWhole.calls a0_0 a0_1 t614 _ A3.out).mono ?_); rintro e w27 ⟨v615, rfl, ho0, hb⟩; refine ⟨_, rfl, ?_⟩; have n0_ := Aside0.mk (Kd.V_lower (Kd.V_mono (ok' := fun k_ => k_ ≠ gb613) ho0 (fun k_ hk_ => (Kd.freshB (g := gb613) (o := .cells #[.int .u64 a0_0, .int .u64 a0_1] 24 (0, 0)) (by (with_reducible repeat (first | refine blk_drewN ?_ _ | refine blk_drew ?_ | refine blk_alloc ?_ _)); exact BK613.out) k_ hk_))) (below_size (by repeat (first | (with_reducible first | exact HB.out | apply below_alloc | apply pw_below_drewN | apply below_drew1 | refine below_set ?_ GE613.out) | exact HB.out)))); have n1_ := Aside0.mk (blk_below (g := gb613) (o := .cells #[.int .u64 a0_0, .int .u64 a0_1] 24 (0, 0)) (by (with_reducible repeat (first | refine blk_drewN ?_ _ | refine blk_drew ?_ | refine blk_alloc ?_ _)); exact BK613.out) hb); have n2_ := Aside0.mk (below_step (by repeat (first | (with_reducible first | exact HB.out | apply below_alloc | apply pw_below_drewN | apply below_drew1 | refine below_set ?_ GE613.out) | exact HB.out)) hb); clear BK613; clear HB; have HO616 := n0_; have BK613 := n1_; have HB := n2_; clear n0_ n1_ n2_; (try clear hb); (try clear hb2); (try clear hk); (try clear hi); (try clear ho0)) | ((with_reducible refine gate_callee (f := 31) rfl ?_); refine goesL_ (some 11) rfl rfl Try.func31 (by kernel_rfl) rfl #[.int .u64 a1] rfl (by (try simp only [List.map_toArray, List.map_cons, List.map_nil]); first | done | rfl | (simp only [List.length_drop, List.length_take]; rfl)) ?_; (with_reducible refine (laws_wideSmall.calls a1 t617 _ A4.out).mono ?_); rintro e w28 ⟨v618, rfl, ho0, hb⟩; refine ⟨_, rfl, ?_⟩; have n0_ := Aside0.mk (Kd.V_below (by (with_reducible repeat (first | apply Kd.V_alloc | apply Kd.V_drewN | apply Kd.V_drew)); exact HO616.out) hb); have n1_ := Aside0.mk (Kd.V_lower (Kd.V_mono (ok' := fun k_ => k_ ≠ gb613) ho0 (fun k_ hk_ => (Kd.freshB (g := gb613) (o := .cells #[.int .u64 a0_0, .int .u64 a0_1] 24 (0, 0)) (by (with_reducible repeat (first | refine blk_drewN ?_ _ | refine blk_drew ?_ | refine blk_alloc ?_ _)); exact BK613.out) k_ hk_))) (below_size (by repeat (first | (with_reducible first | exact HB.out | apply below_alloc | apply pw_below_drewN | apply below_drew1 | refine below_set ?_ GE613.out) | exact HB.out)))); have n2_ := Aside0.mk (blk_below (g := gb613) (o := .cells #[.int .u64 a0_0, .int .u64 a0_1] 24 (0, 0)) (by (with_reducible repeat (first | refine blk_drewN ?_ _ | refine blk_drew ?_ | refine blk_alloc ?_ _)); exact BK613.out) hb); have n3_ := Aside0.mk (below_step (by repeat (first | (with_reducible first | exact HB.out | apply below_alloc | apply pw_below_drewN | apply below_drew1 | refine below_set ?_ GE613.out) | exact HB.out)) hb); clear HO616; clear BK613; clear HB; have HO616 := n0_; have HO619 := n1_; have BK613 := n2_; have HB := n3_; clear n0_ n1_ n2_ n3_; (try clear hb); (try clear hb2); (try clear hk); (try clear hi); (try clear ho0); obtain ⟨Ao29, co29, eo29⟩ := Kd.V_slice HO616.out; subst eo29; obtain ⟨Ao30, co30, eo30⟩ := Kd.V_slice HO619.out; subst eo30) | ((with_reducible refine gate_callee (f := 66) rfl ?_); refine goesL_ (some 12) rfl rfl Try.func66 (by kernel_rfl) rfl #[.slice Ao29 t614.length co29, .slice Ao30 t617.length co30] rfl (by (try simp only [List.map_toArray, List.map_cons, List.map_nil]); first | done | rfl | (simp only [List.length_drop, List.length_take]; rfl)) ?_; (with_reducible refine (spec_Product.calls k _ _ t614 _ _ t617 t620 _ ?side1 ?side2 ?side3 ?side4 A5.out).mono ?_); (case side1 => repeat (first | exact (Kd.V_reads' HO616.out).2.2 | (with_reducible refine Kd.C_alloc ?_ _) | (with_reducible refine Kd.C_drewN ?_ _) | (with_reducible refine Kd.C_drew ?_))); (case side2 => exact (Kd.V_reads' HO616.out).2.1); (case side3 => repeat (first | exact (Kd.V_reads' HO619.out).2.2 | (with_reducible refine Kd.C_alloc ?_ _) | (with_reducible refine Kd.C_drewN ?_ _) | (with_reducible refine Kd.C_drew ?_))); (case side4 => exact (Kd.V_reads' HO619.out).2.1); rintro e w31 ⟨v621, rfl, ho0, hb⟩; refine ⟨_, rfl, ?_⟩; have n0_ := Aside0.mk (Kd.V_below (by (with_reducible repeat (first | apply Kd.V_alloc | apply Kd.V_drewN | apply Kd.V_drew)); exact HO616.out) hb); have n1_ := Aside0.mk (Kd.V_below (by (with_reducible repeat (first | apply Kd.V_alloc | apply Kd.V_drewN | apply Kd.V_drew)); exact HO619.out) hb); have n2_ := Aside0.mk (Kd.V_lower (Kd.V_mono (ok' := fun k_ => k_ ≠ gb613) ho0 (fun k_ hk_ => (Kd.freshB (g := gb613) (o := .cells #[.int .u64 a0_0, .int .u64 a0_1] 24 (0, 0)) (by (with_reducible repeat (first | refine blk_drewN ?_ _ | refine blk_drew ?_ | refine blk_alloc ?_ _)); exact BK613.out) k_ hk_))) (below_size (by repeat (first | (with_reducible first | exact HB.out | apply below_alloc | apply pw_below_drewN | apply below_drew1 | refine below_set ?_ GE613.out) | exact HB.out)))); have n3_ := Aside0.mk (blk_below (g := gb613) (o := .cells #[.int .u64 a0_0, .int .u64 a0_1] 24 (0, 0)) (by (with_reducible repeat (first | refine blk_drewN ?_ _ | refine blk_drew ?_ | refine blk_alloc ?_ _)); exact BK613.out) hb); have n4_ := Aside0.mk (below_step (by repeat (first | (with_reducible first | exact HB.out | apply below_alloc | apply pw_below_drewN | apply below_drew1 | refine below_set ?_ GE613.out) | exact HB.out)) hb); clear HO616; clear HO619; clear BK613; clear HB; have HO616 := n0_; have HO619 := n1_; have HO622 := n2_; have BK613 := n3_; have HB := n4_; clear n0_ n1_ n2_ n3_ n4_; (try clear hb); (try clear hb2); (try clear hk); (try clear hi); (try clear ho0); have hcz32_0 : w31.cell? ⟨gb613, 0, none⟩ = some (.int .u64 a0_0) := (blk_cell BK613.out 0).trans rfl; have hcz32_1 : w31.cell? ⟨gb613, 1, none⟩ = some (.int .u64 a0_1) := (blk_cell BK613.out 1).trans rfl; have hfz32_0 := blk_frozen BK613.out 0; have hfz32_1 := blk_frozen BK613.out 1) | ((with_reducible refine gate_callee (f := 72) rfl ?_); refine goesL_ (some 16) rfl rfl Try.func72 (by kernel_rfl) rfl #[.agg #[.int .u64 a0_0, .int .u64 a0_1], .int .u64 a1] rfl (by (try simp only [List.map_toArray, List.map_cons, List.map_nil]); first | done | rfl | (simp only [List.length_drop, List.length_take]; rfl)) ?_; (with_reducible refine (impl_WideMul64.calls a0_0 a0_1 a1 t623 t624 false _ A6.out).mono ?_); rintro e w33 ⟨rfl, hb⟩; refine ⟨_, rfl, ?_⟩; have n0_ := Aside0.mk (Kd.V_below (by (with_reducible repeat (first | apply Kd.V_alloc | apply Kd.V_drewN | apply Kd.V_drew)); exact HO616.out) hb); have n1_ := Aside0.mk (Kd.V_below (by (with_reducible repeat (first | apply Kd.V_alloc | apply Kd.V_drewN | apply Kd.V_drew)); exact HO619.out) hb); have n2_ := Aside0.mk (Kd.V_below (by (with_reducible repeat (first | apply Kd.V_alloc | apply Kd.V_drewN | apply Kd.V_drew)); exact HO622.out) hb); have n3_ := Aside0.mk (blk_below (g := gb613) (o := .cells #[.int .u64 a0_0, .int .u64 a0_1] 24 (0, 0)) (by (with_reducible repeat (first | refine blk_drewN ?_ _ | refine blk_drew ?_ | refine blk_alloc ?_ _)); exact BK613.out) hb); have n4_ := Aside0.mk (below_step (by repeat (first | (with_reducible first | exact HB.out | apply below_alloc | apply pw_below_drewN | apply below_drew1 | refine below_set ?_ GE613.out) | exact HB.out)) hb); clear HO616; clear HO619; clear HO622; clear BK613; clear HB; have HO616 := n0_; have HO619 := n1_; have HO622 := n2_; have BK613 := n3_; have HB := n4_; clear n0_ n1_ n2_ n3_ n4_; (try clear hb); (try clear hb2); (try clear hk); (try clear hi)) | ((with_reducible refine gate_dst (N := 6) rfl ?_); refine box_event ?hg (N := 6) ?hd (cs := #[.int .u64 0, .int .u64 0]) (t := 24) ?hr ?_; (case hd => rfl); (case hg => rfl); (case hr => first | (go_simp; done) | (go_simp; rfl)); intro gb626 hg w34 hbox hb; have n0_ := Aside0.mk (Kd.V_below (Kd.V_elderB (by (with_reducible repeat (first | apply Kd.V_alloc | apply Kd.V_drewN | apply Kd.V_drew)); exact HO616.out) gb626 (Nat.le_of_eq hg.symm)) hb); have n1_ := Aside0.mk (Kd.V_below (Kd.V_elderB (by (with_reducible repeat (first | apply Kd.V_alloc | apply Kd.V_drewN | apply Kd.V_drew)); exact HO619.out) gb626 (Nat.le_of_eq hg.symm)) hb); have n2_ := Aside0.mk (Kd.V_below (Kd.V_elderB (by (with_reducible repeat (first | apply Kd.V_alloc | apply Kd.V_drewN | apply Kd.V_drew)); exact HO622.out) gb626 (Nat.le_of_eq hg.symm)) hb); have n3_ := Aside0.mk (blk_below (g := gb613) (o := .cells #[.int .u64 a0_0, .int .u64 a0_1] 24 (0, 0)) (by (with_reducible repeat (first | refine blk_drewN ?_ _ | refine blk_drew ?_ | refine blk_alloc ?_ _)); exact BK613.out) hb); have n4_ := Aside0.mk (below_step (by repeat (first | (with_reducible first | exact HB.out | apply below_alloc | apply pw_below_drewN | apply below_drew1 | refine below_set ?_ GE613.out) | exact HB.out)) hb); have n5_ := Aside0.mk (hbox); have n6_ := Aside0.mk ((by rw [hg]; exact (below_size (by repeat (first | (with_reducible first | exact HB.out | apply below_alloc | apply pw_below_drewN | apply below_drew1 | refine below_set ?_ GE613.out) | exact HB.out))) : w.heap.size ≤ gb626)); have n7_ := Aside0.mk ((by rw [hg]; exact (below_size (by repeat (first | (with_reducible first | exact HB.out | apply below_alloc | apply pw_below_drewN | apply below_drew1 | refine below_set ?_ GE613.out) | exact HB.out))) : w.heap.size ≤ gb626)); have n8_ := Aside0.mk ((by rw [hg]; exact Nat.ne_of_lt (blk_lt (g := gb613) (o := .cells #[.int .u64 a0_0, .int .u64 a0_1] 24 (0, 0)) (by (with_reducible repeat (first | refine blk_drewN ?_ _ | refine blk_drew ?_ | refine blk_alloc ?_ _)); exact BK613.out)) : gb613 ≠ gb626)); have n9_ := Aside0.mk ((by rw [hg]; exact Nat.ne_of_gt (blk_lt (g := gb613) (o := .cells #[.int .u64 a0_0, .int .u64 a0_1] 24 (0, 0)) (by (with_reducible repeat (first | refine blk_drewN ?_ _ | refine blk_drew ?_ | refine blk_alloc ?_ _)); exact BK613.out)) : gb626 ≠ gb613)); clear HO616; clear HO619; clear HO622; clear BK613; clear HB; have HO616 := n0_; have HO619 := n1_; have HO622 := n2_; have BK613 := n3_; have HB := n4_; have BK626 := n5_; have GW626 := n6_; have GE626 := n7_; have NB613_626 := n8_; have NB626_613 := n9_; clear n0_ n1_ n2_ n3_ n4_ n5_ n6_ n7_ n8_ n9_; clear hb hbox hg; have hnb35 := NB626_613.out; have hnc35 := NB613_626.out; have hcz36_0 : w34.cell? ⟨gb626, 0, none⟩ = some (.int .u64 0) := (blk_cell BK626.out 0).trans rfl; have hcz36_1 : w34.cell? ⟨gb626, 1, none⟩ = some (.int .u64 0) := (blk_cell BK626.out 1).trans rfl; have hfz36_0 := blk_frozen BK626.out 0; have hfz36_1 := blk_frozen BK626.out 1; obtain ⟨Ao37, co37, eo37⟩ := Kd.V_slice HO622.out; subst eo37) | ((with_reducible refine gate_callee (f := 63) rfl ?_); refine goesL_ (some 21) rfl rfl Try.func63 (by kernel_rfl) rfl #[.slice Ao37 t620.length co37] rfl (by (try simp only [List.map_toArray, List.map_cons, List.map_nil]); first | done | rfl | (simp only [List.length_drop, List.length_take]; rfl)) ?_; (with_reducible refine (spec_Fits.calls k _ _ t620 t627 _ ?side1 ?side2 A7.out).mono ?_); (case side1 => refine (Kd.V_reads' (e := 3) (base := w.heap.size) (ok := fun k_ => (k_ ≠ gb613 ∧ k_ ≠ gb626)) (n := t620.length) (c := co37) ?_).2.2; exact (by (with_reducible repeat (first | apply Kd.V_alloc | apply Kd.V_drewN | apply Kd.V_drew)); exact (Kd.V_mono (Kd.V_far (p := ⟨gb626, 1, none⟩) (Kd.V_far (p := ⟨gb626, 0, none⟩) (Kd.V_mono HO622.out (fun k_ hk => (⟨hk, hk.2⟩ : _ ∧ k_ ≠ gb626))) (fun _ hk => hk.2) (.int .u64 t623)) (fun _ hk => hk.2) (.int .u64 t624)) (fun _ h_ => h_.1)))); (case side2 => exact (Kd.V_reads' HO622.out).2.1); rintro e w' ⟨rfl, ⟨nd, rfl⟩⟩; refine ⟨_, rfl, ?_⟩))
      go_ret
      exact ⟨by first | rfl | (simp [errW_none, errW_some] <;> rfl) | (simp [*, errW_none, errW_some] <;> rfl), by repeat (first | (with_reducible first | exact HB.out | apply below_alloc | apply pw_below_drewN | apply below_drew1 | refine below_set ?_ GE613.out | refine below_set ?_ GE626.out) | exact HB.out)⟩
  · rw [if_neg c8] at H
    have c8b0 : (t625 == t627) = false := by simpa using c8
    (try (have c8b1 : decide (t625 = t627) = false := by simpa using c8))
    (try (have c8b2 : (t625 == t627) = false := by simpa using c8))
    (try (have c8b3 : ¬ (t625 = t627) := by simpa using c8))
    clear c8
    obtain rfl := Option.some.inj H
    go_enter Try.func21, Try.ntmps21
    go_wp2_with (first | ((with_reducible refine gate_dst (N := 2) rfl ?_); refine box_event ?hg (N := 2) ?hd (cs := #[.int .u64 a0_0, .int .u64 a0_1]) (t := 24) ?hr ?_; (case hd => rfl); (case hg => rfl); (case hr => first | (go_simp; done) | (go_simp; rfl)); intro gb613 hg w38 hbox hb; have n0_ := Aside0.mk (below_step (by repeat (first | (with_reducible first | exact HB.out | apply below_alloc | apply pw_below_drewN | apply below_drew1) | exact HB.out)) hb); have n1_ := Aside0.mk (hbox); have n2_ := Aside0.mk ((by rw [hg]; exact (below_size (by repeat (first | (with_reducible first | exact HB.out | apply below_alloc | apply pw_below_drewN | apply below_drew1) | exact HB.out))) : w.heap.size ≤ gb613)); have n3_ := Aside0.mk ((by rw [hg]; exact (below_size (by repeat (first | (with_reducible first | exact HB.out | apply below_alloc | apply pw_below_drewN | apply below_drew1) | exact HB.out))) : w.heap.size ≤ gb613)); clear HB; have HB := n0_; have BK613 := n1_; have GW613 := n2_; have GE613 := n3_; clear n0_ n1_ n2_ n3_; clear hb hbox hg; have hcz39_0 : w38.cell? ⟨gb613, 0, none⟩ = some (.int .u64 a0_0) := (blk_cell BK613.out 0).trans rfl; have hcz39_1 : w38.cell? ⟨gb613, 1, none⟩ = some (.int .u64 a0_1) := (blk_cell BK613.out 1).trans rfl; have hfz39_0 := blk_frozen BK613.out 0; have hfz39_1 := blk_frozen BK613.out 1) | ((with_reducible refine gate_callee (f := 25) rfl ?_); refine goesL_ (some 9) rfl rfl Try.func25 (by kernel_rfl) rfl #[.agg #[.int .u64 a0_0, .int .u64 a0_1]] rfl (by (try simp only [List.map_toArray, List.map_cons, List.map_nil]); first | done | rfl | (simp only [List.length_drop, List.length_take]; rfl)) ?_; (with_reducible refine (laws_wideWhole.calls a0_0 a0_1 t614 _ A3.out).mono ?_); rintro e w40 ⟨v615, rfl, ho0, hb⟩; refine ⟨_, rfl, ?_⟩; have n0_ := Aside0.mk (Kd.V_lower (Kd.V_mono (ok' := fun k_ => k_ ≠ gb613) ho0 (fun k_ hk_ => (Kd.freshB (g := gb613) (o := .cells #[.int .u64 a0_0, .int .u64 a0_1] 24 (0, 0)) (by (with_reducible repeat (first | refine blk_drewN ?_ _ | refine blk_drew ?_ | refine blk_alloc ?_ _)); exact BK613.out) k_ hk_))) (below_size (by repeat (first | (with_reducible first | exact HB.out | apply below_alloc | apply pw_below_drewN | apply below_drew1 | refine below_set ?_ GE613.out) | exact HB.out)))); have n1_ := Aside0.mk (blk_below (g := gb613) (o := .cells #[.int .u64 a0_0, .int .u64 a0_1] 24 (0, 0)) (by (with_reducible repeat (first | refine blk_drewN ?_ _ | refine blk_drew ?_ | refine blk_alloc ?_ _)); exact BK613.out) hb); have n2_ := Aside0.mk (below_step (by repeat (first | (with_reducible first | exact HB.out | apply below_alloc | apply pw_below_drewN | apply below_drew1 | refine below_set ?_ GE613.out) | exact HB.out)) hb); clear BK613; clear HB; have HO616 := n0_; have BK613 := n1_; have HB := n2_; clear n0_ n1_ n2_; (try clear hb); (try clear hb2); (try clear hk); (try clear hi); (try clear ho0)) | ((with_reducible refine gate_callee (f := 31) rfl ?_); refine goesL_ (some 11) rfl rfl Try.func31 (by kernel_rfl) rfl #[.int .u64 a1] rfl (by (try simp only [List.map_toArray, List.map_cons, List.map_nil]); first | done | rfl | (simp only [List.length_drop, List.length_take]; rfl)) ?_; (with_reducible refine (laws_wideSmall.calls a1 t617 _ A4.out).mono ?_); rintro e w41 ⟨v618, rfl, ho0, hb⟩; refine ⟨_, rfl, ?_⟩; have n0_ := Aside0.mk (Kd.V_below (by (with_reducible repeat (first | apply Kd.V_alloc | apply Kd.V_drewN | apply Kd.V_drew)); exact HO616.out) hb); have n1_ := Aside0.mk (Kd.V_lower (Kd.V_mono (ok' := fun k_ => k_ ≠ gb613) ho0 (fun k_ hk_ => (Kd.freshB (g := gb613) (o := .cells #[.int .u64 a0_0, .int .u64 a0_1] 24 (0, 0)) (by (with_reducible repeat (first | refine blk_drewN ?_ _ | refine blk_drew ?_ | refine blk_alloc ?_ _)); exact BK613.out) k_ hk_))) (below_size (by repeat (first | (with_reducible first | exact HB.out | apply below_alloc | apply pw_below_drewN | apply below_drew1 | refine below_set ?_ GE613.out) | exact HB.out)))); have n2_ := Aside0.mk (blk_below (g := gb613) (o := .cells #[.int .u64 a0_0, .int .u64 a0_1] 24 (0, 0)) (by (with_reducible repeat (first | refine blk_drewN ?_ _ | refine blk_drew ?_ | refine blk_alloc ?_ _)); exact BK613.out) hb); have n3_ := Aside0.mk (below_step (by repeat (first | (with_reducible first | exact HB.out | apply below_alloc | apply pw_below_drewN | apply below_drew1 | refine below_set ?_ GE613.out) | exact HB.out)) hb); clear HO616; clear BK613; clear HB; have HO616 := n0_; have HO619 := n1_; have BK613 := n2_; have HB := n3_; clear n0_ n1_ n2_ n3_; (try clear hb); (try clear hb2); (try clear hk); (try clear hi); (try clear ho0); obtain ⟨Ao42, co42, eo42⟩ := Kd.V_slice HO616.out; subst eo42; obtain ⟨Ao43, co43, eo43⟩ := Kd.V_slice HO619.out; subst eo43) | ((with_reducible refine gate_callee (f := 66) rfl ?_); refine goesL_ (some 12) rfl rfl Try.func66 (by kernel_rfl) rfl #[.slice Ao42 t614.length co42, .slice Ao43 t617.length co43] rfl (by (try simp only [List.map_toArray, List.map_cons, List.map_nil]); first | done | rfl | (simp only [List.length_drop, List.length_take]; rfl)) ?_; (with_reducible refine (spec_Product.calls k _ _ t614 _ _ t617 t620 _ ?side1 ?side2 ?side3 ?side4 A5.out).mono ?_); (case side1 => repeat (first | exact (Kd.V_reads' HO616.out).2.2 | (with_reducible refine Kd.C_alloc ?_ _) | (with_reducible refine Kd.C_drewN ?_ _) | (with_reducible refine Kd.C_drew ?_))); (case side2 => exact (Kd.V_reads' HO616.out).2.1); (case side3 => repeat (first | exact (Kd.V_reads' HO619.out).2.2 | (with_reducible refine Kd.C_alloc ?_ _) | (with_reducible refine Kd.C_drewN ?_ _) | (with_reducible refine Kd.C_drew ?_))); (case side4 => exact (Kd.V_reads' HO619.out).2.1); rintro e w44 ⟨v621, rfl, ho0, hb⟩; refine ⟨_, rfl, ?_⟩; have n0_ := Aside0.mk (Kd.V_below (by (with_reducible repeat (first | apply Kd.V_alloc | apply Kd.V_drewN | apply Kd.V_drew)); exact HO616.out) hb); have n1_ := Aside0.mk (Kd.V_below (by (with_reducible repeat (first | apply Kd.V_alloc | apply Kd.V_drewN | apply Kd.V_drew)); exact HO619.out) hb); have n2_ := Aside0.mk (Kd.V_lower (Kd.V_mono (ok' := fun k_ => k_ ≠ gb613) ho0 (fun k_ hk_ => (Kd.freshB (g := gb613) (o := .cells #[.int .u64 a0_0, .int .u64 a0_1] 24 (0, 0)) (by (with_reducible repeat (first | refine blk_drewN ?_ _ | refine blk_drew ?_ | refine blk_alloc ?_ _)); exact BK613.out) k_ hk_))) (below_size (by repeat (first | (with_reducible first | exact HB.out | apply below_alloc | apply pw_below_drewN | apply below_drew1 | refine below_set ?_ GE613.out) | exact HB.out)))); have n3_ := Aside0.mk (blk_below (g := gb613) (o := .cells #[.int .u64 a0_0, .int .u64 a0_1] 24 (0, 0)) (by (with_reducible repeat (first | refine blk_drewN ?_ _ | refine blk_drew ?_ | refine blk_alloc ?_ _)); exact BK613.out) hb); have n4_ := Aside0.mk (below_step (by repeat (first | (with_reducible first | exact HB.out | apply below_alloc | apply pw_below_drewN | apply below_drew1 | refine below_set ?_ GE613.out) | exact HB.out)) hb); clear HO616; clear HO619; clear BK613; clear HB; have HO616 := n0_; have HO619 := n1_; have HO622 := n2_; have BK613 := n3_; have HB := n4_; clear n0_ n1_ n2_ n3_ n4_; (try clear hb); (try clear hb2); (try clear hk); (try clear hi); (try clear ho0); have hcz45_0 : w44.cell? ⟨gb613, 0, none⟩ = some (.int .u64 a0_0) := (blk_cell BK613.out 0).trans rfl; have hcz45_1 : w44.cell? ⟨gb613, 1, none⟩ = some (.int .u64 a0_1) := (blk_cell BK613.out 1).trans rfl; have hfz45_0 := blk_frozen BK613.out 0; have hfz45_1 := blk_frozen BK613.out 1) | ((with_reducible refine gate_callee (f := 72) rfl ?_); refine goesL_ (some 16) rfl rfl Try.func72 (by kernel_rfl) rfl #[.agg #[.int .u64 a0_0, .int .u64 a0_1], .int .u64 a1] rfl (by (try simp only [List.map_toArray, List.map_cons, List.map_nil]); first | done | rfl | (simp only [List.length_drop, List.length_take]; rfl)) ?_; (with_reducible refine (impl_WideMul64.calls a0_0 a0_1 a1 t623 t624 t625 _ A6.out).mono ?_); rintro e w46 ⟨rfl, hb⟩; refine ⟨_, rfl, ?_⟩; have n0_ := Aside0.mk (Kd.V_below (by (with_reducible repeat (first | apply Kd.V_alloc | apply Kd.V_drewN | apply Kd.V_drew)); exact HO616.out) hb); have n1_ := Aside0.mk (Kd.V_below (by (with_reducible repeat (first | apply Kd.V_alloc | apply Kd.V_drewN | apply Kd.V_drew)); exact HO619.out) hb); have n2_ := Aside0.mk (Kd.V_below (by (with_reducible repeat (first | apply Kd.V_alloc | apply Kd.V_drewN | apply Kd.V_drew)); exact HO622.out) hb); have n3_ := Aside0.mk (blk_below (g := gb613) (o := .cells #[.int .u64 a0_0, .int .u64 a0_1] 24 (0, 0)) (by (with_reducible repeat (first | refine blk_drewN ?_ _ | refine blk_drew ?_ | refine blk_alloc ?_ _)); exact BK613.out) hb); have n4_ := Aside0.mk (below_step (by repeat (first | (with_reducible first | exact HB.out | apply below_alloc | apply pw_below_drewN | apply below_drew1 | refine below_set ?_ GE613.out) | exact HB.out)) hb); clear HO616; clear HO619; clear HO622; clear BK613; clear HB; have HO616 := n0_; have HO619 := n1_; have HO622 := n2_; have BK613 := n3_; have HB := n4_; clear n0_ n1_ n2_ n3_ n4_; (try clear hb); (try clear hb2); (try clear hk); (try clear hi)) | ((with_reducible refine gate_dst (N := 6) rfl ?_); refine box_event ?hg (N := 6) ?hd (cs := #[.int .u64 0, .int .u64 0]) (t := 24) ?hr ?_; (case hd => rfl); (case hg => rfl); (case hr => first | (go_simp; done) | (go_simp; rfl)); intro gb626 hg w47 hbox hb; have n0_ := Aside0.mk (Kd.V_below (Kd.V_elderB (by (with_reducible repeat (first | apply Kd.V_alloc | apply Kd.V_drewN | apply Kd.V_drew)); exact HO616.out) gb626 (Nat.le_of_eq hg.symm)) hb); have n1_ := Aside0.mk (Kd.V_below (Kd.V_elderB (by (with_reducible repeat (first | apply Kd.V_alloc | apply Kd.V_drewN | apply Kd.V_drew)); exact HO619.out) gb626 (Nat.le_of_eq hg.symm)) hb); have n2_ := Aside0.mk (Kd.V_below (Kd.V_elderB (by (with_reducible repeat (first | apply Kd.V_alloc | apply Kd.V_drewN | apply Kd.V_drew)); exact HO622.out) gb626 (Nat.le_of_eq hg.symm)) hb); have n3_ := Aside0.mk (blk_below (g := gb613) (o := .cells #[.int .u64 a0_0, .int .u64 a0_1] 24 (0, 0)) (by (with_reducible repeat (first | refine blk_drewN ?_ _ | refine blk_drew ?_ | refine blk_alloc ?_ _)); exact BK613.out) hb); have n4_ := Aside0.mk (below_step (by repeat (first | (with_reducible first | exact HB.out | apply below_alloc | apply pw_below_drewN | apply below_drew1 | refine below_set ?_ GE613.out) | exact HB.out)) hb); have n5_ := Aside0.mk (hbox); have n6_ := Aside0.mk ((by rw [hg]; exact (below_size (by repeat (first | (with_reducible first | exact HB.out | apply below_alloc | apply pw_below_drewN | apply below_drew1 | refine below_set ?_ GE613.out) | exact HB.out))) : w.heap.size ≤ gb626)); have n7_ := Aside0.mk ((by rw [hg]; exact (below_size (by repeat (first | (with_reducible first | exact HB.out | apply below_alloc | apply pw_below_drewN | apply below_drew1 | refine below_set ?_ GE613.out) | exact HB.out))) : w.heap.size ≤ gb626)); have n8_ := Aside0.mk ((by rw [hg]; exact Nat.ne_of_lt (blk_lt (g := gb613) (o := .cells #[.int .u64 a0_0, .int .u64 a0_1] 24 (0, 0)) (by (with_reducible repeat (first | refine blk_drewN ?_ _ | refine blk_drew ?_ | refine blk_alloc ?_ _)); exact BK613.out)) : gb613 ≠ gb626)); have n9_ := Aside0.mk ((by rw [hg]; exact Nat.ne_of_gt (blk_lt (g := gb613) (o := .cells #[.int .u64 a0_0, .int .u64 a0_1] 24 (0, 0)) (by (with_reducible repeat (first | refine blk_drewN ?_ _ | refine blk_drew ?_ | refine blk_alloc ?_ _)); exact BK613.out)) : gb626 ≠ gb613)); clear HO616; clear HO619; clear HO622; clear BK613; clear HB; have HO616 := n0_; have HO619 := n1_; have HO622 := n2_; have BK613 := n3_; have HB := n4_; have BK626 := n5_; have GW626 := n6_; have GE626 := n7_; have NB613_626 := n8_; have NB626_613 := n9_; clear n0_ n1_ n2_ n3_ n4_ n5_ n6_ n7_ n8_ n9_; clear hb hbox hg; have hnb48 := NB626_613.out; have hnc48 := NB613_626.out; have hcz49_0 : w47.cell? ⟨gb626, 0, none⟩ = some (.int .u64 0) := (blk_cell BK626.out 0).trans rfl; have hcz49_1 : w47.cell? ⟨gb626, 1, none⟩ = some (.int .u64 0) := (blk_cell BK626.out 1).trans rfl; have hfz49_0 := blk_frozen BK626.out 0; have hfz49_1 := blk_frozen BK626.out 1; obtain ⟨Ao50, co50, eo50⟩ := Kd.V_slice HO622.out; subst eo50) | ((with_reducible refine gate_callee (f := 63) rfl ?_); refine goesL_ (some 21) rfl rfl Try.func63 (by kernel_rfl) rfl #[.slice Ao50 t620.length co50] rfl (by (try simp only [List.map_toArray, List.map_cons, List.map_nil]); first | done | rfl | (simp only [List.length_drop, List.length_take]; rfl)) ?_; (with_reducible refine (spec_Fits.calls k _ _ t620 t627 _ ?side1 ?side2 A7.out).mono ?_); (case side1 => refine (Kd.V_reads' (e := 3) (base := w.heap.size) (ok := fun k_ => (k_ ≠ gb613 ∧ k_ ≠ gb626)) (n := t620.length) (c := co50) ?_).2.2; exact (by (with_reducible repeat (first | apply Kd.V_alloc | apply Kd.V_drewN | apply Kd.V_drew)); exact (Kd.V_mono (Kd.V_far (p := ⟨gb626, 1, none⟩) (Kd.V_far (p := ⟨gb626, 0, none⟩) (Kd.V_mono HO622.out (fun k_ hk => (⟨hk, hk.2⟩ : _ ∧ k_ ≠ gb626))) (fun _ hk => hk.2) (.int .u64 t623)) (fun _ hk => hk.2) (.int .u64 t624)) (fun _ h_ => h_.1)))); (case side2 => exact (Kd.V_reads' HO622.out).2.1); rintro e w' ⟨rfl, ⟨nd, rfl⟩⟩; refine ⟨_, rfl, ?_⟩))
    go_ret
    exact ⟨by first | rfl | (simp [errW_none, errW_some] <;> rfl) | (simp [*, errW_none, errW_some] <;> rfl), by repeat (first | (with_reducible first | exact HB.out | apply below_alloc | apply pw_below_drewN | apply below_drew1 | refine below_set ?_ GE613.out | refine below_set ?_ GE626.out) | exact HB.out)⟩


end Go.Proofs.Ytiifnofghicnaaa.PAll
