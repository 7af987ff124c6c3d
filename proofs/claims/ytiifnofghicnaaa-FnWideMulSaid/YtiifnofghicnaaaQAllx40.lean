/- Printed by the kit's print.py, called for several laws at once: functions as plain Lean, and the walks' contracts. -/
import Derived.Test.YtiifnofghicnaaaQAllx0
import Derived.Test.YtiifnofghicnaaaQAllx1
import Derived.Test.YtiifnofghicnaaaQAllx2
import Derived.Test.YtiifnofghicnaaaQAllx5
import Derived.Test.YtiifnofghicnaaaQAllx6
import Derived.Test.YtiifnofghicnaaaQAllx9
import Derived.Test.YtiifnofghicnaaaQAllx14
import Derived.Test.YtiifnofghicnaaaQAllx17
namespace Go.Proofs.Ytiifnofghicnaaa.PAll
open Go.RowKit Go.Proofs.YtiifnofghicnaaaW.PrintWords Go.Proofs.YtiifnofghicnaaaW.PrintLast Go.Proofs.YtiifnofghicnaaaW.PrintMore
attribute [local go_sem] max2_int min2_int max_two min_two max_three min_three max_four min_four   -- for this text's walks alone
set_option linter.unusedVariables false
set_option linter.unusedSimpArgs false

/-! ### for (pub-hashloom/pub/uint128.Uint128).Mul -/
def uint128_Uint128_Mul.f (a0_0 a0_1 a1_0 a1_1 : Int) : Option (Int × Int) :=
  if (U64 a0_0 ∧ U64 a0_1 ∧ U64 a1_0 ∧ U64 a1_1) ∧ N128 a0_0 a0_1 * N128 a1_0 a1_1 < 340282366920938463463374607431768211456 then some (halves (N128 a0_0 a0_1 * N128 a1_0 a1_1)) else none
theorem mulf_facts (a b c d : Nat) (h : (a + b * 18446744073709551616) * (c + d * 18446744073709551616) < 340282366920938463463374607431768211456) :
    (b = 0 ∨ d = 0) ∧ (((mHi b c : Nat) : Int) != 0) = false ∧ (((mHi a d : Nat) : Int) != 0) = false ∧ aHi (mHi a c) (mLo b c) 0 = 0 ∧ (((aHi (aLo (mHi a c) (mLo b c) 0) (mLo a d) (aHi (mHi a c) (mLo b c) 0) : Nat) : Int) != 0) = false ∧
    mLo a c = (a + b * 18446744073709551616) * (c + d * 18446744073709551616) % 18446744073709551616 ∧ aLo (aLo (mHi a c) (mLo b c) 0) (mLo a d) (aHi (mHi a c) (mLo b c) 0) = (a + b * 18446744073709551616) * (c + d * 18446744073709551616) / 18446744073709551616 % 18446744073709551616 := by
  rw [mw_val] at h ⊢
  have h0 : b * d = 0 := by
    generalize b * d = t at *
    omega
  rw [h0] at h ⊢
  have h1 : mHi b c = 0 := by unfold mHi; omega
  have h2 : mHi a d = 0 := by unfold mHi; omega
  have h3 : aHi (mHi a c) (mLo b c) 0 = 0 := by unfold aHi mHi mLo; omega
  have h4 : aHi (aLo (mHi a c) (mLo b c) 0) (mLo a d) 0 = 0 := by unfold aHi aLo mHi mLo; omega
  refine ⟨Nat.mul_eq_zero.1 h0, by rw [h1]; rfl, by rw [h2]; rfl, h3, by rw [h3, h4]; rfl, ?_, ?_⟩
  · unfold mLo; omega
  · rw [h3]; unfold aLo mHi mLo; omega
set_option maxHeartbeats 2000000 in
set_option maxRecDepth 100000 in
theorem mulf_nat (a b c d : Nat) (ha : a < 18446744073709551616) (hb : b < 18446744073709551616) (hc : c < 18446744073709551616) (hd : d < 18446744073709551616) (h : (a + b * 18446744073709551616) * (c + d * 18446744073709551616) < 340282366920938463463374607431768211456) (w : World) :
    Calls Try.prog 119 #[.agg #[.int .u64 a, .int .u64 b], .agg #[.int .u64 c, .int .u64 d]] w fun e w' => e = .returned (.agg #[.int .u64 (mLo a c : Int), .int .u64 (aLo (aLo (mHi a c) (mLo b c) 0) (mLo a d) (aHi (mHi a c) (mLo b c) 0) : Int)]) ∧ Below w.heap.size w w' := by
  have m1 := Lib.hid (mul64_law a c ha hc)
  have m2 := Lib.hid (mul64_law b c hb hc)
  have m3 := Lib.hid (mul64_law a d ha hd)
  obtain ⟨hbd, k0, k2, h3, k1, e1_, e2_⟩ := mulf_facts a b c d h
  clear e1_ e2_
  have r1 := run_add64_0 (mHi a c) (mLo b c)
  have r2 := run_add64 (aLo (mHi a c) (mLo b c) 0) (mLo a d) (aHi (mHi a c) (mLo b c) 0) (by omega)
  clear ha hb hc hd h3 h
  have hg : ((b : Int) != 0) = false ∨ (((b : Int) != 0) = true ∧ ((d : Int) != 0) = false) := by
    rcases hbd with rfl | rfl
    · left; rfl
    · by_cases hb : b = 0
      · left; rw [hb]; rfl
      · right; exact ⟨by rw [bne_iff_ne]; omega, rfl⟩
  clear hbd
  rcases hg with g | ⟨g, g2⟩
  all_goals
    go_enter Try.func119, Try.ntmps119
    go_wp2_with fail
    refine (bits_Mul64.calls _ _ _ _ _ m1.out).mono ?_
    rintro e w1 ⟨rfl, ⟨⟨n1, rfl⟩⟩⟩
    go_wp2_with fail
    refine (bits_Mul64.calls _ _ _ _ _ m2.out).mono ?_
    rintro e w1 ⟨rfl, ⟨⟨n2, rfl⟩⟩⟩
    go_wp2_with fail
    refine (bits_Mul64.calls _ _ _ _ _ m3.out).mono ?_
    rintro e w1 ⟨rfl, ⟨⟨n3, rfl⟩⟩⟩
    go_wp2
    refine bodyPost_ret (v := .agg #[.int .u64 (mLo a c : Int), .int .u64 (aLo (aLo (mHi a c) (mLo b c) 0) (mLo a d) (aHi (mHi a c) (mLo b c) 0) : Int)]) (by simp [results, Try.results119, go_sem]) rfl ⟨rfl, ?_⟩
    exact by repeat (first | exact Below.refl _ _ | apply pw_below_drewN | apply below_alloc | refine Below.setCell ?_ (by (try simp only [Nat.le_refl]); omega) _)
theorem uint128_Uint128_Mul.calls (a0_0 : Int) (a0_1 : Int) (a1_0 : Int) (a1_1 : Int) (r1 : Int) (r2 : Int) (w : World) (h : uint128_Uint128_Mul.f a0_0 a0_1 a1_0 a1_1 = some (r1, r2)) :
    Calls Try.prog 119 #[.agg #[.int .u64 a0_0, .int .u64 a0_1], .agg #[.int .u64 a1_0, .int .u64 a1_1]] w fun e w' => e = .returned (.agg #[.int .u64 r1, .int .u64 r2]) ∧ Below w.heap.size w w' := by
  unfold uint128_Uint128_Mul.f at h
  split at h
  case isFalse => cases h
  rename_i hb
  obtain ⟨⟨ka, kb, kc, kd⟩, kx⟩ := hb
  obtain ⟨a, rfl, ha⟩ := ka.nat
  obtain ⟨b, rfl, hb⟩ := kb.nat
  obtain ⟨c, rfl, hc⟩ := kc.nat
  obtain ⟨d, rfl, hd⟩ := kd.nat
  have e := Option.some.inj h
  simp only [halves, N128, Int.toNat_natCast, Prod.mk.injEq] at e kx
  obtain ⟨_, _, _, _, _, e1, e2⟩ := mulf_facts a b c d kx
  rw [← e1, ← e2] at e
  obtain ⟨rfl, rfl⟩ := e
  exact mulf_nat a b c d ha hb hc hd kx w

/-! ### impl_WideMul: function 73 -/
set_option maxHeartbeats 1000000 in
set_option maxRecDepth 100000 in
theorem WideMul_1ret (a b c d : Int) (r1 r2 : Int) (p q : Nat) (w : World) (h : uint128_Uint128_Mul.f a b c d = some (r1, r2)) (lp : p < w.heap.size) (lq : q < w.heap.size)
    (p0 : w.cell? ⟨p, 0, none⟩ = some (.int .u64 a)) (p1 : w.cell? ⟨p, 1, none⟩ = some (.int .u64 b)) (q0 : w.cell? ⟨q, 0, none⟩ = some (.int .u64 c)) (q1 : w.cell? ⟨q, 1, none⟩ = some (.int .u64 d)) :
    Calls Try.prog 118 #[.pointer (some ⟨p, 0, none⟩), .pointer (some ⟨q, 0, none⟩)] w fun e w' => e = .returned (.agg #[.int .u64 r1, .int .u64 r2]) ∧ Below w.heap.size w w' := by
  have HH := Lib.hid h
  clear h
  go_enter Try.func118, Try.ntmps118
  go_wp2_with fail
  obtain ⟨w0, w1, f0, f1, lz, BB⟩ := alloc2_facts w 24 (.int .u64 0) (.int .u64 0)
  replace p0 := (BB.cell (p := ⟨p, 0, none⟩) (by exact lp)).trans p0
  replace p1 := (BB.cell (p := ⟨p, 1, none⟩) (by exact lp)).trans p1
  replace q0 := (BB.cell (p := ⟨q, 0, none⟩) (by exact lq)).trans q0
  replace q1 := (BB.cell (p := ⟨q, 1, none⟩) (by exact lq)).trans q1
  generalize w.alloc (.cells #[.int .u64 0, .int .u64 0] 24) = W0 at *
  refine start_ (n := 7) (S := fun w' => w'.cell? ⟨p, 0, none⟩ = some (.int .u64 a) ∧ w'.cell? ⟨p, 1, none⟩ = some (.int .u64 b) ∧ w'.cell? ⟨q, 0, none⟩ = some (.int .u64 c) ∧ w'.cell? ⟨q, 1, none⟩ = some (.int .u64 d)) (ds := []) #[false, false, false, false, false, false, false] (by kernel_rfl) rfl rfl ⟨p0, p1, q0, q1⟩ (fun hHeld => ?_)
  replace BB := BB.drew
  replace p0 : W0.drew.cell? ⟨p, 0, none⟩ = some (.int .u64 a) := p0
  replace p1 : W0.drew.cell? ⟨p, 1, none⟩ = some (.int .u64 b) := p1
  replace q0 : W0.drew.cell? ⟨q, 0, none⟩ = some (.int .u64 c) := q0
  replace q1 : W0.drew.cell? ⟨q, 1, none⟩ = some (.int .u64 d) := q1
  replace w0 : W0.drew.cell? ⟨w.heap.size, 0, none⟩ = some (.int .u64 0) := w0
  replace w1 : W0.drew.cell? ⟨w.heap.size, 1, none⟩ = some (.int .u64 0) := w1
  replace f0 : W0.drew.frozen? ⟨w.heap.size, 0, none⟩ = false := f0
  replace f1 : W0.drew.frozen? ⟨w.heap.size, 1, none⟩ = false := f1
  replace lz : w.heap.size < W0.drew.heap.size := lz
  generalize W0.drew = W1 at BB p0 p1 q0 q1 w0 w1 f0 f1 lz hHeld ⊢
  refine take_ (i := 0) (N := some 3) (v := ?_) (a' := ?_) #[true, false, false, false, false, false, false] rfl rfl (by kernel_rfl) (fun _ _ _ h => h) (Or.inl ⟨by rfl, ?_⟩) hHeld ?_ ?_
  rotate_left
  · rintro w' ⟨s0, s1, s2, s3⟩
    go_simp
    with_reducible rfl
  rotate_left
  · simp only [Act.put, List.setIfInBounds_toArray, List.set_cons_zero, List.set_cons_succ, i64_w, i32_w]
    rfl
  refine take_ (i := 2) (N := some 5) (v := ?_) (a' := ?_) #[true, false, true, false, false, false, false] rfl rfl (by kernel_rfl) (fun _ _ _ h => h) (Or.inl ⟨by rfl, ?_⟩) hHeld ?_ ?_
  rotate_left
  · rintro w' ⟨s0, s1, s2, s3⟩
    go_simp
    with_reducible rfl
  rotate_left
  · simp only [Act.put, List.setIfInBounds_toArray, List.set_cons_zero, List.set_cons_succ, i64_w, i32_w]
    rfl
  refine one_ (i := 1) (N := some 4) #[true, true, true, false, false, false, false] rfl rfl (by kernel_rfl) (by decide) (fun K hK => ?_)
  refine goes_ Try.func76 (by kernel_rfl) rfl #[.agg #[.int .u64 a, .int .u64 b]] (by rfl) rfl rfl (by (try simp only [List.map_toArray, List.map_cons, List.map_nil]); first | done | rfl) ?_
  refine (impl_Wide_u.calls a b a b _ rfl).mono ?_
  rintro e W2 ⟨rfl, hb⟩
  refine ⟨_, rfl, ?_⟩
  replace p0 := (hb.cell (p := ⟨p, 0, none⟩) (Nat.lt_trans lp lz)).trans p0
  replace p1 := (hb.cell (p := ⟨p, 1, none⟩) (Nat.lt_trans lp lz)).trans p1
  replace q0 := (hb.cell (p := ⟨q, 0, none⟩) (Nat.lt_trans lq lz)).trans q0
  replace q1 := (hb.cell (p := ⟨q, 1, none⟩) (Nat.lt_trans lq lz)).trans q1
  replace w0 := (hb.cell (p := ⟨w.heap.size, 0, none⟩) lz).trans w0
  replace w1 := (hb.cell (p := ⟨w.heap.size, 1, none⟩) lz).trans w1
  replace f0 := (hb.frozen (p := ⟨w.heap.size, 0, none⟩) lz).trans f0
  replace f1 := (hb.frozen (p := ⟨w.heap.size, 1, none⟩) lz).trans f1
  replace BB := BB.trans (hb.mono (Nat.le_of_lt lz))
  replace lz := Nat.lt_of_lt_of_le lz hb.size
  clear hb
  refine hK.out _ _ ⟨p0, p1, q0, q1⟩ (fun hHeld => ?_)
  clear hK K
  refine norm_ (a' := ?_) ?_ ?_
  rotate_left
  · show Act.put _ (some 4) _ = _
    simp only [Act.put, List.setIfInBounds_toArray, List.set_cons_zero, List.set_cons_succ, i64_w, i32_w]
    rfl
  refine one_ (i := 3) (N := some 6) #[true, true, true, true, false, false, false] rfl rfl (by kernel_rfl) (by decide) (fun K hK => ?_)
  refine goes_ Try.func76 (by kernel_rfl) rfl #[.agg #[.int .u64 c, .int .u64 d]] (by rfl) rfl rfl (by (try simp only [List.map_toArray, List.map_cons, List.map_nil]); first | done | rfl) ?_
  refine (impl_Wide_u.calls c d c d _ rfl).mono ?_
  rintro e W2 ⟨rfl, hb⟩
  refine ⟨_, rfl, ?_⟩
  replace p0 := (hb.cell (p := ⟨p, 0, none⟩) (Nat.lt_trans lp lz)).trans p0
  replace p1 := (hb.cell (p := ⟨p, 1, none⟩) (Nat.lt_trans lp lz)).trans p1
  replace q0 := (hb.cell (p := ⟨q, 0, none⟩) (Nat.lt_trans lq lz)).trans q0
  replace q1 := (hb.cell (p := ⟨q, 1, none⟩) (Nat.lt_trans lq lz)).trans q1
  replace w0 := (hb.cell (p := ⟨w.heap.size, 0, none⟩) lz).trans w0
  replace w1 := (hb.cell (p := ⟨w.heap.size, 1, none⟩) lz).trans w1
  replace f0 := (hb.frozen (p := ⟨w.heap.size, 0, none⟩) lz).trans f0
  replace f1 := (hb.frozen (p := ⟨w.heap.size, 1, none⟩) lz).trans f1
  replace BB := BB.trans (hb.mono (Nat.le_of_lt lz))
  replace lz := Nat.lt_of_lt_of_le lz hb.size
  clear hb
  refine hK.out _ _ ⟨p0, p1, q0, q1⟩ (fun hHeld => ?_)
  clear hK K
  refine norm_ (a' := ?_) ?_ ?_
  rotate_left
  · show Act.put _ (some 6) _ = _
    simp only [Act.put, List.setIfInBounds_toArray, List.set_cons_zero, List.set_cons_succ, i64_w, i32_w]
    rfl
  refine one_ (i := 4) (N := some 7) #[true, true, true, true, true, false, false] rfl rfl (by kernel_rfl) (by decide) (fun K hK => ?_)
  refine goes_ Try.func119 (by kernel_rfl) rfl #[.agg #[.int .u64 a, .int .u64 b], .agg #[.int .u64 c, .int .u64 d]] (by rfl) rfl rfl (by (try simp only [List.map_toArray, List.map_cons, List.map_nil]); first | done | rfl) ?_
  refine (uint128_Uint128_Mul.calls a b c d r1 r2 _ HH.out).mono ?_
  rintro e W2 ⟨rfl, hb⟩
  refine ⟨_, rfl, ?_⟩
  replace p0 := (hb.cell (p := ⟨p, 0, none⟩) (Nat.lt_trans lp lz)).trans p0
  replace p1 := (hb.cell (p := ⟨p, 1, none⟩) (Nat.lt_trans lp lz)).trans p1
  replace q0 := (hb.cell (p := ⟨q, 0, none⟩) (Nat.lt_trans lq lz)).trans q0
  replace q1 := (hb.cell (p := ⟨q, 1, none⟩) (Nat.lt_trans lq lz)).trans q1
  replace w0 := (hb.cell (p := ⟨w.heap.size, 0, none⟩) lz).trans w0
  replace w1 := (hb.cell (p := ⟨w.heap.size, 1, none⟩) lz).trans w1
  replace f0 := (hb.frozen (p := ⟨w.heap.size, 0, none⟩) lz).trans f0
  replace f1 := (hb.frozen (p := ⟨w.heap.size, 1, none⟩) lz).trans f1
  replace BB := BB.trans (hb.mono (Nat.le_of_lt lz))
  replace lz := Nat.lt_of_lt_of_le lz hb.size
  clear hb
  refine hK.out _ _ ⟨p0, p1, q0, q1⟩ (fun hHeld => ?_)
  clear hK K
  refine norm_ (a' := ?_) ?_ ?_
  rotate_left
  · show Act.put _ (some 7) _ = _
    simp only [Act.put, List.setIfInBounds_toArray, List.set_cons_zero, List.set_cons_succ, i64_w, i32_w]
    rfl
  refine one_ (i := 5) (N := some 8) #[true, true, true, true, true, true, false] rfl rfl (by kernel_rfl) (by decide) (fun K hK => ?_)
  refine goes_ Try.func80 (by kernel_rfl) rfl #[.agg #[.int .u64 r1, .int .u64 r2]] (by rfl) rfl rfl (by (try simp only [List.map_toArray, List.map_cons, List.map_nil]); first | done | rfl) ?_
  refine (impl_wide.calls r1 r2 r1 r2 _ rfl).mono ?_
  rintro e W2 ⟨rfl, hb⟩
  refine ⟨_, rfl, ?_⟩
  replace p0 := (hb.cell (p := ⟨p, 0, none⟩) (Nat.lt_trans lp lz)).trans p0
  replace p1 := (hb.cell (p := ⟨p, 1, none⟩) (Nat.lt_trans lp lz)).trans p1
  replace q0 := (hb.cell (p := ⟨q, 0, none⟩) (Nat.lt_trans lq lz)).trans q0
  replace q1 := (hb.cell (p := ⟨q, 1, none⟩) (Nat.lt_trans lq lz)).trans q1
  replace w0 := (hb.cell (p := ⟨w.heap.size, 0, none⟩) lz).trans w0
  replace w1 := (hb.cell (p := ⟨w.heap.size, 1, none⟩) lz).trans w1
  replace f0 := (hb.frozen (p := ⟨w.heap.size, 0, none⟩) lz).trans f0
  replace f1 := (hb.frozen (p := ⟨w.heap.size, 1, none⟩) lz).trans f1
  replace BB := BB.trans (hb.mono (Nat.le_of_lt lz))
  replace lz := Nat.lt_of_lt_of_le lz hb.size
  clear hb
  refine hK.out _ _ ⟨p0, p1, q0, q1⟩ (fun hHeld => ?_)
  clear hK K
  refine norm_ (a' := ?_) ?_ ?_
  rotate_left
  · show Act.put _ (some 8) _ = _
    simp only [Act.put, List.setIfInBounds_toArray, List.set_cons_zero, List.set_cons_succ, i64_w, i32_w]
    rfl
  refine one_ (i := 6) (N := none) #[true, true, true, true, true, true, true] rfl rfl (by kernel_rfl) (by decide) (fun K hK => ?_)
  refine skip_ (w1 := ?_) (by rfl) rfl ?_ ?_
  rotate_left
  · go_simp
    rfl
  refine hK.out _ _ ⟨(cell_far (p := ⟨w.heap.size, 1, none⟩) (by exact Nat.ne_of_lt lp) _).trans ((cell_far (p := ⟨w.heap.size, 0, none⟩) (by exact Nat.ne_of_lt lp) _).trans p0), (cell_far (p := ⟨w.heap.size, 1, none⟩) (by exact Nat.ne_of_lt lp) _).trans ((cell_far (p := ⟨w.heap.size, 0, none⟩) (by exact Nat.ne_of_lt lp) _).trans p1), (cell_far (p := ⟨w.heap.size, 1, none⟩) (by exact Nat.ne_of_lt lq) _).trans ((cell_far (p := ⟨w.heap.size, 0, none⟩) (by exact Nat.ne_of_lt lq) _).trans q0), (cell_far (p := ⟨w.heap.size, 1, none⟩) (by exact Nat.ne_of_lt lq) _).trans ((cell_far (p := ⟨w.heap.size, 0, none⟩) (by exact Nat.ne_of_lt lq) _).trans q1)⟩ (fun hHeld => ?_)
  clear hK K
  refine done_ (by kernel_rfl) ?_
  go_wp2
  refine bodyPost_ret (v := .agg #[.int .u64 r1, .int .u64 r2]) (by simp [results, Try.results118, go_sem, w0, w1]) rfl ⟨rfl, (BB.setCell (p := ⟨w.heap.size, 0, none⟩) (Nat.le_refl _) _).setCell (p := ⟨w.heap.size, 1, none⟩) (Nat.le_refl _) _⟩
def impl_WideMul.f (a0_0 a0_1 a1_0 a1_1 : Int) : Option (Int × Int × Bool) :=
  if U64 a0_0 ∧ U64 a0_1 ∧ U64 a1_0 ∧ U64 a1_1 then (if N128 a0_0 a0_1 * N128 a1_0 a1_1 < 340282366920938463463374607431768211456 then some ((halves (N128 a0_0 a0_1 * N128 a1_0 a1_1)).1, (halves (N128 a0_0 a0_1 * N128 a1_0 a1_1)).2, true) else none) else none
set_option maxHeartbeats 1000000 in
set_option maxRecDepth 100000 in
theorem impl_WideMul.calls (a0_0 : Int) (a0_1 : Int) (a1_0 : Int) (a1_1 : Int) (r1 : Int) (r2 : Int) (r3 : Bool) (w : World) (h : impl_WideMul.f a0_0 a0_1 a1_0 a1_1 = some (r1, r2, r3)) :
    Calls Try.prog 73 #[.agg #[.int .u64 a0_0, .int .u64 a0_1], .agg #[.int .u64 a1_0, .int .u64 a1_1]] w fun e w' => e = .returned (.tuple #[.agg #[.int .u64 r1, .int .u64 r2], .bool r3]) ∧ Below w.heap.size w w' := by
  have hmf : ∀ (fn : Fn) (first cap : Array Value) (w : World), (Instr.makeFunc fn first cap).run Try.prog w = .ok (.func fn first cap) w := fun _ _ _ _ => rfl
  unfold impl_WideMul.f at h
  split at h
  case isFalse => cases h
  rename_i hu
  have key : Calls Try.prog 102 #[.func (.func 118) #[] #[.pointer (some ⟨w.heap.size, 0, none⟩), .pointer (some ⟨w.heap.size + 1, 0, none⟩)]] (((w.alloc (.cells #[.int .u64 a0_0, .int .u64 a0_1] 24)).alloc (.cells #[.int .u64 a1_0, .int .u64 a1_1] 24)).alloc (.cells #[.int .u64 0, .int .u64 0] 24)) fun e w' =>
      e = .returned (.tuple #[.agg #[.int .u64 r1, .int .u64 r2], .bool r3]) ∧ Below (((w.alloc (.cells #[.int .u64 a0_0, .int .u64 a0_1] 24)).alloc (.cells #[.int .u64 a1_0, .int .u64 a1_1] 24)).alloc (.cells #[.int .u64 0, .int .u64 0] 24)).heap.size (((w.alloc (.cells #[.int .u64 a0_0, .int .u64 a0_1] 24)).alloc (.cells #[.int .u64 a1_0, .int .u64 a1_1] 24)).alloc (.cells #[.int .u64 0, .int .u64 0] 24)) w' := by
    have c0 : ∀ W : World, Below (((w.alloc (.cells #[.int .u64 a0_0, .int .u64 a0_1] 24)).alloc (.cells #[.int .u64 a1_0, .int .u64 a1_1] 24)).alloc (.cells #[.int .u64 0, .int .u64 0] 24)).heap.size (((w.alloc (.cells #[.int .u64 a0_0, .int .u64 a0_1] 24)).alloc (.cells #[.int .u64 a1_0, .int .u64 a1_1] 24)).alloc (.cells #[.int .u64 0, .int .u64 0] 24)) W → W.heap[w.heap.size]? = some (.cells #[.int .u64 a0_0, .int .u64 a0_1] 24) ∧ W.heap[w.heap.size + 1]? = some (.cells #[.int .u64 a1_0, .int .u64 a1_1] 24) ∧ w.heap.size + 1 < W.heap.size := by
      intro W hW
      have hs := hW.size
      simp only [World.size_alloc] at hs
      refine ⟨(hW.block _ (by simp only [World.size_alloc]; omega)).trans (blk_alloc (blk_alloc (MapKept.heap_alloc w _).1 _) _), (hW.block _ (by simp only [World.size_alloc]; omega)).trans (blk_alloc ?_ _), by omega⟩
      have := (MapKept.heap_alloc (w.alloc (.cells #[.int .u64 a0_0, .int .u64 a0_1] 24)) (.cells #[.int .u64 a1_0, .int .u64 a1_1] 24)).1
      rw [World.size_alloc] at this
      exact this
    split at h
    · rename_i hlt
      obtain ⟨rfl, rfl, rfl⟩ : (halves (N128 a0_0 a0_1 * N128 a1_0 a1_1)).1 = r1 ∧ (halves (N128 a0_0 a0_1 * N128 a1_0 a1_1)).2 = r2 ∧ true = r3 := by simpa using h
      refine tried_ret 118 _ _ _ _ (fun _ _ => rfl) (Lib.hid fun W hW => ?_)
      obtain ⟨k1, k2, k3⟩ := c0 W hW
      exact WideMul_1ret a0_0 a0_1 a1_0 a1_1 _ _ _ _ W (by unfold uint128_Uint128_Mul.f; rw [if_pos ⟨hu, hlt⟩]) (by omega) (by omega) ((blk_cell k1 0).trans rfl) ((blk_cell k1 1).trans rfl) ((blk_cell k2 0).trans rfl) ((blk_cell k2 1).trans rfl)
    · cases h
  have HK := Lib.hid key
  clear key h hu
  go_enter Try.func73, Try.ntmps73
  go_wp2_with fail
  refine HK.out.mono ?_
  rintro e w1 ⟨rfl, hb⟩
  have hs := hb.size
  simp only [World.size_alloc] at hs
  have g2 : w1.heap[w.heap.size + 1 + 1]? = some (.cells #[.int .u64 0, .int .u64 0] 24) := (hb.block _ (by simp only [World.size_alloc]; omega)).trans (by
    have := (MapKept.heap_alloc ((w.alloc (.cells #[.int .u64 a0_0, .int .u64 a0_1] 24)).alloc (.cells #[.int .u64 a1_0, .int .u64 a1_1] 24)) (.cells #[.int .u64 0, .int .u64 0] 24)).1
    rw [World.size_alloc, World.size_alloc] at this
    exact this)
  have v0 : w1.cell? ⟨w.heap.size + 1 + 1, 0, none⟩ = some (.int .u64 0) := by rw [blk_cell g2]; rfl
  have v1 : w1.cell? ⟨w.heap.size + 1 + 1, 1, none⟩ = some (.int .u64 0) := by rw [blk_cell g2]; rfl
  have z0 : w1.frozen? ⟨w.heap.size + 1 + 1, 0, none⟩ = false := blk_frozen g2 0
  have z1 : w1.frozen? ⟨w.heap.size + 1 + 1, 1, none⟩ = false := blk_frozen g2 1
  have B : Below w.heap.size w w1 := ((((Below.refl w.heap.size w).alloc (Nat.le_refl _) _).alloc (by simp) _).alloc (by simp; omega) _).trans (hb.mono (by simp only [World.size_alloc]; omega))
  have HB := Lib.hid B
  clear hb g2 HK B
  go_wp2
  refine bodyPost_ret (v := .tuple #[.agg #[.int .u64 r1, .int .u64 r2], .bool r3]) (by simp [results, Try.results73, go_sem, v0, v1]) rfl ⟨rfl, (HB.out.setCell (p := ⟨w.heap.size + 1 + 1, 0, none⟩) (by simp; omega) _).setCell (p := ⟨w.heap.size + 1 + 1, 1, none⟩) (by simp; omega) _⟩

/-! ### laws_FnWideMul: function 22 -/
def laws_FnWideMul.f (k : Nat) (a0_0 : Int) (a0_1 : Int) (a1_0 : Int) (a1_1 : Int) : Option (Bool) := (laws_wideWhole.f a0_0 a0_1).bind fun t631 => ((laws_wideWhole.f a1_0 a1_1).bind fun t634 => ((spec_Product.f k t631 t634).bind fun t637 => ((spec_Fits.f k t637).bind fun t640 => (if t640 = true then ((impl_WideMul.f a0_0 a0_1 a1_0 a1_1).bind fun bt641 => (if bt641.2.2 = true then ((laws_wideIs.f k bt641.1 bt641.2.1 t637).bind fun t645 => (some t645)) else (some false))) else (some true)))))
theorem laws_FnWideMul.mono : ∀ a0 a1 a2 a3 k, LeO (laws_FnWideMul.f k a0 a1 a2 a3) (laws_FnWideMul.f (k + 1) a0 a1 a2 a3) := by
  intro a0 a1 a2 a3 k
  unfold laws_FnWideMul.f
  repeat' first
      | (with_reducible exact laws_wideIs.mono _ _ _ _)
      | (with_reducible exact spec_Fits.mono _ _)
      | (with_reducible exact spec_Product.mono _ _ _)
      | (with_reducible exact LeO.refl _)
      | (with_reducible exact LeO.none _)
      | (with_reducible refine LeO.ite ?_ ?_)
      | (with_reducible refine LeO.bind ?_ (fun _ => ?_))
      | exact laws_wideIs.mono _ _ _ _
      | exact spec_Fits.mono _ _
      | exact spec_Product.mono _ _ _
      | exact LeO.none _
      | refine LeO.ite ?_ ?_
      | refine LeO.bind ?_ (fun _ => ?_)
set_option maxHeartbeats 8000000 in
set_option maxRecDepth 100000 in
theorem laws_FnWideMul.calls (k : Nat) (a0_0 : Int) (a0_1 : Int) (a1_0 : Int) (a1_1 : Int) (r : Bool) (w : World) (h : laws_FnWideMul.f k a0_0 a0_1 a1_0 a1_1 = some r) :
    Calls Try.prog 22 #[.agg #[.int .u64 a0_0, .int .u64 a0_1], .agg #[.int .u64 a1_0, .int .u64 a1_1]] w fun e w' => e = .returned (.bool r) ∧ Below w.heap.size w w' := by
  have hu24 := Try.underlying24
  have HB := Aside0.mk (Below.refl w.heap.size w)
  have H : ((laws_wideWhole.f a0_0 a0_1).bind fun t631 => ((laws_wideWhole.f a1_0 a1_1).bind fun t634 => ((spec_Product.f k t631 t634).bind fun t637 => ((spec_Fits.f k t637).bind fun t640 => (if t640 = true then ((impl_WideMul.f a0_0 a0_1 a1_0 a1_1).bind fun bt641 => (if bt641.2.2 = true then ((laws_wideIs.f k bt641.1 bt641.2.1 t637).bind fun t645 => (some t645)) else (some false))) else (some true)))))) = some r := h
  clear h
  replace H := Option.bind_eq_some_iff.mp H
  obtain ⟨t631, A30, H⟩ := H
  replace H : ((laws_wideWhole.f a1_0 a1_1).bind fun t634 => ((spec_Product.f k t631 t634).bind fun t637 => ((spec_Fits.f k t637).bind fun t640 => (if t640 = true then ((impl_WideMul.f a0_0 a0_1 a1_0 a1_1).bind fun bt641 => (if bt641.2.2 = true then ((laws_wideIs.f k bt641.1 bt641.2.1 t637).bind fun t645 => (some t645)) else (some false))) else (some true))))) = some r := H
  have A3 := Aside0.mk A30
  clear A30
  replace H := Option.bind_eq_some_iff.mp H
  obtain ⟨t634, A40, H⟩ := H
  replace H : ((spec_Product.f k t631 t634).bind fun t637 => ((spec_Fits.f k t637).bind fun t640 => (if t640 = true then ((impl_WideMul.f a0_0 a0_1 a1_0 a1_1).bind fun bt641 => (if bt641.2.2 = true then ((laws_wideIs.f k bt641.1 bt641.2.1 t637).bind fun t645 => (some t645)) else (some false))) else (some true)))) = some r := H
  have A4 := Aside0.mk A40
  clear A40
  replace H := Option.bind_eq_some_iff.mp H
  obtain ⟨t637, A50, H⟩ := H
  replace H : ((spec_Fits.f k t637).bind fun t640 => (if t640 = true then ((impl_WideMul.f a0_0 a0_1 a1_0 a1_1).bind fun bt641 => (if bt641.2.2 = true then ((laws_wideIs.f k bt641.1 bt641.2.1 t637).bind fun t645 => (some t645)) else (some false))) else (some true))) = some r := H
  have A5 := Aside0.mk A50
  clear A50
  replace H := Option.bind_eq_some_iff.mp H
  obtain ⟨t640, A60, H⟩ := H
  replace H : (if t640 = true then ((impl_WideMul.f a0_0 a0_1 a1_0 a1_1).bind fun bt641 => (if bt641.2.2 = true then ((laws_wideIs.f k bt641.1 bt641.2.1 t637).bind fun t645 => (some t645)) else (some false))) else (some true)) = some r := H
  have A6 := Aside0.mk A60
  clear A60
  by_cases c7 : t640 = true
  · subst c7
    have H1 : ((impl_WideMul.f a0_0 a0_1 a1_0 a1_1).bind fun bt641 => (if bt641.2.2 = true then ((laws_wideIs.f k bt641.1 bt641.2.1 t637).bind fun t645 => (some t645)) else (some false))) = some r := by rw [if_pos rfl] at H; exact H
    clear H
    have H := H1
    clear H1
    replace H := Option.bind_eq_some_iff.mp H
    obtain ⟨⟨t641, t642, t643⟩, A80, H⟩ := H
    replace H : (if t643 = true then ((laws_wideIs.f k t641 t642 t637).bind fun t645 => (some t645)) else (some false)) = some r := H
    have A8 := Aside0.mk A80
    clear A80
    by_cases c9 : t643 = true
    · subst c9
      have H1 : ((laws_wideIs.f k t641 t642 t637).bind fun t645 => (some t645)) = some r := by rw [if_pos rfl] at H; exact H
      clear H
      have H := H1
      clear H1
      replace H := Option.bind_eq_some_iff.mp H
      obtain ⟨t645, A100, H⟩ := H
      replace H : (some t645) = some r := H
      have A10 := Aside0.mk A100
      clear A100
      obtain rfl := Option.some.inj H
      go_enter Try.func22, Try.ntmps22
      try go_wp2_with (first | ((with_reducible refine gate_dst (N := 2) rfl ?_); refine box_event ?hg (N := 2) ?hd (cs := #[.int .u64 a0_0, .int .u64 a0_1]) (t := 24) ?hr ?_; (case hd => rfl); (case hg => rfl); (case hr => first | (go_simp; done) | (go_simp; rfl)); intro gb629 hg w11 hbox hb; have n0_ := Aside0.mk (below_step (by repeat (first | (with_reducible first | exact HB.out | apply below_alloc | apply pw_below_drewN | apply below_drew1) | exact HB.out)) hb); have n1_ := Aside0.mk (hbox); have n2_ := Aside0.mk ((by rw [hg]; exact (below_size (by repeat (first | (with_reducible first | exact HB.out | apply below_alloc | apply pw_below_drewN | apply below_drew1) | exact HB.out))) : w.heap.size ≤ gb629)); have n3_ := Aside0.mk ((by rw [hg]; exact (below_size (by repeat (first | (with_reducible first | exact HB.out | apply below_alloc | apply pw_below_drewN | apply below_drew1) | exact HB.out))) : w.heap.size ≤ gb629)); clear HB; have HB := n0_; have BK629 := n1_; have GW629 := n2_; have GE629 := n3_; clear n0_ n1_ n2_ n3_; clear hb hbox hg) | ((with_reducible refine gate_dst (N := 3) rfl ?_); refine box_event ?hg (N := 3) ?hd (cs := #[.int .u64 a1_0, .int .u64 a1_1]) (t := 24) ?hr ?_; (case hd => rfl); (case hg => rfl); (case hr => first | (go_simp; done) | (go_simp; rfl)); intro gb630 hg w12 hbox hb; have n0_ := Aside0.mk (blk_below (g := gb629) (o := .cells #[.int .u64 a0_0, .int .u64 a0_1] 24 (0, 0)) (by (with_reducible repeat (first | refine blk_drewN ?_ _ | refine blk_drew ?_ | refine blk_alloc ?_ _)); exact BK629.out) hb); have n1_ := Aside0.mk (below_step (by repeat (first | (with_reducible first | exact HB.out | apply below_alloc | apply pw_below_drewN | apply below_drew1 | refine below_set ?_ GE629.out) | exact HB.out)) hb); have n2_ := Aside0.mk (hbox); have n3_ := Aside0.mk ((by rw [hg]; exact (below_size (by repeat (first | (with_reducible first | exact HB.out | apply below_alloc | apply pw_below_drewN | apply below_drew1 | refine below_set ?_ GE629.out) | exact HB.out))) : w.heap.size ≤ gb630)); have n4_ := Aside0.mk ((by rw [hg]; exact (below_size (by repeat (first | (with_reducible first | exact HB.out | apply below_alloc | apply pw_below_drewN | apply below_drew1 | refine below_set ?_ GE629.out) | exact HB.out))) : w.heap.size ≤ gb630)); have n5_ := Aside0.mk ((by rw [hg]; exact Nat.ne_of_lt (blk_lt (g := gb629) (o := .cells #[.int .u64 a0_0, .int .u64 a0_1] 24 (0, 0)) (by (with_reducible repeat (first | refine blk_drewN ?_ _ | refine blk_drew ?_ | refine blk_alloc ?_ _)); exact BK629.out)) : gb629 ≠ gb630)); have n6_ := Aside0.mk ((by rw [hg]; exact Nat.ne_of_gt (blk_lt (g := gb629) (o := .cells #[.int .u64 a0_0, .int .u64 a0_1] 24 (0, 0)) (by (with_reducible repeat (first | refine blk_drewN ?_ _ | refine blk_drew ?_ | refine blk_alloc ?_ _)); exact BK629.out)) : gb630 ≠ gb629)); clear BK629; clear HB; have BK629 := n0_; have HB := n1_; have BK630 := n2_; have GW630 := n3_; have GE630 := n4_; have NB629_630 := n5_; have NB630_629 := n6_; clear n0_ n1_ n2_ n3_ n4_ n5_ n6_; clear hb hbox hg))
      have n0_ := Aside0.mk (blk_drew BK629.out)
      have n1_ := Aside0.mk (blk_drew BK630.out)
      have n2_ := Aside0.mk (below_drew1 HB.out)
      clear BK629
      clear BK630
      clear HB
      have BK629 := n0_
      have BK630 := n1_
      have HB := n2_
      clear n0_ n1_ n2_
      refine start_ (n := 6) (S := fun w' => w'.cell? ⟨gb629, 0, none⟩ = some (.int .u64 a0_0) ∧ w'.cell? ⟨gb629, 1, none⟩ = some (.int .u64 a0_1) ∧ w'.cell? ⟨gb630, 0, none⟩ = some (.int .u64 a1_0) ∧ w'.cell? ⟨gb630, 1, none⟩ = some (.int .u64 a1_1)) (ds := []) #[false, false, false, false, false, false] (by kernel_rfl) rfl rfl ⟨(blk_cell BK629.out 0).trans rfl, (blk_cell BK629.out 1).trans rfl, (blk_cell BK630.out 0).trans rfl, (blk_cell BK630.out 1).trans rfl⟩ (fun hHeld => ?_)
      generalize w12.drew = w13 at BK629 BK630 HB hHeld ⊢
      refine take_ (i := 0) (N := some 8) (v := ?_) (a' := ?_) #[true, false, false, false, false, false] rfl rfl (by kernel_rfl) (fun _ _ _ h => h) (Or.inl ⟨by rfl, ?_⟩) hHeld ?_ ?_
      rotate_left
      · rintro w' ⟨s0, s1, s2, s3⟩
        go_simp
        with_reducible rfl
      rotate_left
      · simp only [Act.put, List.setIfInBounds_toArray, List.set_cons_zero, List.set_cons_succ, i64_w, i32_w]
        rfl
      refine take_ (i := 2) (N := some 10) (v := ?_) (a' := ?_) #[true, false, true, false, false, false] rfl rfl (by kernel_rfl) (fun _ _ _ h => h) (Or.inl ⟨by rfl, ?_⟩) hHeld ?_ ?_
      rotate_left
      · rintro w' ⟨s0, s1, s2, s3⟩
        go_simp
        with_reducible rfl
      rotate_left
      · simp only [Act.put, List.setIfInBounds_toArray, List.set_cons_zero, List.set_cons_succ, i64_w, i32_w]
        rfl
      refine one_ (i := 1) (N := some 9) #[true, true, true, false, false, false] rfl rfl (by kernel_rfl) (by decide) (fun K hK => ?_)
      refine goes_ Try.func25 (by kernel_rfl) rfl #[.agg #[.int .u64 a0_0, .int .u64 a0_1]] (by rfl) rfl rfl (by (try simp only [List.map_toArray, List.map_cons, List.map_nil]); first | done | rfl | (simp only [List.length_drop, List.length_take]; rfl)) ?_
      with_reducible refine (laws_wideWhole.calls a0_0 a0_1 t631 _ A3.out).mono ?_
      rintro e w14 ⟨v632, rfl, ho0, hb⟩
      refine ⟨_, rfl, ?_⟩
      have n0_ := Aside0.mk (Kd.V_lower (Kd.V_mono (ok' := fun k_ => k_ ≠ gb629 ∧ k_ ≠ gb630) ho0 (fun k_ hk_ => ⟨(Kd.freshB (g := gb629) (o := .cells #[.int .u64 a0_0, .int .u64 a0_1] 24 (0, 0)) (by (with_reducible repeat (first | refine blk_drewN ?_ _ | refine blk_drew ?_ | refine blk_alloc ?_ _)); exact BK629.out) k_ hk_), (Kd.freshB (g := gb630) (o := .cells #[.int .u64 a1_0, .int .u64 a1_1] 24 (0, 0)) (by (with_reducible repeat (first | refine blk_drewN ?_ _ | refine blk_drew ?_ | refine blk_alloc ?_ _)); exact BK630.out) k_ hk_)⟩)) (below_size (by repeat (first | (with_reducible first | exact HB.out | apply below_alloc | apply pw_below_drewN | apply below_drew1 | refine below_set ?_ GE629.out | refine below_set ?_ GE630.out) | exact HB.out))))
      have n1_ := Aside0.mk (blk_below (g := gb629) (o := .cells #[.int .u64 a0_0, .int .u64 a0_1] 24 (0, 0)) (by (with_reducible repeat (first | refine blk_drewN ?_ _ | refine blk_drew ?_ | refine blk_alloc ?_ _)); exact BK629.out) hb)
      have n2_ := Aside0.mk (blk_below (g := gb630) (o := .cells #[.int .u64 a1_0, .int .u64 a1_1] 24 (0, 0)) (by (with_reducible repeat (first | refine blk_drewN ?_ _ | refine blk_drew ?_ | refine blk_alloc ?_ _)); exact BK630.out) hb)
      have n3_ := Aside0.mk (below_step (by repeat (first | (with_reducible first | exact HB.out | apply below_alloc | apply pw_below_drewN | apply below_drew1 | refine below_set ?_ GE629.out | refine below_set ?_ GE630.out) | exact HB.out)) hb)
      clear BK629
      clear BK630
      clear HB
      have HO633 := n0_
      have BK629 := n1_
      have BK630 := n2_
      have HB := n3_
      clear n0_ n1_ n2_ n3_
      (try clear hb)
      (try clear hb2)
      (try clear hk)
      (try clear hi)
      (try clear ho0)
      refine hK.out _ _ ⟨(blk_cell BK629.out 0).trans rfl, (blk_cell BK629.out 1).trans rfl, (blk_cell BK630.out 0).trans rfl, (blk_cell BK630.out 1).trans rfl⟩ (fun hHeld => ?_)
      clear hK K
      refine norm_ (a' := ?_) ?_ ?_
      rotate_left
      · show Act.put _ (some 9) _ = _
        simp only [Act.put, List.setIfInBounds_toArray, List.set_cons_zero, List.set_cons_succ, i64_w, i32_w]
        rfl
      refine one_ (i := 3) (N := some 11) #[true, true, true, true, false, false] rfl rfl (by kernel_rfl) (by decide) (fun K hK => ?_)
      refine goes_ Try.func25 (by kernel_rfl) rfl #[.agg #[.int .u64 a1_0, .int .u64 a1_1]] (by rfl) rfl rfl (by (try simp only [List.map_toArray, List.map_cons, List.map_nil]); first | done | rfl | (simp only [List.length_drop, List.length_take]; rfl)) ?_
      with_reducible refine (laws_wideWhole.calls a1_0 a1_1 t634 _ A4.out).mono ?_
      rintro e w15 ⟨v635, rfl, ho0, hb⟩
      refine ⟨_, rfl, ?_⟩
      have n0_ := Aside0.mk (Kd.V_below (by (with_reducible repeat (first | apply Kd.V_alloc | apply Kd.V_drewN | apply Kd.V_drew)); exact HO633.out) hb)
      have n1_ := Aside0.mk (Kd.V_lower (Kd.V_mono (ok' := fun k_ => k_ ≠ gb629 ∧ k_ ≠ gb630) ho0 (fun k_ hk_ => ⟨(Kd.freshB (g := gb629) (o := .cells #[.int .u64 a0_0, .int .u64 a0_1] 24 (0, 0)) (by (with_reducible repeat (first | refine blk_drewN ?_ _ | refine blk_drew ?_ | refine blk_alloc ?_ _)); exact BK629.out) k_ hk_), (Kd.freshB (g := gb630) (o := .cells #[.int .u64 a1_0, .int .u64 a1_1] 24 (0, 0)) (by (with_reducible repeat (first | refine blk_drewN ?_ _ | refine blk_drew ?_ | refine blk_alloc ?_ _)); exact BK630.out) k_ hk_)⟩)) (below_size (by repeat (first | (with_reducible first | exact HB.out | apply below_alloc | apply pw_below_drewN | apply below_drew1 | refine below_set ?_ GE629.out | refine below_set ?_ GE630.out) | exact HB.out))))
      have n2_ := Aside0.mk (blk_below (g := gb629) (o := .cells #[.int .u64 a0_0, .int .u64 a0_1] 24 (0, 0)) (by (with_reducible repeat (first | refine blk_drewN ?_ _ | refine blk_drew ?_ | refine blk_alloc ?_ _)); exact BK629.out) hb)
      have n3_ := Aside0.mk (blk_below (g := gb630) (o := .cells #[.int .u64 a1_0, .int .u64 a1_1] 24 (0, 0)) (by (with_reducible repeat (first | refine blk_drewN ?_ _ | refine blk_drew ?_ | refine blk_alloc ?_ _)); exact BK630.out) hb)
      have n4_ := Aside0.mk (below_step (by repeat (first | (with_reducible first | exact HB.out | apply below_alloc | apply pw_below_drewN | apply below_drew1 | refine below_set ?_ GE629.out | refine below_set ?_ GE630.out) | exact HB.out)) hb)
      clear HO633
      clear BK629
      clear BK630
      clear HB
      have HO633 := n0_
      have HO636 := n1_
      have BK629 := n2_
      have BK630 := n3_
      have HB := n4_
      clear n0_ n1_ n2_ n3_ n4_
      (try clear hb)
      (try clear hb2)
      (try clear hk)
      (try clear hi)
      (try clear ho0)
      obtain ⟨Ao16, co16, eo16⟩ := Kd.V_slice HO633.out
      (first | subst eo16 | (injection eo16 with f1_ f2_ f3_; have f4_ := f1_.symm; have f5_ := f3_.symm; clear f1_ f2_ f3_; subst f4_; subst f5_))
      obtain ⟨Ao17, co17, eo17⟩ := Kd.V_slice HO636.out
      (first | subst eo17 | (injection eo17 with f1_ f2_ f3_; have f4_ := f1_.symm; have f5_ := f3_.symm; clear f1_ f2_ f3_; subst f4_; subst f5_))
      refine hK.out _ _ ⟨(blk_cell BK629.out 0).trans rfl, (blk_cell BK629.out 1).trans rfl, (blk_cell BK630.out 0).trans rfl, (blk_cell BK630.out 1).trans rfl⟩ (fun hHeld => ?_)
      clear hK K
      refine norm_ (a' := ?_) ?_ ?_
      rotate_left
      · show Act.put _ (some 11) _ = _
        simp only [Act.put, List.setIfInBounds_toArray, List.set_cons_zero, List.set_cons_succ, i64_w, i32_w]
        rfl
      refine one_ (i := 4) (N := some 12) #[true, true, true, true, true, false] rfl rfl (by kernel_rfl) (by decide) (fun K hK => ?_)
      refine goes_ Try.func66 (by kernel_rfl) rfl #[.slice Ao16 t631.length co16, .slice Ao17 t634.length co17] (by rfl) rfl rfl (by (try simp only [List.map_toArray, List.map_cons, List.map_nil]); first | done | rfl | (simp only [List.length_drop, List.length_take]; rfl)) ?_
      with_reducible refine (spec_Product.calls k _ _ t631 _ _ t634 t637 _ ?side1 ?side2 ?side3 ?side4 A5.out).mono ?_
      (case side1 => repeat (first | exact (Kd.V_reads' HO633.out).2.2 | (with_reducible refine Kd.C_alloc ?_ _) | (with_reducible refine Kd.C_drewN ?_ _) | (with_reducible refine Kd.C_drew ?_)))
      (case side2 => exact (Kd.V_reads' HO633.out).2.1)
      (case side3 => repeat (first | exact (Kd.V_reads' HO636.out).2.2 | (with_reducible refine Kd.C_alloc ?_ _) | (with_reducible refine Kd.C_drewN ?_ _) | (with_reducible refine Kd.C_drew ?_)))
      (case side4 => exact (Kd.V_reads' HO636.out).2.1)
      rintro e w18 ⟨v638, rfl, ho0, hb⟩
      refine ⟨_, rfl, ?_⟩
      have n0_ := Aside0.mk (Kd.V_below (by (with_reducible repeat (first | apply Kd.V_alloc | apply Kd.V_drewN | apply Kd.V_drew)); exact HO633.out) hb)
      have n1_ := Aside0.mk (Kd.V_below (by (with_reducible repeat (first | apply Kd.V_alloc | apply Kd.V_drewN | apply Kd.V_drew)); exact HO636.out) hb)
      have n2_ := Aside0.mk (Kd.V_lower (Kd.V_mono (ok' := fun k_ => k_ ≠ gb629 ∧ k_ ≠ gb630) ho0 (fun k_ hk_ => ⟨(Kd.freshB (g := gb629) (o := .cells #[.int .u64 a0_0, .int .u64 a0_1] 24 (0, 0)) (by (with_reducible repeat (first | refine blk_drewN ?_ _ | refine blk_drew ?_ | refine blk_alloc ?_ _)); exact BK629.out) k_ hk_), (Kd.freshB (g := gb630) (o := .cells #[.int .u64 a1_0, .int .u64 a1_1] 24 (0, 0)) (by (with_reducible repeat (first | refine blk_drewN ?_ _ | refine blk_drew ?_ | refine blk_alloc ?_ _)); exact BK630.out) k_ hk_)⟩)) (below_size (by repeat (first | (with_reducible first | exact HB.out | apply below_alloc | apply pw_below_drewN | apply below_drew1 | refine below_set ?_ GE629.out | refine below_set ?_ GE630.out) | exact HB.out))))
      have n3_ := Aside0.mk (blk_below (g := gb629) (o := .cells #[.int .u64 a0_0, .int .u64 a0_1] 24 (0, 0)) (by (with_reducible repeat (first | refine blk_drewN ?_ _ | refine blk_drew ?_ | refine blk_alloc ?_ _)); exact BK629.out) hb)
      have n4_ := Aside0.mk (blk_below (g := gb630) (o := .cells #[.int .u64 a1_0, .int .u64 a1_1] 24 (0, 0)) (by (with_reducible repeat (first | refine blk_drewN ?_ _ | refine blk_drew ?_ | refine blk_alloc ?_ _)); exact BK630.out) hb)
      have n5_ := Aside0.mk (below_step (by repeat (first | (with_reducible first | exact HB.out | apply below_alloc | apply pw_below_drewN | apply below_drew1 | refine below_set ?_ GE629.out | refine below_set ?_ GE630.out) | exact HB.out)) hb)
      clear HO633
      clear HO636
      clear BK629
      clear BK630
      clear HB
      have HO633 := n0_
      have HO636 := n1_
      have HO639 := n2_
      have BK629 := n3_
      have BK630 := n4_
      have HB := n5_
      clear n0_ n1_ n2_ n3_ n4_ n5_
      (try clear hb)
      (try clear hb2)
      (try clear hk)
      (try clear hi)
      (try clear ho0)
      refine hK.out _ _ ⟨(blk_cell BK629.out 0).trans rfl, (blk_cell BK629.out 1).trans rfl, (blk_cell BK630.out 0).trans rfl, (blk_cell BK630.out 1).trans rfl⟩ (fun hHeld => ?_)
      clear hK K
      refine norm_ (a' := ?_) ?_ ?_
      rotate_left
      · show Act.put _ (some 12) _ = _
        simp only [Act.put, List.setIfInBounds_toArray, List.set_cons_zero, List.set_cons_succ, i64_w, i32_w]
        rfl
      refine pure_ (i := 5) (N := some 5) (v := ?_) (a' := ?_) #[true, true, true, true, true, true] rfl rfl (by kernel_rfl) (fun _ _ _ h => h) (Or.inl ⟨by rfl, ?_⟩) ?_ ?_
      rotate_left
      · intro w'
        go_simp
        with_reducible rfl
      rotate_left
      · simp only [Act.put, List.setIfInBounds_toArray, List.set_cons_zero, List.set_cons_succ, i64_w, i32_w]
        rfl
      refine done_ (by kernel_rfl) ?_
      obtain ⟨Ao19, co19, eo19⟩ := Kd.V_slice HO639.out
      subst eo19
      try go_wp2_with (first | ((with_reducible refine gate_callee (f := 63) rfl ?_); refine goesL_ (some 14) rfl rfl Try.func63 (by kernel_rfl) rfl #[.slice Ao19 t637.length co19] rfl (by (try simp only [List.map_toArray, List.map_cons, List.map_nil]); first | done | rfl | (simp only [List.length_drop, List.length_take]; rfl)) ?_; (with_reducible refine (spec_Fits.calls k _ _ t637 true _ ?side1 ?side2 A6.out).mono ?_); (case side1 => repeat (first | exact (Kd.V_reads' HO639.out).2.2 | (with_reducible refine Kd.C_alloc ?_ _) | (with_reducible refine Kd.C_drewN ?_ _) | (with_reducible refine Kd.C_drew ?_))); (case side2 => exact (Kd.V_reads' HO639.out).2.1); rintro e w' ⟨rfl, ⟨nd, rfl⟩⟩; refine ⟨_, rfl, ?_⟩; (try (rw [drewN_self w18]; generalize hq_ : World.drewN w18 _ = w18; have n0_ : Aside0 (Kd.V (Kd.int .i64) 3 w18 w.heap.size (fun k_ => k_ ≠ gb629 ∧ k_ ≠ gb630) (.slice Ao16 t631.length co16) t631) := ⟨by rw [← hq_]; exact (by (with_reducible repeat (first | apply Kd.V_alloc | apply Kd.V_drewN | apply Kd.V_drew)); exact HO633.out)⟩; have n1_ : Aside0 (Kd.V (Kd.int .i64) 3 w18 w.heap.size (fun k_ => k_ ≠ gb629 ∧ k_ ≠ gb630) (.slice Ao17 t634.length co17) t634) := ⟨by rw [← hq_]; exact (by (with_reducible repeat (first | apply Kd.V_alloc | apply Kd.V_drewN | apply Kd.V_drew)); exact HO636.out)⟩; have n2_ : Aside0 (Kd.V (Kd.int .i64) 3 w18 w.heap.size (fun k_ => k_ ≠ gb629 ∧ k_ ≠ gb630) (.slice Ao19 t637.length co19) t637) := ⟨by rw [← hq_]; exact (by (with_reducible repeat (first | apply Kd.V_alloc | apply Kd.V_drewN | apply Kd.V_drew)); exact HO639.out)⟩; have n3_ : Aside0 (w18.heap[gb629]? = some (.cells #[.int .u64 a0_0, .int .u64 a0_1] 24 (0, 0))) := ⟨by rw [← hq_]; exact (by (with_reducible repeat (first | refine blk_drewN ?_ _ | refine blk_drew ?_ | refine blk_alloc ?_ _)); exact BK629.out)⟩; have n4_ : Aside0 (w18.heap[gb630]? = some (.cells #[.int .u64 a1_0, .int .u64 a1_1] 24 (0, 0))) := ⟨by rw [← hq_]; exact (by (with_reducible repeat (first | refine blk_drewN ?_ _ | refine blk_drew ?_ | refine blk_alloc ?_ _)); exact BK630.out)⟩; have n5_ : Aside0 (Below w.heap.size w w18) := ⟨by rw [← hq_]; exact (by repeat (first | (with_reducible first | exact HB.out | apply below_alloc | apply pw_below_drewN | apply below_drew1 | refine below_set ?_ GE629.out | refine below_set ?_ GE630.out) | exact HB.out))⟩; clear HO633 HO636 HO639 BK629 BK630 HB hq_; have HO633 := n0_; have HO636 := n1_; have HO639 := n2_; have BK629 := n3_; have BK630 := n4_; have HB := n5_; clear n0_ n1_ n2_ n3_ n4_ n5_)); have hnb20 := NB629_630.out; have hnc20 := NB630_629.out; have hcz21_0 : w18.cell? ⟨gb629, 0, none⟩ = some (.int .u64 a0_0) := (blk_cell BK629.out 0).trans rfl; have hcz21_1 : w18.cell? ⟨gb629, 1, none⟩ = some (.int .u64 a0_1) := (blk_cell BK629.out 1).trans rfl; have hfz21_0 := blk_frozen BK629.out 0; have hfz21_1 := blk_frozen BK629.out 1; have hcz22_0 : w18.cell? ⟨gb630, 0, none⟩ = some (.int .u64 a1_0) := (blk_cell BK630.out 0).trans rfl; have hcz22_1 : w18.cell? ⟨gb630, 1, none⟩ = some (.int .u64 a1_1) := (blk_cell BK630.out 1).trans rfl; have hfz22_0 := blk_frozen BK630.out 0; have hfz22_1 := blk_frozen BK630.out 1) | ((with_reducible refine gate_callee (f := 73) rfl ?_); refine goesL_ (some 19) rfl rfl Try.func73 (by kernel_rfl) rfl #[.agg #[.int .u64 a0_0, .int .u64 a0_1], .agg #[.int .u64 a1_0, .int .u64 a1_1]] rfl (by (try simp only [List.map_toArray, List.map_cons, List.map_nil]); first | done | rfl | (simp only [List.length_drop, List.length_take]; rfl)) ?_; (with_reducible refine (impl_WideMul.calls a0_0 a0_1 a1_0 a1_1 t641 t642 true _ A8.out).mono ?_); rintro e w23 ⟨rfl, hb⟩; refine ⟨_, rfl, ?_⟩; have n0_ := Aside0.mk (Kd.V_below (by (with_reducible repeat (first | apply Kd.V_alloc | apply Kd.V_drewN | apply Kd.V_drew)); exact HO633.out) hb); have n1_ := Aside0.mk (Kd.V_below (by (with_reducible repeat (first | apply Kd.V_alloc | apply Kd.V_drewN | apply Kd.V_drew)); exact HO636.out) hb); have n2_ := Aside0.mk (Kd.V_below (by (with_reducible repeat (first | apply Kd.V_alloc | apply Kd.V_drewN | apply Kd.V_drew)); exact HO639.out) hb); have n3_ := Aside0.mk (blk_below (g := gb629) (o := .cells #[.int .u64 a0_0, .int .u64 a0_1] 24 (0, 0)) (by (with_reducible repeat (first | refine blk_drewN ?_ _ | refine blk_drew ?_ | refine blk_alloc ?_ _)); exact BK629.out) hb); have n4_ := Aside0.mk (blk_below (g := gb630) (o := .cells #[.int .u64 a1_0, .int .u64 a1_1] 24 (0, 0)) (by (with_reducible repeat (first | refine blk_drewN ?_ _ | refine blk_drew ?_ | refine blk_alloc ?_ _)); exact BK630.out) hb); have n5_ := Aside0.mk (below_step (by repeat (first | (with_reducible first | exact HB.out | apply below_alloc | apply pw_below_drewN | apply below_drew1 | refine below_set ?_ GE629.out | refine below_set ?_ GE630.out) | exact HB.out)) hb); clear HO633; clear HO636; clear HO639; clear BK629; clear BK630; clear HB; have HO633 := n0_; have HO636 := n1_; have HO639 := n2_; have BK629 := n3_; have BK630 := n4_; have HB := n5_; clear n0_ n1_ n2_ n3_ n4_ n5_; (try clear hb); (try clear hb2); (try clear hk); (try clear hi)) | ((with_reducible refine gate_dst (N := 6) rfl ?_); refine box_event ?hg (N := 6) ?hd (cs := #[.int .u64 0, .int .u64 0]) (t := 24) ?hr ?_; (case hd => rfl); (case hg => rfl); (case hr => first | (go_simp; done) | (go_simp; rfl)); intro gb644 hg w24 hbox hb; have n0_ := Aside0.mk (Kd.V_below (Kd.V_elderB (by (with_reducible repeat (first | apply Kd.V_alloc | apply Kd.V_drewN | apply Kd.V_drew)); exact HO633.out) gb644 (Nat.le_of_eq hg.symm)) hb); have n1_ := Aside0.mk (Kd.V_below (Kd.V_elderB (by (with_reducible repeat (first | apply Kd.V_alloc | apply Kd.V_drewN | apply Kd.V_drew)); exact HO636.out) gb644 (Nat.le_of_eq hg.symm)) hb); have n2_ := Aside0.mk (Kd.V_below (Kd.V_elderB (by (with_reducible repeat (first | apply Kd.V_alloc | apply Kd.V_drewN | apply Kd.V_drew)); exact HO639.out) gb644 (Nat.le_of_eq hg.symm)) hb); have n3_ := Aside0.mk (blk_below (g := gb629) (o := .cells #[.int .u64 a0_0, .int .u64 a0_1] 24 (0, 0)) (by (with_reducible repeat (first | refine blk_drewN ?_ _ | refine blk_drew ?_ | refine blk_alloc ?_ _)); exact BK629.out) hb); have n4_ := Aside0.mk (blk_below (g := gb630) (o := .cells #[.int .u64 a1_0, .int .u64 a1_1] 24 (0, 0)) (by (with_reducible repeat (first | refine blk_drewN ?_ _ | refine blk_drew ?_ | refine blk_alloc ?_ _)); exact BK630.out) hb); have n5_ := Aside0.mk (below_step (by repeat (first | (with_reducible first | exact HB.out | apply below_alloc | apply pw_below_drewN | apply below_drew1 | refine below_set ?_ GE629.out | refine below_set ?_ GE630.out) | exact HB.out)) hb); have n6_ := Aside0.mk (hbox); have n7_ := Aside0.mk ((by rw [hg]; exact (below_size (by repeat (first | (with_reducible first | exact HB.out | apply below_alloc | apply pw_below_drewN | apply below_drew1 | refine below_set ?_ GE629.out | refine below_set ?_ GE630.out) | exact HB.out))) : w.heap.size ≤ gb644)); have n8_ := Aside0.mk ((by rw [hg]; exact (below_size (by repeat (first | (with_reducible first | exact HB.out | apply below_alloc | apply pw_below_drewN | apply below_drew1 | refine below_set ?_ GE629.out | refine below_set ?_ GE630.out) | exact HB.out))) : w.heap.size ≤ gb644)); have n9_ := Aside0.mk ((by rw [hg]; exact Nat.ne_of_lt (blk_lt (g := gb629) (o := .cells #[.int .u64 a0_0, .int .u64 a0_1] 24 (0, 0)) (by (with_reducible repeat (first | refine blk_drewN ?_ _ | refine blk_drew ?_ | refine blk_alloc ?_ _)); exact BK629.out)) : gb629 ≠ gb644)); have n10_ := Aside0.mk ((by rw [hg]; exact Nat.ne_of_gt (blk_lt (g := gb629) (o := .cells #[.int .u64 a0_0, .int .u64 a0_1] 24 (0, 0)) (by (with_reducible repeat (first | refine blk_drewN ?_ _ | refine blk_drew ?_ | refine blk_alloc ?_ _)); exact BK629.out)) : gb644 ≠ gb629)); have n11_ := Aside0.mk ((by rw [hg]; exact Nat.ne_of_lt (blk_lt (g := gb630) (o := .cells #[.int .u64 a1_0, .int .u64 a1_1] 24 (0, 0)) (by (with_reducible repeat (first | refine blk_drewN ?_ _ | refine blk_drew ?_ | refine blk_alloc ?_ _)); exact BK630.out)) : gb630 ≠ gb644)); have n12_ := Aside0.mk ((by rw [hg]; exact Nat.ne_of_gt (blk_lt (g := gb630) (o := .cells #[.int .u64 a1_0, .int .u64 a1_1] 24 (0, 0)) (by (with_reducible repeat (first | refine blk_drewN ?_ _ | refine blk_drew ?_ | refine blk_alloc ?_ _)); exact BK630.out)) : gb644 ≠ gb630)); clear HO633; clear HO636; clear HO639; clear BK629; clear BK630; clear HB; have HO633 := n0_; have HO636 := n1_; have HO639 := n2_; have BK629 := n3_; have BK630 := n4_; have HB := n5_; have BK644 := n6_; have GW644 := n7_; have GE644 := n8_; have NB629_644 := n9_; have NB644_629 := n10_; have NB630_644 := n11_; have NB644_630 := n12_; clear n0_ n1_ n2_ n3_ n4_ n5_ n6_ n7_ n8_ n9_ n10_ n11_ n12_; clear hb hbox hg; have hnb25 := NB644_629.out; have hnc25 := NB629_644.out; have hnb26 := NB644_630.out; have hnc26 := NB630_644.out; have hcz27_0 : w24.cell? ⟨gb644, 0, none⟩ = some (.int .u64 0) := (blk_cell BK644.out 0).trans rfl; have hcz27_1 : w24.cell? ⟨gb644, 1, none⟩ = some (.int .u64 0) := (blk_cell BK644.out 1).trans rfl; have hfz27_0 := blk_frozen BK644.out 0; have hfz27_1 := blk_frozen BK644.out 1) | (go_at_call 27; (with_reducible refine (laws_wideIs.calls k t641 t642 _ _ t637 t645 _ ?side1 ?side2 A10.out).mono ?_); (case side1 => refine (Kd.V_reads' (e := 3) (base := w.heap.size) (ok := fun k_ => ((k_ ≠ gb629 ∧ k_ ≠ gb630) ∧ k_ ≠ gb644)) (n := t637.length) (c := co19) ?_).2.2; exact (by (with_reducible repeat (first | apply Kd.V_alloc | apply Kd.V_drewN | apply Kd.V_drew)); exact (Kd.V_mono (Kd.V_far (p := ⟨gb644, 1, none⟩) (Kd.V_far (p := ⟨gb644, 0, none⟩) (Kd.V_mono HO639.out (fun k_ hk => (⟨hk, hk.2⟩ : _ ∧ k_ ≠ gb644))) (fun _ hk => hk.2) (.int .u64 t641)) (fun _ hk => hk.2) (.int .u64 t642)) (fun _ h_ => h_.1)))); (case side2 => exact (Kd.V_reads' HO639.out).2.1); rintro e w28 ⟨rfl, hb⟩; have n0_ := Aside0.mk (Kd.V_below (by (with_reducible repeat (first | apply Kd.V_alloc | apply Kd.V_drewN | apply Kd.V_drew)); exact (Kd.V_mono (Kd.V_far (p := ⟨gb644, 1, none⟩) (Kd.V_far (p := ⟨gb644, 0, none⟩) (Kd.V_mono HO633.out (fun k_ hk => (⟨hk, hk.2⟩ : _ ∧ k_ ≠ gb644))) (fun _ hk => hk.2) (.int .u64 t641)) (fun _ hk => hk.2) (.int .u64 t642)) (fun _ h_ => h_.1))) hb); have n1_ := Aside0.mk (Kd.V_below (by (with_reducible repeat (first | apply Kd.V_alloc | apply Kd.V_drewN | apply Kd.V_drew)); exact (Kd.V_mono (Kd.V_far (p := ⟨gb644, 1, none⟩) (Kd.V_far (p := ⟨gb644, 0, none⟩) (Kd.V_mono HO636.out (fun k_ hk => (⟨hk, hk.2⟩ : _ ∧ k_ ≠ gb644))) (fun _ hk => hk.2) (.int .u64 t641)) (fun _ hk => hk.2) (.int .u64 t642)) (fun _ h_ => h_.1))) hb); have n2_ := Aside0.mk (Kd.V_below (by (with_reducible repeat (first | apply Kd.V_alloc | apply Kd.V_drewN | apply Kd.V_drew)); exact (Kd.V_mono (Kd.V_far (p := ⟨gb644, 1, none⟩) (Kd.V_far (p := ⟨gb644, 0, none⟩) (Kd.V_mono HO639.out (fun k_ hk => (⟨hk, hk.2⟩ : _ ∧ k_ ≠ gb644))) (fun _ hk => hk.2) (.int .u64 t641)) (fun _ hk => hk.2) (.int .u64 t642)) (fun _ h_ => h_.1))) hb); have n3_ := Aside0.mk (blk_below (g := gb629) (o := .cells #[.int .u64 a0_0, .int .u64 a0_1] 24 (0, 0)) (by (with_reducible repeat (first | refine blk_drewN ?_ _ | refine blk_drew ?_ | refine blk_alloc ?_ _)); refine blk_far ?_ NB629_644.out _; (with_reducible repeat (first | refine blk_drewN ?_ _ | refine blk_drew ?_ | refine blk_alloc ?_ _)); refine blk_far ?_ NB629_644.out _; (with_reducible repeat (first | refine blk_drewN ?_ _ | refine blk_drew ?_ | refine blk_alloc ?_ _)); exact BK629.out) hb); have n4_ := Aside0.mk (blk_below (g := gb630) (o := .cells #[.int .u64 a1_0, .int .u64 a1_1] 24 (0, 0)) (by (with_reducible repeat (first | refine blk_drewN ?_ _ | refine blk_drew ?_ | refine blk_alloc ?_ _)); refine blk_far ?_ NB630_644.out _; (with_reducible repeat (first | refine blk_drewN ?_ _ | refine blk_drew ?_ | refine blk_alloc ?_ _)); refine blk_far ?_ NB630_644.out _; (with_reducible repeat (first | refine blk_drewN ?_ _ | refine blk_drew ?_ | refine blk_alloc ?_ _)); exact BK630.out) hb); have n5_ := Aside0.mk (blk_below (g := gb644) (o := .cells #[.int .u64 t641, .int .u64 t642] 24 (0, 0)) (by (with_reducible repeat (first | refine blk_drewN ?_ _ | refine blk_drew ?_ | refine blk_alloc ?_ _)); refine blk_put (cs := #[.int .u64 t641, .int .u64 0]) ?_ 1 _ rfl; (with_reducible repeat (first | refine blk_drewN ?_ _ | refine blk_drew ?_ | refine blk_alloc ?_ _)); refine blk_put (cs := #[.int .u64 0, .int .u64 0]) ?_ 0 _ rfl; (with_reducible repeat (first | refine blk_drewN ?_ _ | refine blk_drew ?_ | refine blk_alloc ?_ _)); exact BK644.out) hb); have n6_ := Aside0.mk (below_step (by repeat (first | (with_reducible first | exact HB.out | apply below_alloc | apply pw_below_drewN | apply below_drew1 | refine below_set ?_ GE629.out | refine below_set ?_ GE630.out | refine below_set ?_ GE644.out) | exact HB.out)) hb); clear HO633; clear HO636; clear HO639; clear BK629; clear BK630; clear BK644; clear HB; have HO633 := n0_; have HO636 := n1_; have HO639 := n2_; have BK629 := n3_; have BK630 := n4_; have BK644 := n5_; have HB := n6_; clear n0_ n1_ n2_ n3_ n4_ n5_ n6_; (try clear hb); (try clear hb2); (try clear hk); (try clear hi)))
      go_ret
      exact ⟨by first | rfl | (simp [errW_none, errW_some] <;> rfl) | (simp [*, errW_none, errW_some] <;> rfl), by repeat (first | (with_reducible first | exact HB.out | apply below_alloc | apply pw_below_drewN | apply below_drew1 | refine below_set ?_ GE629.out | refine below_set ?_ GE630.out | refine below_set ?_ GE644.out) | exact HB.out)⟩
    · replace c9 := Bool.eq_false_iff.mpr c9
      subst c9
      have H1 : (some false) = some r := by rw [if_neg (show ¬ (false = true) by decide)] at H; exact H
      clear H
      have H := H1
      clear H1
      obtain rfl := Option.some.inj H
      go_enter Try.func22, Try.ntmps22
      try go_wp2_with (first | ((with_reducible refine gate_dst (N := 2) rfl ?_); refine box_event ?hg (N := 2) ?hd (cs := #[.int .u64 a0_0, .int .u64 a0_1]) (t := 24) ?hr ?_; (case hd => rfl); (case hg => rfl); (case hr => first | (go_simp; done) | (go_simp; rfl)); intro gb629 hg w29 hbox hb; have n0_ := Aside0.mk (below_step (by repeat (first | (with_reducible first | exact HB.out | apply below_alloc | apply pw_below_drewN | apply below_drew1) | exact HB.out)) hb); have n1_ := Aside0.mk (hbox); have n2_ := Aside0.mk ((by rw [hg]; exact (below_size (by repeat (first | (with_reducible first | exact HB.out | apply below_alloc | apply pw_below_drewN | apply below_drew1) | exact HB.out))) : w.heap.size ≤ gb629)); have n3_ := Aside0.mk ((by rw [hg]; exact (below_size (by repeat (first | (with_reducible first | exact HB.out | apply below_alloc | apply pw_below_drewN | apply below_drew1) | exact HB.out))) : w.heap.size ≤ gb629)); clear HB; have HB := n0_; have BK629 := n1_; have GW629 := n2_; have GE629 := n3_; clear n0_ n1_ n2_ n3_; clear hb hbox hg) | ((with_reducible refine gate_dst (N := 3) rfl ?_); refine box_event ?hg (N := 3) ?hd (cs := #[.int .u64 a1_0, .int .u64 a1_1]) (t := 24) ?hr ?_; (case hd => rfl); (case hg => rfl); (case hr => first | (go_simp; done) | (go_simp; rfl)); intro gb630 hg w30 hbox hb; have n0_ := Aside0.mk (blk_below (g := gb629) (o := .cells #[.int .u64 a0_0, .int .u64 a0_1] 24 (0, 0)) (by (with_reducible repeat (first | refine blk_drewN ?_ _ | refine blk_drew ?_ | refine blk_alloc ?_ _)); exact BK629.out) hb); have n1_ := Aside0.mk (below_step (by repeat (first | (with_reducible first | exact HB.out | apply below_alloc | apply pw_below_drewN | apply below_drew1 | refine below_set ?_ GE629.out) | exact HB.out)) hb); have n2_ := Aside0.mk (hbox); have n3_ := Aside0.mk ((by rw [hg]; exact (below_size (by repeat (first | (with_reducible first | exact HB.out | apply below_alloc | apply pw_below_drewN | apply below_drew1 | refine below_set ?_ GE629.out) | exact HB.out))) : w.heap.size ≤ gb630)); have n4_ := Aside0.mk ((by rw [hg]; exact (below_size (by repeat (first | (with_reducible first | exact HB.out | apply below_alloc | apply pw_below_drewN | apply below_drew1 | refine below_set ?_ GE629.out) | exact HB.out))) : w.heap.size ≤ gb630)); have n5_ := Aside0.mk ((by rw [hg]; exact Nat.ne_of_lt (blk_lt (g := gb629) (o := .cells #[.int .u64 a0_0, .int .u64 a0_1] 24 (0, 0)) (by (with_reducible repeat (first | refine blk_drewN ?_ _ | refine blk_drew ?_ | refine blk_alloc ?_ _)); exact BK629.out)) : gb629 ≠ gb630)); have n6_ := Aside0.mk ((by rw [hg]; exact Nat.ne_of_gt (blk_lt (g := gb629) (o := .cells #[.int .u64 a0_0, .int .u64 a0_1] 24 (0, 0)) (by (with_reducible repeat (first | refine blk_drewN ?_ _ | refine blk_drew ?_ | refine blk_alloc ?_ _)); exact BK629.out)) : gb630 ≠ gb629)); clear BK629; clear HB; have BK629 := n0_; have HB := n1_; have BK630 := n2_; have GW630 := n3_; have GE630 := n4_; have NB629_630 := n5_; have NB630_629 := n6_; clear n0_ n1_ n2_ n3_ n4_ n5_ n6_; clear hb hbox hg))
      have n0_ := Aside0.mk (blk_drew BK629.out)
      have n1_ := Aside0.mk (blk_drew BK630.out)
      have n2_ := Aside0.mk (below_drew1 HB.out)
      clear BK629
      clear BK630
      clear HB
      have BK629 := n0_
      have BK630 := n1_
      have HB := n2_
      clear n0_ n1_ n2_
      refine start_ (n := 6) (S := fun w' => w'.cell? ⟨gb629, 0, none⟩ = some (.int .u64 a0_0) ∧ w'.cell? ⟨gb629, 1, none⟩ = some (.int .u64 a0_1) ∧ w'.cell? ⟨gb630, 0, none⟩ = some (.int .u64 a1_0) ∧ w'.cell? ⟨gb630, 1, none⟩ = some (.int .u64 a1_1)) (ds := []) #[false, false, false, false, false, false] (by kernel_rfl) rfl rfl ⟨(blk_cell BK629.out 0).trans rfl, (blk_cell BK629.out 1).trans rfl, (blk_cell BK630.out 0).trans rfl, (blk_cell BK630.out 1).trans rfl⟩ (fun hHeld => ?_)
      generalize w30.drew = w31 at BK629 BK630 HB hHeld ⊢
      refine take_ (i := 0) (N := some 8) (v := ?_) (a' := ?_) #[true, false, false, false, false, false] rfl rfl (by kernel_rfl) (fun _ _ _ h => h) (Or.inl ⟨by rfl, ?_⟩) hHeld ?_ ?_
      rotate_left
      · rintro w' ⟨s0, s1, s2, s3⟩
        go_simp
        with_reducible rfl
      rotate_left
      · simp only [Act.put, List.setIfInBounds_toArray, List.set_cons_zero, List.set_cons_succ, i64_w, i32_w]
        rfl
      refine take_ (i := 2) (N := some 10) (v := ?_) (a' := ?_) #[true, false, true, false, false, false] rfl rfl (by kernel_rfl) (fun _ _ _ h => h) (Or.inl ⟨by rfl, ?_⟩) hHeld ?_ ?_
      rotate_left
      · rintro w' ⟨s0, s1, s2, s3⟩
        go_simp
        with_reducible rfl
      rotate_left
      · simp only [Act.put, List.setIfInBounds_toArray, List.set_cons_zero, List.set_cons_succ, i64_w, i32_w]
        rfl
      refine one_ (i := 1) (N := some 9) #[true, true, true, false, false, false] rfl rfl (by kernel_rfl) (by decide) (fun K hK => ?_)
      refine goes_ Try.func25 (by kernel_rfl) rfl #[.agg #[.int .u64 a0_0, .int .u64 a0_1]] (by rfl) rfl rfl (by (try simp only [List.map_toArray, List.map_cons, List.map_nil]); first | done | rfl | (simp only [List.length_drop, List.length_take]; rfl)) ?_
      with_reducible refine (laws_wideWhole.calls a0_0 a0_1 t631 _ A3.out).mono ?_
      rintro e w32 ⟨v632, rfl, ho0, hb⟩
      refine ⟨_, rfl, ?_⟩
      have n0_ := Aside0.mk (Kd.V_lower (Kd.V_mono (ok' := fun k_ => k_ ≠ gb629 ∧ k_ ≠ gb630) ho0 (fun k_ hk_ => ⟨(Kd.freshB (g := gb629) (o := .cells #[.int .u64 a0_0, .int .u64 a0_1] 24 (0, 0)) (by (with_reducible repeat (first | refine blk_drewN ?_ _ | refine blk_drew ?_ | refine blk_alloc ?_ _)); exact BK629.out) k_ hk_), (Kd.freshB (g := gb630) (o := .cells #[.int .u64 a1_0, .int .u64 a1_1] 24 (0, 0)) (by (with_reducible repeat (first | refine blk_drewN ?_ _ | refine blk_drew ?_ | refine blk_alloc ?_ _)); exact BK630.out) k_ hk_)⟩)) (below_size (by repeat (first | (with_reducible first | exact HB.out | apply below_alloc | apply pw_below_drewN | apply below_drew1 | refine below_set ?_ GE629.out | refine below_set ?_ GE630.out) | exact HB.out))))
      have n1_ := Aside0.mk (blk_below (g := gb629) (o := .cells #[.int .u64 a0_0, .int .u64 a0_1] 24 (0, 0)) (by (with_reducible repeat (first | refine blk_drewN ?_ _ | refine blk_drew ?_ | refine blk_alloc ?_ _)); exact BK629.out) hb)
      have n2_ := Aside0.mk (blk_below (g := gb630) (o := .cells #[.int .u64 a1_0, .int .u64 a1_1] 24 (0, 0)) (by (with_reducible repeat (first | refine blk_drewN ?_ _ | refine blk_drew ?_ | refine blk_alloc ?_ _)); exact BK630.out) hb)
      have n3_ := Aside0.mk (below_step (by repeat (first | (with_reducible first | exact HB.out | apply below_alloc | apply pw_below_drewN | apply below_drew1 | refine below_set ?_ GE629.out | refine below_set ?_ GE630.out) | exact HB.out)) hb)
      clear BK629
      clear BK630
      clear HB
      have HO633 := n0_
      have BK629 := n1_
      have BK630 := n2_
      have HB := n3_
      clear n0_ n1_ n2_ n3_
      (try clear hb)
      (try clear hb2)
      (try clear hk)
      (try clear hi)
      (try clear ho0)
      refine hK.out _ _ ⟨(blk_cell BK629.out 0).trans rfl, (blk_cell BK629.out 1).trans rfl, (blk_cell BK630.out 0).trans rfl, (blk_cell BK630.out 1).trans rfl⟩ (fun hHeld => ?_)
      clear hK K
      refine norm_ (a' := ?_) ?_ ?_
      rotate_left
      · show Act.put _ (some 9) _ = _
        simp only [Act.put, List.setIfInBounds_toArray, List.set_cons_zero, List.set_cons_succ, i64_w, i32_w]
        rfl
      refine one_ (i := 3) (N := some 11) #[true, true, true, true, false, false] rfl rfl (by kernel_rfl) (by decide) (fun K hK => ?_)
      refine goes_ Try.func25 (by kernel_rfl) rfl #[.agg #[.int .u64 a1_0, .int .u64 a1_1]] (by rfl) rfl rfl (by (try simp only [List.map_toArray, List.map_cons, List.map_nil]); first | done | rfl | (simp only [List.length_drop, List.length_take]; rfl)) ?_
      with_reducible refine (laws_wideWhole.calls a1_0 a1_1 t634 _ A4.out).mono ?_
      rintro e w33 ⟨v635, rfl, ho0, hb⟩
      refine ⟨_, rfl, ?_⟩
      have n0_ := Aside0.mk (Kd.V_below (by (with_reducible repeat (first | apply Kd.V_alloc | apply Kd.V_drewN | apply Kd.V_drew)); exact HO633.out) hb)
      have n1_ := Aside0.mk (Kd.V_lower (Kd.V_mono (ok' := fun k_ => k_ ≠ gb629 ∧ k_ ≠ gb630) ho0 (fun k_ hk_ => ⟨(Kd.freshB (g := gb629) (o := .cells #[.int .u64 a0_0, .int .u64 a0_1] 24 (0, 0)) (by (with_reducible repeat (first | refine blk_drewN ?_ _ | refine blk_drew ?_ | refine blk_alloc ?_ _)); exact BK629.out) k_ hk_), (Kd.freshB (g := gb630) (o := .cells #[.int .u64 a1_0, .int .u64 a1_1] 24 (0, 0)) (by (with_reducible repeat (first | refine blk_drewN ?_ _ | refine blk_drew ?_ | refine blk_alloc ?_ _)); exact BK630.out) k_ hk_)⟩)) (below_size (by repeat (first | (with_reducible first | exact HB.out | apply below_alloc | apply pw_below_drewN | apply below_drew1 | refine below_set ?_ GE629.out | refine below_set ?_ GE630.out) | exact HB.out))))
      have n2_ := Aside0.mk (blk_below (g := gb629) (o := .cells #[.int .u64 a0_0, .int .u64 a0_1] 24 (0, 0)) (by (with_reducible repeat (first | refine blk_drewN ?_ _ | refine blk_drew ?_ | refine blk_alloc ?_ _)); exact BK629.out) hb)
      have n3_ := Aside0.mk (blk_below (g := gb630) (o := .cells #[.int .u64 a1_0, .int .u64 a1_1] 24 (0, 0)) (by (with_reducible repeat (first | refine blk_drewN ?_ _ | refine blk_drew ?_ | refine blk_alloc ?_ _)); exact BK630.out) hb)
      have n4_ := Aside0.mk (below_step (by repeat (first | (with_reducible first | exact HB.out | apply below_alloc | apply pw_below_drewN | apply below_drew1 | refine below_set ?_ GE629.out | refine below_set ?_ GE630.out) | exact HB.out)) hb)
      clear HO633
      clear BK629
      clear BK630
      clear HB
      have HO633 := n0_
      have HO636 := n1_
      have BK629 := n2_
      have BK630 := n3_
      have HB := n4_
      clear n0_ n1_ n2_ n3_ n4_
      (try clear hb)
      (try clear hb2)
      (try clear hk)
      (try clear hi)
      (try clear ho0)
      obtain ⟨Ao34, co34, eo34⟩ := Kd.V_slice HO633.out
      (first | subst eo34 | (injection eo34 with f1_ f2_ f3_; have f4_ := f1_.symm; have f5_ := f3_.symm; clear f1_ f2_ f3_; subst f4_; subst f5_))
      obtain ⟨Ao35, co35, eo35⟩ := Kd.V_slice HO636.out
      (first | subst eo35 | (injection eo35 with f1_ f2_ f3_; have f4_ := f1_.symm; have f5_ := f3_.symm; clear f1_ f2_ f3_; subst f4_; subst f5_))
      refine hK.out _ _ ⟨(blk_cell BK629.out 0).trans rfl, (blk_cell BK629.out 1).trans rfl, (blk_cell BK630.out 0).trans rfl, (blk_cell BK630.out 1).trans rfl⟩ (fun hHeld => ?_)
      clear hK K
      refine norm_ (a' := ?_) ?_ ?_
      rotate_left
      · show Act.put _ (some 11) _ = _
        simp only [Act.put, List.setIfInBounds_toArray, List.set_cons_zero, List.set_cons_succ, i64_w, i32_w]
        rfl
      refine one_ (i := 4) (N := some 12) #[true, true, true, true, true, false] rfl rfl (by kernel_rfl) (by decide) (fun K hK => ?_)
      refine goes_ Try.func66 (by kernel_rfl) rfl #[.slice Ao34 t631.length co34, .slice Ao35 t634.length co35] (by rfl) rfl rfl (by (try simp only [List.map_toArray, List.map_cons, List.map_nil]); first | done | rfl | (simp only [List.length_drop, List.length_take]; rfl)) ?_
      with_reducible refine (spec_Product.calls k _ _ t631 _ _ t634 t637 _ ?side1 ?side2 ?side3 ?side4 A5.out).mono ?_
      (case side1 => repeat (first | exact (Kd.V_reads' HO633.out).2.2 | (with_reducible refine Kd.C_alloc ?_ _) | (with_reducible refine Kd.C_drewN ?_ _) | (with_reducible refine Kd.C_drew ?_)))
      (case side2 => exact (Kd.V_reads' HO633.out).2.1)
      (case side3 => repeat (first | exact (Kd.V_reads' HO636.out).2.2 | (with_reducible refine Kd.C_alloc ?_ _) | (with_reducible refine Kd.C_drewN ?_ _) | (with_reducible refine Kd.C_drew ?_)))
      (case side4 => exact (Kd.V_reads' HO636.out).2.1)
      rintro e w36 ⟨v638, rfl, ho0, hb⟩
      refine ⟨_, rfl, ?_⟩
      have n0_ := Aside0.mk (Kd.V_below (by (with_reducible repeat (first | apply Kd.V_alloc | apply Kd.V_drewN | apply Kd.V_drew)); exact HO633.out) hb)
      have n1_ := Aside0.mk (Kd.V_below (by (with_reducible repeat (first | apply Kd.V_alloc | apply Kd.V_drewN | apply Kd.V_drew)); exact HO636.out) hb)
      have n2_ := Aside0.mk (Kd.V_lower (Kd.V_mono (ok' := fun k_ => k_ ≠ gb629 ∧ k_ ≠ gb630) ho0 (fun k_ hk_ => ⟨(Kd.freshB (g := gb629) (o := .cells #[.int .u64 a0_0, .int .u64 a0_1] 24 (0, 0)) (by (with_reducible repeat (first | refine blk_drewN ?_ _ | refine blk_drew ?_ | refine blk_alloc ?_ _)); exact BK629.out) k_ hk_), (Kd.freshB (g := gb630) (o := .cells #[.int .u64 a1_0, .int .u64 a1_1] 24 (0, 0)) (by (with_reducible repeat (first | refine blk_drewN ?_ _ | refine blk_drew ?_ | refine blk_alloc ?_ _)); exact BK630.out) k_ hk_)⟩)) (below_size (by repeat (first | (with_reducible first | exact HB.out | apply below_alloc | apply pw_below_drewN | apply below_drew1 | refine below_set ?_ GE629.out | refine below_set ?_ GE630.out) | exact HB.out))))
      have n3_ := Aside0.mk (blk_below (g := gb629) (o := .cells #[.int .u64 a0_0, .int .u64 a0_1] 24 (0, 0)) (by (with_reducible repeat (first | refine blk_drewN ?_ _ | refine blk_drew ?_ | refine blk_alloc ?_ _)); exact BK629.out) hb)
      have n4_ := Aside0.mk (blk_below (g := gb630) (o := .cells #[.int .u64 a1_0, .int .u64 a1_1] 24 (0, 0)) (by (with_reducible repeat (first | refine blk_drewN ?_ _ | refine blk_drew ?_ | refine blk_alloc ?_ _)); exact BK630.out) hb)
      have n5_ := Aside0.mk (below_step (by repeat (first | (with_reducible first | exact HB.out | apply below_alloc | apply pw_below_drewN | apply below_drew1 | refine below_set ?_ GE629.out | refine below_set ?_ GE630.out) | exact HB.out)) hb)
      clear HO633
      clear HO636
      clear BK629
      clear BK630
      clear HB
      have HO633 := n0_
      have HO636 := n1_
      have HO639 := n2_
      have BK629 := n3_
      have BK630 := n4_
      have HB := n5_
      clear n0_ n1_ n2_ n3_ n4_ n5_
      (try clear hb)
      (try clear hb2)
      (try clear hk)
      (try clear hi)
      (try clear ho0)
      refine hK.out _ _ ⟨(blk_cell BK629.out 0).trans rfl, (blk_cell BK629.out 1).trans rfl, (blk_cell BK630.out 0).trans rfl, (blk_cell BK630.out 1).trans rfl⟩ (fun hHeld => ?_)
      clear hK K
      refine norm_ (a' := ?_) ?_ ?_
      rotate_left
      · show Act.put _ (some 12) _ = _
        simp only [Act.put, List.setIfInBounds_toArray, List.set_cons_zero, List.set_cons_succ, i64_w, i32_w]
        rfl
      refine pure_ (i := 5) (N := some 5) (v := ?_) (a' := ?_) #[true, true, true, true, true, true] rfl rfl (by kernel_rfl) (fun _ _ _ h => h) (Or.inl ⟨by rfl, ?_⟩) ?_ ?_
      rotate_left
      · intro w'
        go_simp
        with_reducible rfl
      rotate_left
      · simp only [Act.put, List.setIfInBounds_toArray, List.set_cons_zero, List.set_cons_succ, i64_w, i32_w]
        rfl
      refine done_ (by kernel_rfl) ?_
      obtain ⟨Ao37, co37, eo37⟩ := Kd.V_slice HO639.out
      subst eo37
      try go_wp2_with (first | ((with_reducible refine gate_callee (f := 63) rfl ?_); refine goesL_ (some 14) rfl rfl Try.func63 (by kernel_rfl) rfl #[.slice Ao37 t637.length co37] rfl (by (try simp only [List.map_toArray, List.map_cons, List.map_nil]); first | done | rfl | (simp only [List.length_drop, List.length_take]; rfl)) ?_; (with_reducible refine (spec_Fits.calls k _ _ t637 true _ ?side1 ?side2 A6.out).mono ?_); (case side1 => repeat (first | exact (Kd.V_reads' HO639.out).2.2 | (with_reducible refine Kd.C_alloc ?_ _) | (with_reducible refine Kd.C_drewN ?_ _) | (with_reducible refine Kd.C_drew ?_))); (case side2 => exact (Kd.V_reads' HO639.out).2.1); rintro e w' ⟨rfl, ⟨nd, rfl⟩⟩; refine ⟨_, rfl, ?_⟩; (try (rw [drewN_self w36]; generalize hq_ : World.drewN w36 _ = w36; have n0_ : Aside0 (Kd.V (Kd.int .i64) 3 w36 w.heap.size (fun k_ => k_ ≠ gb629 ∧ k_ ≠ gb630) (.slice Ao34 t631.length co34) t631) := ⟨by rw [← hq_]; exact (by (with_reducible repeat (first | apply Kd.V_alloc | apply Kd.V_drewN | apply Kd.V_drew)); exact HO633.out)⟩; have n1_ : Aside0 (Kd.V (Kd.int .i64) 3 w36 w.heap.size (fun k_ => k_ ≠ gb629 ∧ k_ ≠ gb630) (.slice Ao35 t634.length co35) t634) := ⟨by rw [← hq_]; exact (by (with_reducible repeat (first | apply Kd.V_alloc | apply Kd.V_drewN | apply Kd.V_drew)); exact HO636.out)⟩; have n2_ : Aside0 (Kd.V (Kd.int .i64) 3 w36 w.heap.size (fun k_ => k_ ≠ gb629 ∧ k_ ≠ gb630) (.slice Ao37 t637.length co37) t637) := ⟨by rw [← hq_]; exact (by (with_reducible repeat (first | apply Kd.V_alloc | apply Kd.V_drewN | apply Kd.V_drew)); exact HO639.out)⟩; have n3_ : Aside0 (w36.heap[gb629]? = some (.cells #[.int .u64 a0_0, .int .u64 a0_1] 24 (0, 0))) := ⟨by rw [← hq_]; exact (by (with_reducible repeat (first | refine blk_drewN ?_ _ | refine blk_drew ?_ | refine blk_alloc ?_ _)); exact BK629.out)⟩; have n4_ : Aside0 (w36.heap[gb630]? = some (.cells #[.int .u64 a1_0, .int .u64 a1_1] 24 (0, 0))) := ⟨by rw [← hq_]; exact (by (with_reducible repeat (first | refine blk_drewN ?_ _ | refine blk_drew ?_ | refine blk_alloc ?_ _)); exact BK630.out)⟩; have n5_ : Aside0 (Below w.heap.size w w36) := ⟨by rw [← hq_]; exact (by repeat (first | (with_reducible first | exact HB.out | apply below_alloc | apply pw_below_drewN | apply below_drew1 | refine below_set ?_ GE629.out | refine below_set ?_ GE630.out) | exact HB.out))⟩; clear HO633 HO636 HO639 BK629 BK630 HB hq_; have HO633 := n0_; have HO636 := n1_; have HO639 := n2_; have BK629 := n3_; have BK630 := n4_; have HB := n5_; clear n0_ n1_ n2_ n3_ n4_ n5_)); have hnb38 := NB629_630.out; have hnc38 := NB630_629.out; have hcz39_0 : w36.cell? ⟨gb629, 0, none⟩ = some (.int .u64 a0_0) := (blk_cell BK629.out 0).trans rfl; have hcz39_1 : w36.cell? ⟨gb629, 1, none⟩ = some (.int .u64 a0_1) := (blk_cell BK629.out 1).trans rfl; have hfz39_0 := blk_frozen BK629.out 0; have hfz39_1 := blk_frozen BK629.out 1; have hcz40_0 : w36.cell? ⟨gb630, 0, none⟩ = some (.int .u64 a1_0) := (blk_cell BK630.out 0).trans rfl; have hcz40_1 : w36.cell? ⟨gb630, 1, none⟩ = some (.int .u64 a1_1) := (blk_cell BK630.out 1).trans rfl; have hfz40_0 := blk_frozen BK630.out 0; have hfz40_1 := blk_frozen BK630.out 1) | ((with_reducible refine gate_callee (f := 73) rfl ?_); refine goesL_ (some 19) rfl rfl Try.func73 (by kernel_rfl) rfl #[.agg #[.int .u64 a0_0, .int .u64 a0_1], .agg #[.int .u64 a1_0, .int .u64 a1_1]] rfl (by (try simp only [List.map_toArray, List.map_cons, List.map_nil]); first | done | rfl | (simp only [List.length_drop, List.length_take]; rfl)) ?_; (with_reducible refine (impl_WideMul.calls a0_0 a0_1 a1_0 a1_1 t641 t642 false _ A8.out).mono ?_); rintro e w41 ⟨rfl, hb⟩; refine ⟨_, rfl, ?_⟩; have n0_ := Aside0.mk (Kd.V_below (by (with_reducible repeat (first | apply Kd.V_alloc | apply Kd.V_drewN | apply Kd.V_drew)); exact HO633.out) hb); have n1_ := Aside0.mk (Kd.V_below (by (with_reducible repeat (first | apply Kd.V_alloc | apply Kd.V_drewN | apply Kd.V_drew)); exact HO636.out) hb); have n2_ := Aside0.mk (Kd.V_below (by (with_reducible repeat (first | apply Kd.V_alloc | apply Kd.V_drewN | apply Kd.V_drew)); exact HO639.out) hb); have n3_ := Aside0.mk (blk_below (g := gb629) (o := .cells #[.int .u64 a0_0, .int .u64 a0_1] 24 (0, 0)) (by (with_reducible repeat (first | refine blk_drewN ?_ _ | refine blk_drew ?_ | refine blk_alloc ?_ _)); exact BK629.out) hb); have n4_ := Aside0.mk (blk_below (g := gb630) (o := .cells #[.int .u64 a1_0, .int .u64 a1_1] 24 (0, 0)) (by (with_reducible repeat (first | refine blk_drewN ?_ _ | refine blk_drew ?_ | refine blk_alloc ?_ _)); exact BK630.out) hb); have n5_ := Aside0.mk (below_step (by repeat (first | (with_reducible first | exact HB.out | apply below_alloc | apply pw_below_drewN | apply below_drew1 | refine below_set ?_ GE629.out | refine below_set ?_ GE630.out) | exact HB.out)) hb); clear HO633; clear HO636; clear HO639; clear BK629; clear BK630; clear HB; have HO633 := n0_; have HO636 := n1_; have HO639 := n2_; have BK629 := n3_; have BK630 := n4_; have HB := n5_; clear n0_ n1_ n2_ n3_ n4_ n5_; (try clear hb); (try clear hb2); (try clear hk); (try clear hi)) | ((with_reducible refine gate_dst (N := 6) rfl ?_); refine box_event ?hg (N := 6) ?hd (cs := #[.int .u64 0, .int .u64 0]) (t := 24) ?hr ?_; (case hd => rfl); (case hg => rfl); (case hr => first | (go_simp; done) | (go_simp; rfl)); intro gb644 hg w42 hbox hb; have n0_ := Aside0.mk (Kd.V_below (Kd.V_elderB (by (with_reducible repeat (first | apply Kd.V_alloc | apply Kd.V_drewN | apply Kd.V_drew)); exact HO633.out) gb644 (Nat.le_of_eq hg.symm)) hb); have n1_ := Aside0.mk (Kd.V_below (Kd.V_elderB (by (with_reducible repeat (first | apply Kd.V_alloc | apply Kd.V_drewN | apply Kd.V_drew)); exact HO636.out) gb644 (Nat.le_of_eq hg.symm)) hb); have n2_ := Aside0.mk (Kd.V_below (Kd.V_elderB (by (with_reducible repeat (first | apply Kd.V_alloc | apply Kd.V_drewN | apply Kd.V_drew)); exact HO639.out) gb644 (Nat.le_of_eq hg.symm)) hb); have n3_ := Aside0.mk (blk_below (g := gb629) (o := .cells #[.int .u64 a0_0, .int .u64 a0_1] 24 (0, 0)) (by (with_reducible repeat (first | refine blk_drewN ?_ _ | refine blk_drew ?_ | refine blk_alloc ?_ _)); exact BK629.out) hb); have n4_ := Aside0.mk (blk_below (g := gb630) (o := .cells #[.int .u64 a1_0, .int .u64 a1_1] 24 (0, 0)) (by (with_reducible repeat (first | refine blk_drewN ?_ _ | refine blk_drew ?_ | refine blk_alloc ?_ _)); exact BK630.out) hb); have n5_ := Aside0.mk (below_step (by repeat (first | (with_reducible first | exact HB.out | apply below_alloc | apply pw_below_drewN | apply below_drew1 | refine below_set ?_ GE629.out | refine below_set ?_ GE630.out) | exact HB.out)) hb); have n6_ := Aside0.mk (hbox); have n7_ := Aside0.mk ((by rw [hg]; exact (below_size (by repeat (first | (with_reducible first | exact HB.out | apply below_alloc | apply pw_below_drewN | apply below_drew1 | refine below_set ?_ GE629.out | refine below_set ?_ GE630.out) | exact HB.out))) : w.heap.size ≤ gb644)); have n8_ := Aside0.mk ((by rw [hg]; exact (below_size (by repeat (first | (with_reducible first | exact HB.out | apply below_alloc | apply pw_below_drewN | apply below_drew1 | refine below_set ?_ GE629.out | refine below_set ?_ GE630.out) | exact HB.out))) : w.heap.size ≤ gb644)); have n9_ := Aside0.mk ((by rw [hg]; exact Nat.ne_of_lt (blk_lt (g := gb629) (o := .cells #[.int .u64 a0_0, .int .u64 a0_1] 24 (0, 0)) (by (with_reducible repeat (first | refine blk_drewN ?_ _ | refine blk_drew ?_ | refine blk_alloc ?_ _)); exact BK629.out)) : gb629 ≠ gb644)); have n10_ := Aside0.mk ((by rw [hg]; exact Nat.ne_of_gt (blk_lt (g := gb629) (o := .cells #[.int .u64 a0_0, .int .u64 a0_1] 24 (0, 0)) (by (with_reducible repeat (first | refine blk_drewN ?_ _ | refine blk_drew ?_ | refine blk_alloc ?_ _)); exact BK629.out)) : gb644 ≠ gb629)); have n11_ := Aside0.mk ((by rw [hg]; exact Nat.ne_of_lt (blk_lt (g := gb630) (o := .cells #[.int .u64 a1_0, .int .u64 a1_1] 24 (0, 0)) (by (with_reducible repeat (first | refine blk_drewN ?_ _ | refine blk_drew ?_ | refine blk_alloc ?_ _)); exact BK630.out)) : gb630 ≠ gb644)); have n12_ := Aside0.mk ((by rw [hg]; exact Nat.ne_of_gt (blk_lt (g := gb630) (o := .cells #[.int .u64 a1_0, .int .u64 a1_1] 24 (0, 0)) (by (with_reducible repeat (first | refine blk_drewN ?_ _ | refine blk_drew ?_ | refine blk_alloc ?_ _)); exact BK630.out)) : gb644 ≠ gb630)); clear HO633; clear HO636; clear HO639; clear BK629; clear BK630; clear HB; have HO633 := n0_; have HO636 := n1_; have HO639 := n2_; have BK629 := n3_; have BK630 := n4_; have HB := n5_; have BK644 := n6_; have GW644 := n7_; have GE644 := n8_; have NB629_644 := n9_; have NB644_629 := n10_; have NB630_644 := n11_; have NB644_630 := n12_; clear n0_ n1_ n2_ n3_ n4_ n5_ n6_ n7_ n8_ n9_ n10_ n11_ n12_; clear hb hbox hg; have hnb43 := NB644_629.out; have hnc43 := NB629_644.out; have hnb44 := NB644_630.out; have hnc44 := NB630_644.out; have hcz45_0 : w42.cell? ⟨gb644, 0, none⟩ = some (.int .u64 0) := (blk_cell BK644.out 0).trans rfl; have hcz45_1 : w42.cell? ⟨gb644, 1, none⟩ = some (.int .u64 0) := (blk_cell BK644.out 1).trans rfl; have hfz45_0 := blk_frozen BK644.out 0; have hfz45_1 := blk_frozen BK644.out 1))
      go_ret
      exact ⟨by first | rfl | (simp [errW_none, errW_some] <;> rfl) | (simp [*, errW_none, errW_some] <;> rfl), by repeat (first | (with_reducible first | exact HB.out | apply below_alloc | apply pw_below_drewN | apply below_drew1 | refine below_set ?_ GE629.out | refine below_set ?_ GE630.out | refine below_set ?_ GE644.out) | exact HB.out)⟩
  · replace c7 := Bool.eq_false_iff.mpr c7
    subst c7
    have H1 : (some true) = some r := by rw [if_neg (show ¬ (false = true) by decide)] at H; exact H
    clear H
    have H := H1
    clear H1
    obtain rfl := Option.some.inj H
    go_enter Try.func22, Try.ntmps22
    try go_wp2_with (first | ((with_reducible refine gate_dst (N := 2) rfl ?_); refine box_event ?hg (N := 2) ?hd (cs := #[.int .u64 a0_0, .int .u64 a0_1]) (t := 24) ?hr ?_; (case hd => rfl); (case hg => rfl); (case hr => first | (go_simp; done) | (go_simp; rfl)); intro gb629 hg w46 hbox hb; have n0_ := Aside0.mk (below_step (by repeat (first | (with_reducible first | exact HB.out | apply below_alloc | apply pw_below_drewN | apply below_drew1) | exact HB.out)) hb); have n1_ := Aside0.mk (hbox); have n2_ := Aside0.mk ((by rw [hg]; exact (below_size (by repeat (first | (with_reducible first | exact HB.out | apply below_alloc | apply pw_below_drewN | apply below_drew1) | exact HB.out))) : w.heap.size ≤ gb629)); have n3_ := Aside0.mk ((by rw [hg]; exact (below_size (by repeat (first | (with_reducible first | exact HB.out | apply below_alloc | apply pw_below_drewN | apply below_drew1) | exact HB.out))) : w.heap.size ≤ gb629)); clear HB; have HB := n0_; have BK629 := n1_; have GW629 := n2_; have GE629 := n3_; clear n0_ n1_ n2_ n3_; clear hb hbox hg) | ((with_reducible refine gate_dst (N := 3) rfl ?_); refine box_event ?hg (N := 3) ?hd (cs := #[.int .u64 a1_0, .int .u64 a1_1]) (t := 24) ?hr ?_; (case hd => rfl); (case hg => rfl); (case hr => first | (go_simp; done) | (go_simp; rfl)); intro gb630 hg w47 hbox hb; have n0_ := Aside0.mk (blk_below (g := gb629) (o := .cells #[.int .u64 a0_0, .int .u64 a0_1] 24 (0, 0)) (by (with_reducible repeat (first | refine blk_drewN ?_ _ | refine blk_drew ?_ | refine blk_alloc ?_ _)); exact BK629.out) hb); have n1_ := Aside0.mk (below_step (by repeat (first | (with_reducible first | exact HB.out | apply below_alloc | apply pw_below_drewN | apply below_drew1 | refine below_set ?_ GE629.out) | exact HB.out)) hb); have n2_ := Aside0.mk (hbox); have n3_ := Aside0.mk ((by rw [hg]; exact (below_size (by repeat (first | (with_reducible first | exact HB.out | apply below_alloc | apply pw_below_drewN | apply below_drew1 | refine below_set ?_ GE629.out) | exact HB.out))) : w.heap.size ≤ gb630)); have n4_ := Aside0.mk ((by rw [hg]; exact (below_size (by repeat (first | (with_reducible first | exact HB.out | apply below_alloc | apply pw_below_drewN | apply below_drew1 | refine below_set ?_ GE629.out) | exact HB.out))) : w.heap.size ≤ gb630)); have n5_ := Aside0.mk ((by rw [hg]; exact Nat.ne_of_lt (blk_lt (g := gb629) (o := .cells #[.int .u64 a0_0, .int .u64 a0_1] 24 (0, 0)) (by (with_reducible repeat (first | refine blk_drewN ?_ _ | refine blk_drew ?_ | refine blk_alloc ?_ _)); exact BK629.out)) : gb629 ≠ gb630)); have n6_ := Aside0.mk ((by rw [hg]; exact Nat.ne_of_gt (blk_lt (g := gb629) (o := .cells #[.int .u64 a0_0, .int .u64 a0_1] 24 (0, 0)) (by (with_reducible repeat (first | refine blk_drewN ?_ _ | refine blk_drew ?_ | refine blk_alloc ?_ _)); exact BK629.out)) : gb630 ≠ gb629)); clear BK629; clear HB; have BK629 := n0_; have HB := n1_; have BK630 := n2_; have GW630 := n3_; have GE630 := n4_; have NB629_630 := n5_; have NB630_629 := n6_; clear n0_ n1_ n2_ n3_ n4_ n5_ n6_; clear hb hbox hg))
    have n0_ := Aside0.mk (blk_drew BK629.out)
    have n1_ := Aside0.mk (blk_drew BK630.out)
    have n2_ := Aside0.mk (below_drew1 HB.out)
    clear BK629
    clear BK630
    clear HB
    have BK629 := n0_
    have BK630 := n1_
    have HB := n2_
    clear n0_ n1_ n2_
    refine start_ (n := 6) (S := fun w' => w'.cell? ⟨gb629, 0, none⟩ = some (.int .u64 a0_0) ∧ w'.cell? ⟨gb629, 1, none⟩ = some (.int .u64 a0_1) ∧ w'.cell? ⟨gb630, 0, none⟩ = some (.int .u64 a1_0) ∧ w'.cell? ⟨gb630, 1, none⟩ = some (.int .u64 a1_1)) (ds := []) #[false, false, false, false, false, false] (by kernel_rfl) rfl rfl ⟨(blk_cell BK629.out 0).trans rfl, (blk_cell BK629.out 1).trans rfl, (blk_cell BK630.out 0).trans rfl, (blk_cell BK630.out 1).trans rfl⟩ (fun hHeld => ?_)
    generalize w47.drew = w48 at BK629 BK630 HB hHeld ⊢
    refine take_ (i := 0) (N := some 8) (v := ?_) (a' := ?_) #[true, false, false, false, false, false] rfl rfl (by kernel_rfl) (fun _ _ _ h => h) (Or.inl ⟨by rfl, ?_⟩) hHeld ?_ ?_
    rotate_left
    · rintro w' ⟨s0, s1, s2, s3⟩
      go_simp
      with_reducible rfl
    rotate_left
    · simp only [Act.put, List.setIfInBounds_toArray, List.set_cons_zero, List.set_cons_succ, i64_w, i32_w]
      rfl
    refine take_ (i := 2) (N := some 10) (v := ?_) (a' := ?_) #[true, false, true, false, false, false] rfl rfl (by kernel_rfl) (fun _ _ _ h => h) (Or.inl ⟨by rfl, ?_⟩) hHeld ?_ ?_
    rotate_left
    · rintro w' ⟨s0, s1, s2, s3⟩
      go_simp
      with_reducible rfl
    rotate_left
    · simp only [Act.put, List.setIfInBounds_toArray, List.set_cons_zero, List.set_cons_succ, i64_w, i32_w]
      rfl
    refine one_ (i := 1) (N := some 9) #[true, true, true, false, false, false] rfl rfl (by kernel_rfl) (by decide) (fun K hK => ?_)
    refine goes_ Try.func25 (by kernel_rfl) rfl #[.agg #[.int .u64 a0_0, .int .u64 a0_1]] (by rfl) rfl rfl (by (try simp only [List.map_toArray, List.map_cons, List.map_nil]); first | done | rfl | (simp only [List.length_drop, List.length_take]; rfl)) ?_
    with_reducible refine (laws_wideWhole.calls a0_0 a0_1 t631 _ A3.out).mono ?_
    rintro e w49 ⟨v632, rfl, ho0, hb⟩
    refine ⟨_, rfl, ?_⟩
    have n0_ := Aside0.mk (Kd.V_lower (Kd.V_mono (ok' := fun k_ => k_ ≠ gb629 ∧ k_ ≠ gb630) ho0 (fun k_ hk_ => ⟨(Kd.freshB (g := gb629) (o := .cells #[.int .u64 a0_0, .int .u64 a0_1] 24 (0, 0)) (by (with_reducible repeat (first | refine blk_drewN ?_ _ | refine blk_drew ?_ | refine blk_alloc ?_ _)); exact BK629.out) k_ hk_), (Kd.freshB (g := gb630) (o := .cells #[.int .u64 a1_0, .int .u64 a1_1] 24 (0, 0)) (by (with_reducible repeat (first | refine blk_drewN ?_ _ | refine blk_drew ?_ | refine blk_alloc ?_ _)); exact BK630.out) k_ hk_)⟩)) (below_size (by repeat (first | (with_reducible first | exact HB.out | apply below_alloc | apply pw_below_drewN | apply below_drew1 | refine below_set ?_ GE629.out | refine below_set ?_ GE630.out) | exact HB.out))))
    have n1_ := Aside0.mk (blk_below (g := gb629) (o := .cells #[.int .u64 a0_0, .int .u64 a0_1] 24 (0, 0)) (by (with_reducible repeat (first | refine blk_drewN ?_ _ | refine blk_drew ?_ | refine blk_alloc ?_ _)); exact BK629.out) hb)
    have n2_ := Aside0.mk (blk_below (g := gb630) (o := .cells #[.int .u64 a1_0, .int .u64 a1_1] 24 (0, 0)) (by (with_reducible repeat (first | refine blk_drewN ?_ _ | refine blk_drew ?_ | refine blk_alloc ?_ _)); exact BK630.out) hb)
    have n3_ := Aside0.mk (below_step (by repeat (first | (with_reducible first | exact HB.out | apply below_alloc | apply pw_below_drewN | apply below_drew1 | refine below_set ?_ GE629.out | refine below_set ?_ GE630.out) | exact HB.out)) hb)
    clear BK629
    clear BK630
    clear HB
    have HO633 := n0_
    have BK629 := n1_
    have BK630 := n2_
    have HB := n3_
    clear n0_ n1_ n2_ n3_
    (try clear hb)
    (try clear hb2)
    (try clear hk)
    (try clear hi)
    (try clear ho0)
    refine hK.out _ _ ⟨(blk_cell BK629.out 0).trans rfl, (blk_cell BK629.out 1).trans rfl, (blk_cell BK630.out 0).trans rfl, (blk_cell BK630.out 1).trans rfl⟩ (fun hHeld => ?_)
    clear hK K
    refine norm_ (a' := ?_) ?_ ?_
    rotate_left
    · show Act.put _ (some 9) _ = _
      simp only [Act.put, List.setIfInBounds_toArray, List.set_cons_zero, List.set_cons_succ, i64_w, i32_w]
      rfl
    refine one_ (i := 3) (N := some 11) #[true, true, true, true, false, false] rfl rfl (by kernel_rfl) (by decide) (fun K hK => ?_)
    refine goes_ Try.func25 (by kernel_rfl) rfl #[.agg #[.int .u64 a1_0, .int .u64 a1_1]] (by rfl) rfl rfl (by (try simp only [List.map_toArray, List.map_cons, List.map_nil]); first | done | rfl | (simp only [List.length_drop, List.length_take]; rfl)) ?_
    with_reducible refine (laws_wideWhole.calls a1_0 a1_1 t634 _ A4.out).mono ?_
    rintro e w50 ⟨v635, rfl, ho0, hb⟩
    refine ⟨_, rfl, ?_⟩
    have n0_ := Aside0.mk (Kd.V_below (by (with_reducible repeat (first | apply Kd.V_alloc | apply Kd.V_drewN | apply Kd.V_drew)); exact HO633.out) hb)
    have n1_ := Aside0.mk (Kd.V_lower (Kd.V_mono (ok' := fun k_ => k_ ≠ gb629 ∧ k_ ≠ gb630) ho0 (fun k_ hk_ => ⟨(Kd.freshB (g := gb629) (o := .cells #[.int .u64 a0_0, .int .u64 a0_1] 24 (0, 0)) (by (with_reducible repeat (first | refine blk_drewN ?_ _ | refine blk_drew ?_ | refine blk_alloc ?_ _)); exact BK629.out) k_ hk_), (Kd.freshB (g := gb630) (o := .cells #[.int .u64 a1_0, .int .u64 a1_1] 24 (0, 0)) (by (with_reducible repeat (first | refine blk_drewN ?_ _ | refine blk_drew ?_ | refine blk_alloc ?_ _)); exact BK630.out) k_ hk_)⟩)) (below_size (by repeat (first | (with_reducible first | exact HB.out | apply below_alloc | apply pw_below_drewN | apply below_drew1 | refine below_set ?_ GE629.out | refine below_set ?_ GE630.out) | exact HB.out))))
    have n2_ := Aside0.mk (blk_below (g := gb629) (o := .cells #[.int .u64 a0_0, .int .u64 a0_1] 24 (0, 0)) (by (with_reducible repeat (first | refine blk_drewN ?_ _ | refine blk_drew ?_ | refine blk_alloc ?_ _)); exact BK629.out) hb)
    have n3_ := Aside0.mk (blk_below (g := gb630) (o := .cells #[.int .u64 a1_0, .int .u64 a1_1] 24 (0, 0)) (by (with_reducible repeat (first | refine blk_drewN ?_ _ | refine blk_drew ?_ | refine blk_alloc ?_ _)); exact BK630.out) hb)
    have n4_ := Aside0.mk (below_step (by repeat (first | (with_reducible first | exact HB.out | apply below_alloc | apply pw_below_drewN | apply below_drew1 | refine below_set ?_ GE629.out | refine below_set ?_ GE630.out) | exact HB.out)) hb)
    clear HO633
    clear BK629
    clear BK630
    clear HB
    have HO633 := n0_
    have HO636 := n1_
    have BK629 := n2_
    have BK630 := n3_
    have HB := n4_
    clear n0_ n1_ n2_ n3_ n4_
    (try clear hb)
    (try clear hb2)
    (try clear hk)
    (try clear hi)
    (try clear ho0)
    obtain ⟨Ao51, co51, eo51⟩ := Kd.V_slice HO633.out
    (first | subst eo51 | (injection eo51 with f1_ f2_ f3_; have f4_ := f1_.symm; have f5_ := f3_.symm; clear f1_ f2_ f3_; subst f4_; subst f5_))
    obtain ⟨Ao52, co52, eo52⟩ := Kd.V_slice HO636.out
    (first | subst eo52 | (injection eo52 with f1_ f2_ f3_; have f4_ := f1_.symm; have f5_ := f3_.symm; clear f1_ f2_ f3_; subst f4_; subst f5_))
    refine hK.out _ _ ⟨(blk_cell BK629.out 0).trans rfl, (blk_cell BK629.out 1).trans rfl, (blk_cell BK630.out 0).trans rfl, (blk_cell BK630.out 1).trans rfl⟩ (fun hHeld => ?_)
    clear hK K
    refine norm_ (a' := ?_) ?_ ?_
    rotate_left
    · show Act.put _ (some 11) _ = _
      simp only [Act.put, List.setIfInBounds_toArray, List.set_cons_zero, List.set_cons_succ, i64_w, i32_w]
      rfl
    refine one_ (i := 4) (N := some 12) #[true, true, true, true, true, false] rfl rfl (by kernel_rfl) (by decide) (fun K hK => ?_)
    refine goes_ Try.func66 (by kernel_rfl) rfl #[.slice Ao51 t631.length co51, .slice Ao52 t634.length co52] (by rfl) rfl rfl (by (try simp only [List.map_toArray, List.map_cons, List.map_nil]); first | done | rfl | (simp only [List.length_drop, List.length_take]; rfl)) ?_
    with_reducible refine (spec_Product.calls k _ _ t631 _ _ t634 t637 _ ?side1 ?side2 ?side3 ?side4 A5.out).mono ?_
    (case side1 => repeat (first | exact (Kd.V_reads' HO633.out).2.2 | (with_reducible refine Kd.C_alloc ?_ _) | (with_reducible refine Kd.C_drewN ?_ _) | (with_reducible refine Kd.C_drew ?_)))
    (case side2 => exact (Kd.V_reads' HO633.out).2.1)
    (case side3 => repeat (first | exact (Kd.V_reads' HO636.out).2.2 | (with_reducible refine Kd.C_alloc ?_ _) | (with_reducible refine Kd.C_drewN ?_ _) | (with_reducible refine Kd.C_drew ?_)))
    (case side4 => exact (Kd.V_reads' HO636.out).2.1)
    rintro e w53 ⟨v638, rfl, ho0, hb⟩
    refine ⟨_, rfl, ?_⟩
    have n0_ := Aside0.mk (Kd.V_below (by (with_reducible repeat (first | apply Kd.V_alloc | apply Kd.V_drewN | apply Kd.V_drew)); exact HO633.out) hb)
    have n1_ := Aside0.mk (Kd.V_below (by (with_reducible repeat (first | apply Kd.V_alloc | apply Kd.V_drewN | apply Kd.V_drew)); exact HO636.out) hb)
    have n2_ := Aside0.mk (Kd.V_lower (Kd.V_mono (ok' := fun k_ => k_ ≠ gb629 ∧ k_ ≠ gb630) ho0 (fun k_ hk_ => ⟨(Kd.freshB (g := gb629) (o := .cells #[.int .u64 a0_0, .int .u64 a0_1] 24 (0, 0)) (by (with_reducible repeat (first | refine blk_drewN ?_ _ | refine blk_drew ?_ | refine blk_alloc ?_ _)); exact BK629.out) k_ hk_), (Kd.freshB (g := gb630) (o := .cells #[.int .u64 a1_0, .int .u64 a1_1] 24 (0, 0)) (by (with_reducible repeat (first | refine blk_drewN ?_ _ | refine blk_drew ?_ | refine blk_alloc ?_ _)); exact BK630.out) k_ hk_)⟩)) (below_size (by repeat (first | (with_reducible first | exact HB.out | apply below_alloc | apply pw_below_drewN | apply below_drew1 | refine below_set ?_ GE629.out | refine below_set ?_ GE630.out) | exact HB.out))))
    have n3_ := Aside0.mk (blk_below (g := gb629) (o := .cells #[.int .u64 a0_0, .int .u64 a0_1] 24 (0, 0)) (by (with_reducible repeat (first | refine blk_drewN ?_ _ | refine blk_drew ?_ | refine blk_alloc ?_ _)); exact BK629.out) hb)
    have n4_ := Aside0.mk (blk_below (g := gb630) (o := .cells #[.int .u64 a1_0, .int .u64 a1_1] 24 (0, 0)) (by (with_reducible repeat (first | refine blk_drewN ?_ _ | refine blk_drew ?_ | refine blk_alloc ?_ _)); exact BK630.out) hb)
    have n5_ := Aside0.mk (below_step (by repeat (first | (with_reducible first | exact HB.out | apply below_alloc | apply pw_below_drewN | apply below_drew1 | refine below_set ?_ GE629.out | refine below_set ?_ GE630.out) | exact HB.out)) hb)
    clear HO633
    clear HO636
    clear BK629
    clear BK630
    clear HB
    have HO633 := n0_
    have HO636 := n1_
    have HO639 := n2_
    have BK629 := n3_
    have BK630 := n4_
    have HB := n5_
    clear n0_ n1_ n2_ n3_ n4_ n5_
    (try clear hb)
    (try clear hb2)
    (try clear hk)
    (try clear hi)
    (try clear ho0)
    refine hK.out _ _ ⟨(blk_cell BK629.out 0).trans rfl, (blk_cell BK629.out 1).trans rfl, (blk_cell BK630.out 0).trans rfl, (blk_cell BK630.out 1).trans rfl⟩ (fun hHeld => ?_)
    clear hK K
    refine norm_ (a' := ?_) ?_ ?_
    rotate_left
    · show Act.put _ (some 12) _ = _
      simp only [Act.put, List.setIfInBounds_toArray, List.set_cons_zero, List.set_cons_succ, i64_w, i32_w]
      rfl
    refine pure_ (i := 5) (N := some 5) (v := ?_) (a' := ?_) #[true, true, true, true, true, true] rfl rfl (by kernel_rfl) (fun _ _ _ h => h) (Or.inl ⟨by rfl, ?_⟩) ?_ ?_
    rotate_left
    · intro w'
      go_simp
      with_reducible rfl
    rotate_left
    · simp only [Act.put, List.setIfInBounds_toArray, List.set_cons_zero, List.set_cons_succ, i64_w, i32_w]
      rfl
    refine done_ (by kernel_rfl) ?_
    obtain ⟨Ao54, co54, eo54⟩ := Kd.V_slice HO639.out
    subst eo54
    try go_wp2_with (first | ((with_reducible refine gate_callee (f := 63) rfl ?_); refine goesL_ (some 14) rfl rfl Try.func63 (by kernel_rfl) rfl #[.slice Ao54 t637.length co54] rfl (by (try simp only [List.map_toArray, List.map_cons, List.map_nil]); first | done | rfl | (simp only [List.length_drop, List.length_take]; rfl)) ?_; (with_reducible refine (spec_Fits.calls k _ _ t637 false _ ?side1 ?side2 A6.out).mono ?_); (case side1 => repeat (first | exact (Kd.V_reads' HO639.out).2.2 | (with_reducible refine Kd.C_alloc ?_ _) | (with_reducible refine Kd.C_drewN ?_ _) | (with_reducible refine Kd.C_drew ?_))); (case side2 => exact (Kd.V_reads' HO639.out).2.1); rintro e w' ⟨rfl, ⟨nd, rfl⟩⟩; refine ⟨_, rfl, ?_⟩))
    go_ret
    exact ⟨by first | rfl | (simp [errW_none, errW_some] <;> rfl) | (simp [*, errW_none, errW_some] <;> rfl), by repeat (first | (with_reducible first | exact HB.out | apply below_alloc | apply pw_below_drewN | apply below_drew1 | refine below_set ?_ GE629.out | refine below_set ?_ GE630.out) | exact HB.out)⟩


end Go.Proofs.Ytiifnofghicnaaa.PAll
