/- Printed by the kit's print.py, called for several laws at once: functions as plain Lean, and the walks' contracts. -/
import Derived.Test.YtiifnofghicnaaaDoorQAllx0
namespace Go.Proofs.YtiifnofghicnaaaDoor.PAll
open Go.RowKit Go.Proofs.YtiifnofghicnaaaDoorW.PrintWords Go.Proofs.YtiifnofghicnaaaDoorW.PrintLast Go.Proofs.YtiifnofghicnaaaDoorW.PrintMore
attribute [local go_sem] max2_int min2_int max_two min_two max_three min_three max_four min_four   -- for this text's walks alone
set_option linter.unusedVariables false
set_option linter.unusedSimpArgs false
/-! ### bits_Add64: function 111 -/
def aLo (x y c : Nat) : Nat := (x + y + c) % 18446744073709551616
def aHi (x y c : Nat) : Nat := (x + y + c) / 18446744073709551616
theorem aHi_le {x y c : Nat} (hx : x < 18446744073709551616) (hy : y < 18446744073709551616) (hc : c ≤ 1) : aHi x y c ≤ 1 := by unfold aHi; omega
theorem run_add64_c0 (x y : Nat) (w : World) : (callFunc 111 #[.int .u64 (x : Int), .int .u64 (y : Int), .int .u64 ((0 : Nat) : Int)]).run Tryd.prog w = .ok (.value (.tuple #[.int .u64 (aLo x y 0 : Int), .int .u64 (aHi x y 0 : Int)])) w := by kernel_rfl
theorem run_add64_c1 (x y : Nat) (w : World) : (callFunc 111 #[.int .u64 (x : Int), .int .u64 (y : Int), .int .u64 ((1 : Nat) : Int)]).run Tryd.prog w = .ok (.value (.tuple #[.int .u64 (aLo x y 1 : Int), .int .u64 (aHi x y 1 : Int)])) w := by kernel_rfl
theorem run_add64 (x y c : Nat) (h : c ≤ 1) (w : World) : (callFunc 111 #[.int .u64 (x : Int), .int .u64 (y : Int), .int .u64 (c : Int)]).run Tryd.prog w = .ok (.value (.tuple #[.int .u64 (aLo x y c : Int), .int .u64 (aHi x y c : Int)])) w := by
  have : c = 0 ∨ c = 1 := by omega
  rcases this with rfl | rfl
  · exact run_add64_c0 x y w
  · exact run_add64_c1 x y w
theorem run_add64_0 (x y : Nat) (w : World) : (callFunc 111 #[.int .u64 (x : Int), .int .u64 (y : Int), .int .u64 0]).run Tryd.prog w = .ok (.value (.tuple #[.int .u64 (aLo x y 0 : Int), .int .u64 (aHi x y 0 : Int)])) w := run_add64_c0 x y w
theorem run_add64_zc (x c : Nat) (h : c ≤ 1) (w : World) : (callFunc 111 #[.int .u64 (x : Int), .int .u64 0, .int .u64 (c : Int)]).run Tryd.prog w = .ok (.value (.tuple #[.int .u64 (aLo x 0 c : Int), .int .u64 (aHi x 0 c : Int)])) w := run_add64 x 0 c h w
/-! ### uint128_Uint128_Add: function 72 -/
theorem addw_1 (a b c d : Nat) : aLo a c 0 = (a + b * 18446744073709551616 + (c + d * 18446744073709551616)) % 18446744073709551616 := by unfold aLo; omega
theorem addw_2 (a b c d : Nat) (ha : a < 18446744073709551616) (hc : c < 18446744073709551616) : aLo b d (aHi a c 0) = (a + b * 18446744073709551616 + (c + d * 18446744073709551616)) / 18446744073709551616 % 18446744073709551616 := by unfold aLo aHi; omega
def uint128_Uint128_Add.f (a0_0 a0_1 a1_0 a1_1 : Int) : Option (Int × Int) :=
  if U64 a0_0 ∧ U64 a0_1 ∧ U64 a1_0 ∧ U64 a1_1 ∧ N128 a0_0 a0_1 + N128 a1_0 a1_1 < 340282366920938463463374607431768211456 then some (halves (N128 a0_0 a0_1 + N128 a1_0 a1_1)) else none
theorem add_no (a b c d : Nat) (ha : a < 18446744073709551616) (hc : c < 18446744073709551616) (h : a + b * 18446744073709551616 + (c + d * 18446744073709551616) < 340282366920938463463374607431768211456) : (((aHi b d (aHi a c 0) : Nat) : Int) != 0) = false := by
  have : aHi b d (aHi a c 0) = 0 := by unfold aHi; omega
  rw [this]; rfl
theorem add_yes (a b c d : Nat) (ha : a < 18446744073709551616) (hc : c < 18446744073709551616) (h : ¬ a + b * 18446744073709551616 + (c + d * 18446744073709551616) < 340282366920938463463374607431768211456) : (((aHi b d (aHi a c 0) : Nat) : Int) != 0) = true := by
  have : aHi b d (aHi a c 0) ≠ 0 := by unfold aHi; omega
  rw [bne_iff_ne]; omega
set_option maxHeartbeats 2000000 in
set_option maxRecDepth 100000 in
theorem add_nat (a b c d : Nat) (ha : a < 18446744073709551616) (hb : b < 18446744073709551616) (hc : c < 18446744073709551616) (hd : d < 18446744073709551616) (hk : (((aHi b d (aHi a c 0) : Nat) : Int) != 0) = false) (w : World) :
    Calls Tryd.prog 72 #[.agg #[.int .u64 a, .int .u64 b], .agg #[.int .u64 c, .int .u64 d]] w fun e w' => e = .returned (.agg #[.int .u64 (aLo a c 0 : Int), .int .u64 (aLo b d (aHi a c 0) : Int)]) ∧ Below w.heap.size w w' := by
  have r1 := run_add64_0 a c
  have r2 := run_add64 b d (aHi a c 0) (aHi_le ha hc (by decide))
  clear ha hb hc hd
  go_enter Tryd.func72, Tryd.ntmps72
  go_wp2
  refine bodyPost_ret (v := .agg #[.int .u64 (aLo a c 0 : Int), .int .u64 (aLo b d (aHi a c 0) : Int)]) (by simp [results, Tryd.results72, go_sem]) rfl ⟨rfl, ?_⟩
  exact (((Below.refl w.heap.size w).alloc (Nat.le_refl _) _).alloc (by simp) _).alloc (by simp; omega) _
set_option maxHeartbeats 2000000 in
set_option maxRecDepth 100000 in
theorem add_nat_panics (a b c d : Nat) (ha : a < 18446744073709551616) (hb : b < 18446744073709551616) (hc : c < 18446744073709551616) (hd : d < 18446744073709551616) (hk : (((aHi b d (aHi a c 0) : Nat) : Int) != 0) = true) (w : World) :
    Calls Tryd.prog 72 #[.agg #[.int .u64 a, .int .u64 b], .agg #[.int .u64 c, .int .u64 d]] w fun e w' => (∃ pv, e = .panicked [{ v := .iface 9 pv, recovered := false }]) ∧ Below w.heap.size w w' := by
  have r1 := run_add64_0 a c
  have r2 := run_add64 b d (aHi a c 0) (aHi_le ha hc (by decide))
  clear ha hb hc hd
  go_enter Tryd.func72, Tryd.ntmps72
  go_wp2
  exact ⟨rfl, ⟨_, rfl⟩, (((Below.refl w.heap.size w).alloc (Nat.le_refl _) _).alloc (by simp) _).alloc (by simp; omega) _⟩
theorem uint128_Uint128_Add.calls (a0_0 : Int) (a0_1 : Int) (a1_0 : Int) (a1_1 : Int) (r1 : Int) (r2 : Int) (w : World) (h : uint128_Uint128_Add.f a0_0 a0_1 a1_0 a1_1 = some (r1, r2)) :
    Calls Tryd.prog 72 #[.agg #[.int .u64 a0_0, .int .u64 a0_1], .agg #[.int .u64 a1_0, .int .u64 a1_1]] w fun e w' => e = .returned (.agg #[.int .u64 r1, .int .u64 r2]) ∧ Below w.heap.size w w' := by
  unfold uint128_Uint128_Add.f at h
  split at h
  case isFalse => cases h
  rename_i hb
  obtain ⟨ka, kb, kc, kd, kx⟩ := hb
  obtain ⟨a, rfl, ha⟩ := ka.nat
  obtain ⟨b, rfl, hb⟩ := kb.nat
  obtain ⟨c, rfl, hc⟩ := kc.nat
  obtain ⟨d, rfl, hd⟩ := kd.nat
  have e := Option.some.inj h
  simp only [halves, N128, Int.toNat_natCast, Prod.mk.injEq] at e kx
  rw [← addw_1, ← addw_2 a b c d ha hc] at e
  obtain ⟨rfl, rfl⟩ := e
  exact add_nat a b c d ha hb hc hd (add_no a b c d ha hc kx) w
theorem uint128_Uint128_Add.panics (a0_0 : Int) (a0_1 : Int) (a1_0 : Int) (a1_1 : Int) (w : World) (hu : U64 a0_0 ∧ U64 a0_1 ∧ U64 a1_0 ∧ U64 a1_1) (h : ¬ (N128 a0_0 a0_1 + N128 a1_0 a1_1 < 340282366920938463463374607431768211456)) :
    Calls Tryd.prog 72 #[.agg #[.int .u64 a0_0, .int .u64 a0_1], .agg #[.int .u64 a1_0, .int .u64 a1_1]] w fun e w' => (∃ pv, e = .panicked [{ v := .iface 9 pv, recovered := false }]) ∧ Below w.heap.size w w' := by
  obtain ⟨ka, kb, kc, kd⟩ := hu
  obtain ⟨a, rfl, ha⟩ := ka.nat
  obtain ⟨b, rfl, hb⟩ := kb.nat
  obtain ⟨c, rfl, hc⟩ := kc.nat
  obtain ⟨d, rfl, hd⟩ := kd.nat
  simp only [N128, Int.toNat_natCast] at h
  exact add_nat_panics a b c d ha hb hc hd (add_yes a b c d ha hc h) w
/-! ### bits_Sub64: function 113 -/
def sLo (x y b : Nat) : Nat := (x + 18446744073709551616 - y - b) % 18446744073709551616
def sHi (x y b : Nat) : Nat := if x < y + b then 1 else 0
theorem sHi_le {x y b : Nat} : sHi x y b ≤ 1 := by unfold sHi; split <;> omega
theorem run_sub64_c0 (x y : Nat) (w : World) : (callFunc 113 #[.int .u64 (x : Int), .int .u64 (y : Int), .int .u64 ((0 : Nat) : Int)]).run Tryd.prog w = .ok (.value (.tuple #[.int .u64 (sLo x y 0 : Int), .int .u64 (sHi x y 0 : Int)])) w := by kernel_rfl
theorem run_sub64_c1 (x y : Nat) (w : World) : (callFunc 113 #[.int .u64 (x : Int), .int .u64 (y : Int), .int .u64 ((1 : Nat) : Int)]).run Tryd.prog w = .ok (.value (.tuple #[.int .u64 (sLo x y 1 : Int), .int .u64 (sHi x y 1 : Int)])) w := by kernel_rfl
theorem run_sub64 (x y b : Nat) (h : b ≤ 1) (w : World) : (callFunc 113 #[.int .u64 (x : Int), .int .u64 (y : Int), .int .u64 (b : Int)]).run Tryd.prog w = .ok (.value (.tuple #[.int .u64 (sLo x y b : Int), .int .u64 (sHi x y b : Int)])) w := by
  have : b = 0 ∨ b = 1 := by omega
  rcases this with rfl | rfl
  · exact run_sub64_c0 x y w
  · exact run_sub64_c1 x y w
theorem run_sub64_0 (x y : Nat) (w : World) : (callFunc 113 #[.int .u64 (x : Int), .int .u64 (y : Int), .int .u64 0]).run Tryd.prog w = .ok (.value (.tuple #[.int .u64 (sLo x y 0 : Int), .int .u64 (sHi x y 0 : Int)])) w := run_sub64_c0 x y w
theorem run_sub64_zb (x b : Nat) (h : b ≤ 1) (w : World) : (callFunc 113 #[.int .u64 (x : Int), .int .u64 0, .int .u64 (b : Int)]).run Tryd.prog w = .ok (.value (.tuple #[.int .u64 (sLo x 0 b : Int), .int .u64 (sHi x 0 b : Int)])) w := run_sub64 x 0 b h w
/-! ### uint128_Uint128_Sub: function 107 -/
def uint128_Uint128_Sub.f (a0_0 a0_1 a1_0 a1_1 : Int) : Option (Int × Int) :=
  if U64 a0_0 ∧ U64 a0_1 ∧ U64 a1_0 ∧ U64 a1_1 ∧ N128 a1_0 a1_1 ≤ N128 a0_0 a0_1 then some (halves (N128 a0_0 a0_1 - N128 a1_0 a1_1)) else none
theorem sub_no (a b c d : Nat) (ha : a < 18446744073709551616) (hc : c < 18446744073709551616) (h : c + d * 18446744073709551616 ≤ a + b * 18446744073709551616) : (((sHi b d (sHi a c 0) : Nat) : Int) != 0) = false := by
  have : sHi b d (sHi a c 0) = 0 := by unfold sHi; split <;> split <;> omega
  rw [this]; rfl
theorem sub_yes (a b c d : Nat) (ha : a < 18446744073709551616) (hc : c < 18446744073709551616) (h : ¬ c + d * 18446744073709551616 ≤ a + b * 18446744073709551616) : (((sHi b d (sHi a c 0) : Nat) : Int) != 0) = true := by
  have : sHi b d (sHi a c 0) ≠ 0 := by unfold sHi; split <;> split <;> omega
  rw [bne_iff_ne]; omega
theorem sub_1 (a b c d : Nat) (ha : a < 18446744073709551616) (hb : b < 18446744073709551616) (hc : c < 18446744073709551616) (hd : d < 18446744073709551616) (h : c + d * 18446744073709551616 ≤ a + b * 18446744073709551616) : sLo a c 0 = (a + b * 18446744073709551616 - (c + d * 18446744073709551616)) % 18446744073709551616 := by unfold sLo; omega
theorem sub_2 (a b c d : Nat) (ha : a < 18446744073709551616) (hb : b < 18446744073709551616) (hc : c < 18446744073709551616) (hd : d < 18446744073709551616) (h : c + d * 18446744073709551616 ≤ a + b * 18446744073709551616) : sLo b d (sHi a c 0) = (a + b * 18446744073709551616 - (c + d * 18446744073709551616)) / 18446744073709551616 % 18446744073709551616 := by unfold sLo sHi; split <;> omega
set_option maxHeartbeats 2000000 in
set_option maxRecDepth 100000 in
theorem sub_nat (a b c d : Nat) (ha : a < 18446744073709551616) (hb : b < 18446744073709551616) (hc : c < 18446744073709551616) (hd : d < 18446744073709551616) (hk : (((sHi b d (sHi a c 0) : Nat) : Int) != 0) = false) (w : World) :
    Calls Tryd.prog 107 #[.agg #[.int .u64 a, .int .u64 b], .agg #[.int .u64 c, .int .u64 d]] w fun e w' => e = .returned (.agg #[.int .u64 (sLo a c 0 : Int), .int .u64 (sLo b d (sHi a c 0) : Int)]) ∧ Below w.heap.size w w' := by
  have r1 := run_sub64_0 a c
  have r2 := run_sub64 b d (sHi a c 0) sHi_le
  clear ha hb hc hd
  go_enter Tryd.func107, Tryd.ntmps107
  go_wp2
  refine bodyPost_ret (v := .agg #[.int .u64 (sLo a c 0 : Int), .int .u64 (sLo b d (sHi a c 0) : Int)]) (by simp [results, Tryd.results107, go_sem]) rfl ⟨rfl, ?_⟩
  exact (((Below.refl w.heap.size w).alloc (Nat.le_refl _) _).alloc (by simp) _).alloc (by simp; omega) _
set_option maxHeartbeats 2000000 in
set_option maxRecDepth 100000 in
theorem sub_nat_panics (a b c d : Nat) (ha : a < 18446744073709551616) (hb : b < 18446744073709551616) (hc : c < 18446744073709551616) (hd : d < 18446744073709551616) (hk : (((sHi b d (sHi a c 0) : Nat) : Int) != 0) = true) (w : World) :
    Calls Tryd.prog 107 #[.agg #[.int .u64 a, .int .u64 b], .agg #[.int .u64 c, .int .u64 d]] w fun e w' => (∃ pv, e = .panicked [{ v := .iface 9 pv, recovered := false }]) ∧ Below w.heap.size w w' := by
  have r1 := run_sub64_0 a c
  have r2 := run_sub64 b d (sHi a c 0) sHi_le
  clear ha hb hc hd
  go_enter Tryd.func107, Tryd.ntmps107
  go_wp2
  exact ⟨rfl, ⟨_, rfl⟩, (((Below.refl w.heap.size w).alloc (Nat.le_refl _) _).alloc (by simp) _).alloc (by simp; omega) _⟩
theorem uint128_Uint128_Sub.calls (a0_0 : Int) (a0_1 : Int) (a1_0 : Int) (a1_1 : Int) (r1 : Int) (r2 : Int) (w : World) (h : uint128_Uint128_Sub.f a0_0 a0_1 a1_0 a1_1 = some (r1, r2)) :
    Calls Tryd.prog 107 #[.agg #[.int .u64 a0_0, .int .u64 a0_1], .agg #[.int .u64 a1_0, .int .u64 a1_1]] w fun e w' => e = .returned (.agg #[.int .u64 r1, .int .u64 r2]) ∧ Below w.heap.size w w' := by
  unfold uint128_Uint128_Sub.f at h
  split at h
  case isFalse => cases h
  rename_i hb
  obtain ⟨ka, kb, kc, kd, kx⟩ := hb
  obtain ⟨a, rfl, ha⟩ := ka.nat
  obtain ⟨b, rfl, hb⟩ := kb.nat
  obtain ⟨c, rfl, hc⟩ := kc.nat
  obtain ⟨d, rfl, hd⟩ := kd.nat
  have e := Option.some.inj h
  simp only [halves, N128, Int.toNat_natCast, Prod.mk.injEq] at e kx
  rw [← sub_1 a b c d ha hb hc hd kx, ← sub_2 a b c d ha hb hc hd kx] at e
  obtain ⟨rfl, rfl⟩ := e
  exact sub_nat a b c d ha hb hc hd (sub_no a b c d ha hc kx) w
theorem uint128_Uint128_Sub.panics (a0_0 : Int) (a0_1 : Int) (a1_0 : Int) (a1_1 : Int) (w : World) (hu : U64 a0_0 ∧ U64 a0_1 ∧ U64 a1_0 ∧ U64 a1_1) (h : ¬ (N128 a1_0 a1_1 ≤ N128 a0_0 a0_1)) :
    Calls Tryd.prog 107 #[.agg #[.int .u64 a0_0, .int .u64 a0_1], .agg #[.int .u64 a1_0, .int .u64 a1_1]] w fun e w' => (∃ pv, e = .panicked [{ v := .iface 9 pv, recovered := false }]) ∧ Below w.heap.size w w' := by
  obtain ⟨ka, kb, kc, kd⟩ := hu
  obtain ⟨a, rfl, ha⟩ := ka.nat
  obtain ⟨b, rfl, hb⟩ := kb.nat
  obtain ⟨c, rfl, hc⟩ := kc.nat
  obtain ⟨d, rfl, hd⟩ := kd.nat
  simp only [N128, Int.toNat_natCast] at h
  exact sub_nat_panics a b c d ha hb hc hd (sub_yes a b c d ha hc h) w
/-! ### bits_Mul64: function 110 -/
def bits_Mul64.f (a0 : Int) (a1 : Int) : Option (Int × Int) := some (IntKind.u64.wrap ((IntKind.u64.wrap ((IntKind.u64.wrap ((a0 / 4294967296) * (a1 / 4294967296))) + ((IntKind.u64.wrap ((IntKind.u64.wrap ((a0 / 4294967296) * (Go.bits .and .u64 a1 4294967295))) + ((IntKind.u64.wrap ((Go.bits .and .u64 a0 4294967295) * (Go.bits .and .u64 a1 4294967295))) / 4294967296))) / 4294967296))) + ((IntKind.u64.wrap ((Go.bits .and .u64 (IntKind.u64.wrap ((IntKind.u64.wrap ((a0 / 4294967296) * (Go.bits .and .u64 a1 4294967295))) + ((IntKind.u64.wrap ((Go.bits .and .u64 a0 4294967295) * (Go.bits .and .u64 a1 4294967295))) / 4294967296))) 4294967295) + (IntKind.u64.wrap ((Go.bits .and .u64 a0 4294967295) * (a1 / 4294967296))))) / 4294967296)), IntKind.u64.wrap (a0 * a1))
set_option maxHeartbeats 8000000 in
set_option maxRecDepth 100000 in
theorem bits_Mul64.calls (a0 : Int) (a1 : Int) (r1 : Int) (r2 : Int) (w : World) (h : bits_Mul64.f a0 a1 = some (r1, r2)) :
    Calls Tryd.prog 110 #[.int .u64 a0, .int .u64 a1] w fun e w' => e = .returned (.tuple #[.int .u64 r1, .int .u64 r2]) ∧ Drawn0 w w' := by
  have H : (some (IntKind.u64.wrap ((IntKind.u64.wrap ((IntKind.u64.wrap ((a0 / 4294967296) * (a1 / 4294967296))) + ((IntKind.u64.wrap ((IntKind.u64.wrap ((a0 / 4294967296) * (Go.bits .and .u64 a1 4294967295))) + ((IntKind.u64.wrap ((Go.bits .and .u64 a0 4294967295) * (Go.bits .and .u64 a1 4294967295))) / 4294967296))) / 4294967296))) + ((IntKind.u64.wrap ((Go.bits .and .u64 (IntKind.u64.wrap ((IntKind.u64.wrap ((a0 / 4294967296) * (Go.bits .and .u64 a1 4294967295))) + ((IntKind.u64.wrap ((Go.bits .and .u64 a0 4294967295) * (Go.bits .and .u64 a1 4294967295))) / 4294967296))) 4294967295) + (IntKind.u64.wrap ((Go.bits .and .u64 a0 4294967295) * (a1 / 4294967296))))) / 4294967296)), IntKind.u64.wrap (a0 * a1))) = some (r1, r2) := h
  clear h
  simp only [Option.some.injEq, Prod.mk.injEq] at H
  obtain ⟨rfl, rfl⟩ := H
  go_enter Tryd.func110, Tryd.ntmps110
  go_wp2
  go_ret2
  exact ⟨by first | rfl | (simp; done) | (simp [*]; done), by repeat (first | exact Drawn0.refl _ | apply Drawn0.step)⟩
def mHi (x y : Nat) : Nat := x * y / 18446744073709551616
def mLo (x y : Nat) : Nat := x * y % 18446744073709551616
theorem mul64_law (x y : Nat) (hx : x < 18446744073709551616) (hy : y < 18446744073709551616) : bits_Mul64.f (x : Int) (y : Int) = some ((mHi x y : Int), (mLo x y : Int)) := by
  unfold bits_Mul64.f mHi mLo
  simp only [IntKind.wrap_u64, and_low32 (x : Int) (by omega) (by omega), and_low32 (y : Int) (by omega) (by omega)]
  rw [and_low32 _ (by omega) (by omega), mul64_arith (x : Int) (y : Int) (by omega) (by omega) (by omega) (by omega)]
  rfl
theorem mHi_lt {x y : Nat} (hx : x < 18446744073709551616) (hy : y < 18446744073709551616) : mHi x y < 18446744073709551616 := by
  unfold mHi
  apply Nat.div_lt_of_lt_mul
  exact Nat.mul_lt_mul'' hx hy
theorem mLo_lt {x y : Nat} : mLo x y < 18446744073709551616 := Nat.mod_lt _ (by decide)
/-! ### uint128_Uint128_Mul: function 70 -/
theorem mw_val (a b c d : Nat) : (a + b * 18446744073709551616) * (c + d * 18446744073709551616) = a * c + (b * c + a * d) * 18446744073709551616 + b * d * 340282366920938463463374607431768211456 := by grind
def uint128_Uint128_Mul.f (a0_0 a0_1 a1_0 a1_1 : Int) : Option (Int × Int) :=
  if (U64 a0_0 ∧ U64 a0_1 ∧ U64 a1_0 ∧ U64 a1_1) ∧ N128 a0_0 a0_1 * N128 a1_0 a1_1 < 340282366920938463463374607431768211456 then some (halves (N128 a0_0 a0_1 * N128 a1_0 a1_1)) else none
theorem mulf_facts (a b c d : Nat) (h : (a + b * 18446744073709551616) * (c + d * 18446744073709551616) < 340282366920938463463374607431768211456) :
    (b = 0 ∨ d = 0) ∧ (((mHi b c : Nat) : Int) != 0) = false ∧ (((mHi a d : Nat) : Int) != 0) = false ∧ aHi (mHi a c) (mLo b c) 0 = 0 ∧ (((aHi (aLo (mHi a c) (mLo b c) 0) (mLo a d) (aHi (mHi a c) (mLo b c) 0) : Nat) : Int) != 0) = false ∧
    mLo a c = (a + b * 18446744073709551616) * (c + d * 18446744073709551616) % 18446744073709551616 ∧ aLo (aLo (mHi a c) (mLo b c) 0) (mLo a d) (aHi (mHi a c) (mLo b c) 0) = (a + b * 18446744073709551616) * (c + d * 18446744073709551616) / 18446744073709551616 % 18446744073709551616 := by
  rw [mw_val] at h ⊢
  have h0 : b * d = 0 := by
    generalize b * d = t at *
    omega
  rw [h0] at h ⊢
  have h1 : mHi b c = 0 := by unfold mHi; omega
  have h2 : mHi a d = 0 := by unfold mHi; omega
  have h3 : aHi (mHi a c) (mLo b c) 0 = 0 := by unfold aHi mHi mLo; omega
  have h4 : aHi (aLo (mHi a c) (mLo b c) 0) (mLo a d) 0 = 0 := by unfold aHi aLo mHi mLo; omega
  refine ⟨Nat.mul_eq_zero.1 h0, by rw [h1]; rfl, by rw [h2]; rfl, h3, by rw [h3, h4]; rfl, ?_, ?_⟩
  · unfold mLo; omega
  · rw [h3]; unfold aLo mHi mLo; omega
set_option maxHeartbeats 2000000 in
set_option maxRecDepth 100000 in
theorem mulf_nat (a b c d : Nat) (ha : a < 18446744073709551616) (hb : b < 18446744073709551616) (hc : c < 18446744073709551616) (hd : d < 18446744073709551616) (h : (a + b * 18446744073709551616) * (c + d * 18446744073709551616) < 340282366920938463463374607431768211456) (w : World) :
    Calls Tryd.prog 70 #[.agg #[.int .u64 a, .int .u64 b], .agg #[.int .u64 c, .int .u64 d]] w fun e w' => e = .returned (.agg #[.int .u64 (mLo a c : Int), .int .u64 (aLo (aLo (mHi a c) (mLo b c) 0) (mLo a d) (aHi (mHi a c) (mLo b c) 0) : Int)]) ∧ Below w.heap.size w w' := by
  have m1 := Lib.hid (mul64_law a c ha hc)
  have m2 := Lib.hid (mul64_law b c hb hc)
  have m3 := Lib.hid (mul64_law a d ha hd)
  obtain ⟨hbd, k0, k2, h3, k1, e1_, e2_⟩ := mulf_facts a b c d h
  clear e1_ e2_
  have r1 := run_add64_0 (mHi a c) (mLo b c)
  have r2 := run_add64 (aLo (mHi a c) (mLo b c) 0) (mLo a d) (aHi (mHi a c) (mLo b c) 0) (by omega)
  clear ha hb hc hd h3 h
  have hg : ((b : Int) != 0) = false ∨ (((b : Int) != 0) = true ∧ ((d : Int) != 0) = false) := by
    rcases hbd with rfl | rfl
    · left; rfl
    · by_cases hb : b = 0
      · left; rw [hb]; rfl
      · right; exact ⟨by rw [bne_iff_ne]; omega, rfl⟩
  clear hbd
  rcases hg with g | ⟨g, g2⟩
  all_goals
    go_enter Tryd.func70, Tryd.ntmps70
    go_wp2_with fail
    refine (bits_Mul64.calls _ _ _ _ _ m1.out).mono ?_
    rintro e w1 ⟨rfl, ⟨⟨n1, rfl⟩⟩⟩
    go_wp2_with fail
    refine (bits_Mul64.calls _ _ _ _ _ m2.out).mono ?_
    rintro e w1 ⟨rfl, ⟨⟨n2, rfl⟩⟩⟩
    go_wp2_with fail
    refine (bits_Mul64.calls _ _ _ _ _ m3.out).mono ?_
    rintro e w1 ⟨rfl, ⟨⟨n3, rfl⟩⟩⟩
    go_wp2
    refine bodyPost_ret (v := .agg #[.int .u64 (mLo a c : Int), .int .u64 (aLo (aLo (mHi a c) (mLo b c) 0) (mLo a d) (aHi (mHi a c) (mLo b c) 0) : Int)]) (by simp [results, Tryd.results70, go_sem]) rfl ⟨rfl, ?_⟩
    exact by repeat (first | exact Below.refl _ _ | apply pw_below_drewN | apply below_alloc | refine Below.setCell ?_ (by (try simp only [Nat.le_refl]); omega) _)
theorem uint128_Uint128_Mul.calls (a0_0 : Int) (a0_1 : Int) (a1_0 : Int) (a1_1 : Int) (r1 : Int) (r2 : Int) (w : World) (h : uint128_Uint128_Mul.f a0_0 a0_1 a1_0 a1_1 = some (r1, r2)) :
    Calls Tryd.prog 70 #[.agg #[.int .u64 a0_0, .int .u64 a0_1], .agg #[.int .u64 a1_0, .int .u64 a1_1]] w fun e w' => e = .returned (.agg #[.int .u64 r1, .int .u64 r2]) ∧ Below w.heap.size w w' := by
  unfold uint128_Uint128_Mul.f at h
  split at h
  case isFalse => cases h
  rename_i hb
  obtain ⟨⟨ka, kb, kc, kd⟩, kx⟩ := hb
  obtain ⟨a, rfl, ha⟩ := ka.nat
  obtain ⟨b, rfl, hb⟩ := kb.nat
  obtain ⟨c, rfl, hc⟩ := kc.nat
  obtain ⟨d, rfl, hd⟩ := kd.nat
  have e := Option.some.inj h
  simp only [halves, N128, Int.toNat_natCast, Prod.mk.injEq] at e kx
  obtain ⟨_, _, _, _, _, e1, e2⟩ := mulf_facts a b c d kx
  rw [← e1, ← e2] at e
  obtain ⟨rfl, rfl⟩ := e
  exact mulf_nat a b c d ha hb hc hd kx w
/-! ### uint128_Uint128_AddWrap: function 87 -/
def uint128_Uint128_AddWrap.f (a0_0 a0_1 a1_0 a1_1 : Int) : Option (Int × Int) :=
  if U64 a0_0 ∧ U64 a0_1 ∧ U64 a1_0 ∧ U64 a1_1 then some (halves (N128 a0_0 a0_1 + N128 a1_0 a1_1)) else none
set_option maxHeartbeats 2000000 in
set_option maxRecDepth 100000 in
theorem addwrap_nat (a b c d : Nat) (ha : a < 18446744073709551616) (hb : b < 18446744073709551616) (hc : c < 18446744073709551616) (hd : d < 18446744073709551616) (w : World) :
    Calls Tryd.prog 87 #[.agg #[.int .u64 a, .int .u64 b], .agg #[.int .u64 c, .int .u64 d]] w fun e w' => e = .returned (.agg #[.int .u64 (aLo a c 0 : Int), .int .u64 (aLo b d (aHi a c 0) : Int)]) ∧ Below w.heap.size w w' := by
  have r1 := run_add64_0 a c
  have r2 := run_add64 b d (aHi a c 0) (aHi_le ha hc (by decide))
  clear ha hb hc hd
  go_enter Tryd.func87, Tryd.ntmps87
  go_wp2
  refine bodyPost_ret (v := .agg #[.int .u64 (aLo a c 0 : Int), .int .u64 (aLo b d (aHi a c 0) : Int)]) (by simp [results, Tryd.results87, go_sem]) rfl ⟨rfl, ?_⟩
  exact (((Below.refl w.heap.size w).alloc (Nat.le_refl _) _).alloc (by simp) _).alloc (by simp; omega) _
theorem uint128_Uint128_AddWrap.calls (a0_0 : Int) (a0_1 : Int) (a1_0 : Int) (a1_1 : Int) (r1 : Int) (r2 : Int) (w : World) (h : uint128_Uint128_AddWrap.f a0_0 a0_1 a1_0 a1_1 = some (r1, r2)) :
    Calls Tryd.prog 87 #[.agg #[.int .u64 a0_0, .int .u64 a0_1], .agg #[.int .u64 a1_0, .int .u64 a1_1]] w fun e w' => e = .returned (.agg #[.int .u64 r1, .int .u64 r2]) ∧ Below w.heap.size w w' := by
  unfold uint128_Uint128_AddWrap.f at h
  split at h
  case isFalse => cases h
  rename_i hb
  obtain ⟨ka, kb, kc, kd⟩ := hb
  obtain ⟨a, rfl, ha⟩ := ka.nat
  obtain ⟨b, rfl, hb⟩ := kb.nat
  obtain ⟨c, rfl, hc⟩ := kc.nat
  obtain ⟨d, rfl, hd⟩ := kd.nat
  have e := Option.some.inj h
  simp only [halves, N128, Int.toNat_natCast, Prod.mk.injEq] at e
  rw [← addw_1, ← addw_2 a b c d ha hc] at e
  obtain ⟨rfl, rfl⟩ := e
  exact addwrap_nat a b c d ha hb hc hd w
/-! ### uint128_Uint128_SubWrap: function 88 -/
def uint128_Uint128_SubWrap.f (a0_0 a0_1 a1_0 a1_1 : Int) : Option (Int × Int) :=
  if U64 a0_0 ∧ U64 a0_1 ∧ U64 a1_0 ∧ U64 a1_1 then some (halves (N128 a0_0 a0_1 + 340282366920938463463374607431768211456 - N128 a1_0 a1_1)) else none
theorem subw_1 (a b c d : Nat) (ha : a < 18446744073709551616) (hb : b < 18446744073709551616) (hc : c < 18446744073709551616) (hd : d < 18446744073709551616) : sLo a c 0 = (a + b * 18446744073709551616 + 340282366920938463463374607431768211456 - (c + d * 18446744073709551616)) % 18446744073709551616 := by unfold sLo; omega
theorem subw_2 (a b c d : Nat) (ha : a < 18446744073709551616) (hb : b < 18446744073709551616) (hc : c < 18446744073709551616) (hd : d < 18446744073709551616) : sLo b d (sHi a c 0) = (a + b * 18446744073709551616 + 340282366920938463463374607431768211456 - (c + d * 18446744073709551616)) / 18446744073709551616 % 18446744073709551616 := by unfold sLo sHi; split <;> omega
set_option maxHeartbeats 2000000 in
set_option maxRecDepth 100000 in
theorem subwrap_nat (a b c d : Nat) (ha : a < 18446744073709551616) (hb : b < 18446744073709551616) (hc : c < 18446744073709551616) (hd : d < 18446744073709551616) (w : World) :
    Calls Tryd.prog 88 #[.agg #[.int .u64 a, .int .u64 b], .agg #[.int .u64 c, .int .u64 d]] w fun e w' => e = .returned (.agg #[.int .u64 (sLo a c 0 : Int), .int .u64 (sLo b d (sHi a c 0) : Int)]) ∧ Below w.heap.size w w' := by
  have r1 := run_sub64_0 a c
  have r2 := run_sub64 b d (sHi a c 0) sHi_le
  clear ha hb hc hd
  go_enter Tryd.func88, Tryd.ntmps88
  go_wp2
  refine bodyPost_ret (v := .agg #[.int .u64 (sLo a c 0 : Int), .int .u64 (sLo b d (sHi a c 0) : Int)]) (by simp [results, Tryd.results88, go_sem]) rfl ⟨rfl, ?_⟩
  exact (((Below.refl w.heap.size w).alloc (Nat.le_refl _) _).alloc (by simp) _).alloc (by simp; omega) _
theorem uint128_Uint128_SubWrap.calls (a0_0 : Int) (a0_1 : Int) (a1_0 : Int) (a1_1 : Int) (r1 : Int) (r2 : Int) (w : World) (h : uint128_Uint128_SubWrap.f a0_0 a0_1 a1_0 a1_1 = some (r1, r2)) :
    Calls Tryd.prog 88 #[.agg #[.int .u64 a0_0, .int .u64 a0_1], .agg #[.int .u64 a1_0, .int .u64 a1_1]] w fun e w' => e = .returned (.agg #[.int .u64 r1, .int .u64 r2]) ∧ Below w.heap.size w w' := by
  unfold uint128_Uint128_SubWrap.f at h
  split at h
  case isFalse => cases h
  rename_i hb
  obtain ⟨ka, kb, kc, kd⟩ := hb
  obtain ⟨a, rfl, ha⟩ := ka.nat
  obtain ⟨b, rfl, hb⟩ := kb.nat
  obtain ⟨c, rfl, hc⟩ := kc.nat
  obtain ⟨d, rfl, hd⟩ := kd.nat
  have e := Option.some.inj h
  simp only [halves, N128, Int.toNat_natCast, Prod.mk.injEq] at e
  rw [← subw_1 a b c d ha hb hc hd, ← subw_2 a b c d ha hb hc hd] at e
  obtain ⟨rfl, rfl⟩ := e
  exact subwrap_nat a b c d ha hb hc hd w
/-! ### uint128_Uint128_MulWrap: function 89 -/
def mwHi (a b c d : Nat) : Nat := (mHi a c + b * c + a * d) % 18446744073709551616
theorem mw_hi (a b c d : Nat) : IntKind.u64.wrap ((mHi a c : Int) + IntKind.u64.wrap (IntKind.u64.wrap ((b : Int) * (c : Int)) + IntKind.u64.wrap ((a : Int) * (d : Int)))) = (mwHi a b c d : Int) := by
  simp only [IntKind.wrap_u64]
  unfold mwHi
  have e1 : (b : Int) * (c : Int) = ((b * c : Nat) : Int) := by simp
  have e2 : (a : Int) * (d : Int) = ((a * d : Nat) : Int) := by simp
  rw [e1, e2]
  omega
theorem mw_1 (a b c d : Nat) : mLo a c = (a + b * 18446744073709551616) * (c + d * 18446744073709551616) % 18446744073709551616 ∧ mwHi a b c d = (a + b * 18446744073709551616) * (c + d * 18446744073709551616) / 18446744073709551616 % 18446744073709551616 := by
  rw [mw_val]
  unfold mwHi mHi mLo
  generalize a * c = x
  generalize b * c = y
  generalize a * d = z
  generalize b * d = t
  omega
def uint128_Uint128_MulWrap.f (a0_0 a0_1 a1_0 a1_1 : Int) : Option (Int × Int) := if U64 a0_0 ∧ U64 a0_1 ∧ U64 a1_0 ∧ U64 a1_1 then some (halves (N128 a0_0 a0_1 * N128 a1_0 a1_1)) else none
set_option maxHeartbeats 2000000 in
set_option maxRecDepth 100000 in
theorem MulWrap_nat (a b c d : Nat) (ha : a < 18446744073709551616) (hb : b < 18446744073709551616) (hc : c < 18446744073709551616) (hd : d < 18446744073709551616) (w : World) :
    Calls Tryd.prog 89 #[.agg #[.int .u64 a, .int .u64 b], .agg #[.int .u64 c, .int .u64 d]] w fun e w' => e = .returned (.agg #[.int .u64 (mLo a c : Int), .int .u64 (mwHi a b c d : Int)]) ∧ Below w.heap.size w w' := by
  have m1 := Lib.hid (mul64_law a c ha hc)
  have h1 := Lib.hid (mw_hi a b c d)
  clear ha hb hc hd
  go_enter Tryd.func89, Tryd.ntmps89
  go_wp2_with fail
  refine (bits_Mul64.calls _ _ _ _ _ m1.out).mono ?_
  rintro e w1 ⟨rfl, ⟨⟨n1, rfl⟩⟩⟩
  go_wp2
  refine bodyPost_ret (v := .agg #[.int .u64 (mLo a c : Int), .int .u64 (mwHi a b c d : Int)]) (by rw [← h1.out]; simp [results, Tryd.results89, go_sem]) rfl ⟨rfl, ?_⟩
  exact by repeat (first | exact Below.refl _ _ | apply pw_below_drewN | apply below_alloc | refine Below.setCell ?_ (by (try simp only [Nat.le_refl]); omega) _)
theorem uint128_Uint128_MulWrap.calls (a0_0 : Int) (a0_1 : Int) (a1_0 : Int) (a1_1 : Int) (r1 : Int) (r2 : Int) (w : World) (h : uint128_Uint128_MulWrap.f a0_0 a0_1 a1_0 a1_1 = some (r1, r2)) :
    Calls Tryd.prog 89 #[.agg #[.int .u64 a0_0, .int .u64 a0_1], .agg #[.int .u64 a1_0, .int .u64 a1_1]] w fun e w' => e = .returned (.agg #[.int .u64 r1, .int .u64 r2]) ∧ Below w.heap.size w w' := by
  unfold uint128_Uint128_MulWrap.f at h
  split at h
  case isFalse => cases h
  rename_i hb
  obtain ⟨ka, kb, kc, kd⟩ := hb
  obtain ⟨a, rfl, ha⟩ := ka.nat
  obtain ⟨b, rfl, hb⟩ := kb.nat
  obtain ⟨c, rfl, hc⟩ := kc.nat
  obtain ⟨d, rfl, hd⟩ := kd.nat
  have e := Option.some.inj h
  simp only [halves, N128, Int.toNat_natCast, Prod.mk.injEq] at e
  rw [← (mw_1 a b c d).1, ← (mw_1 a b c d).2] at e
  obtain ⟨rfl, rfl⟩ := e
  exact MulWrap_nat a b c d ha hb hc hd w
/-! ### uint128_Uint128_And: function 90 -/
def uint128_Uint128_And.f (a0_0 : Int) (a0_1 : Int) (a1_0 : Int) (a1_1 : Int) : Option (Int × Int) := some (Go.bits .and .u64 a0_0 a1_0, Go.bits .and .u64 a0_1 a1_1)
set_option maxHeartbeats 8000000 in
set_option maxRecDepth 100000 in
theorem uint128_Uint128_And.calls (a0_0 : Int) (a0_1 : Int) (a1_0 : Int) (a1_1 : Int) (r1 : Int) (r2 : Int) (w : World) (h : uint128_Uint128_And.f a0_0 a0_1 a1_0 a1_1 = some (r1, r2)) :
    Calls Tryd.prog 90 #[.agg #[.int .u64 a0_0, .int .u64 a0_1], .agg #[.int .u64 a1_0, .int .u64 a1_1]] w fun e w' => e = .returned (.agg #[.int .u64 r1, .int .u64 r2]) ∧ Below w.heap.size w w' := by
  have hu65 := Tryd.underlying65
  have HB := Aside0.mk (Below.refl w.heap.size w)
  have H : (some (Go.bits .and .u64 a0_0 a1_0, Go.bits .and .u64 a0_1 a1_1)) = some (r1, r2) := h
  clear h
  simp only [Option.some.injEq, Prod.mk.injEq] at H
  obtain ⟨rfl, rfl⟩ := H
  go_enter Tryd.func90, Tryd.ntmps90
  go_wp2_with (first | ((with_reducible refine gate_dst (N := 2) rfl ?_); refine box_event ?hg (N := 2) ?hd (cs := #[.int .u64 a0_0, .int .u64 a0_1]) (t := 65) ?hr ?_; (case hd => rfl); (case hg => rfl); (case hr => first | (go_simp; done) | (go_simp; rfl)); intro gb101 hg w3 hbox hb; have n0_ := Aside0.mk (below_step (by repeat (first | (with_reducible first | exact HB.out | apply below_alloc | apply pw_below_drewN | apply below_drew1) | exact HB.out)) hb); have n1_ := Aside0.mk (hbox); have n2_ := Aside0.mk ((by rw [hg]; exact (below_size (by repeat (first | (with_reducible first | exact HB.out | apply below_alloc | apply pw_below_drewN | apply below_drew1) | exact HB.out))) : w.heap.size ≤ gb101)); have n3_ := Aside0.mk ((by rw [hg]; exact (below_size (by repeat (first | (with_reducible first | exact HB.out | apply below_alloc | apply pw_below_drewN | apply below_drew1) | exact HB.out))) : w.heap.size ≤ gb101)); clear HB; have HB := n0_; have BK101 := n1_; have GW101 := n2_; have GE101 := n3_; clear n0_ n1_ n2_ n3_; clear hb hbox hg) | ((with_reducible refine gate_dst (N := 3) rfl ?_); refine box_event ?hg (N := 3) ?hd (cs := #[.int .u64 a1_0, .int .u64 a1_1]) (t := 65) ?hr ?_; (case hd => rfl); (case hg => rfl); (case hr => first | (go_simp; done) | (go_simp; rfl)); intro gb102 hg w4 hbox hb; have n0_ := Aside0.mk (blk_below (g := gb101) (o := .cells #[.int .u64 a0_0, .int .u64 a0_1] 65 (0, 0)) (by exact BK101.out) hb); have n1_ := Aside0.mk (below_step (by repeat (first | (with_reducible first | exact HB.out | apply below_alloc | apply pw_below_drewN | apply below_drew1 | refine below_set ?_ GE101.out) | exact HB.out)) hb); have n2_ := Aside0.mk (hbox); have n3_ := Aside0.mk ((by rw [hg]; exact (below_size (by repeat (first | (with_reducible first | exact HB.out | apply below_alloc | apply pw_below_drewN | apply below_drew1 | refine below_set ?_ GE101.out) | exact HB.out))) : w.heap.size ≤ gb102)); have n4_ := Aside0.mk ((by rw [hg]; exact (below_size (by repeat (first | (with_reducible first | exact HB.out | apply below_alloc | apply pw_below_drewN | apply below_drew1 | refine below_set ?_ GE101.out) | exact HB.out))) : w.heap.size ≤ gb102)); have n5_ := Aside0.mk ((by rw [hg]; exact Nat.ne_of_lt (blk_lt (g := gb101) (o := .cells #[.int .u64 a0_0, .int .u64 a0_1] 65 (0, 0)) (by exact BK101.out)) : gb101 ≠ gb102)); have n6_ := Aside0.mk ((by rw [hg]; exact Nat.ne_of_gt (blk_lt (g := gb101) (o := .cells #[.int .u64 a0_0, .int .u64 a0_1] 65 (0, 0)) (by exact BK101.out)) : gb102 ≠ gb101)); clear BK101; clear HB; have BK101 := n0_; have HB := n1_; have BK102 := n2_; have GW102 := n3_; have GE102 := n4_; have NB101_102 := n5_; have NB102_101 := n6_; clear n0_ n1_ n2_ n3_ n4_ n5_ n6_; clear hb hbox hg) | ((with_reducible refine gate_dst (N := 4) rfl ?_); refine box_event ?hg (N := 4) ?hd (cs := #[.int .u64 0, .int .u64 0]) (t := 65) ?hr ?_; (case hd => rfl); (case hg => rfl); (case hr => first | (go_simp; done) | (go_simp; rfl)); intro gb103 hg w5 hbox hb; have n0_ := Aside0.mk (blk_below (g := gb101) (o := .cells #[.int .u64 a0_0, .int .u64 a0_1] 65 (0, 0)) (by exact BK101.out) hb); have n1_ := Aside0.mk (blk_below (g := gb102) (o := .cells #[.int .u64 a1_0, .int .u64 a1_1] 65 (0, 0)) (by exact BK102.out) hb); have n2_ := Aside0.mk (below_step (by repeat (first | (with_reducible first | exact HB.out | apply below_alloc | apply pw_below_drewN | apply below_drew1 | refine below_set ?_ GE101.out | refine below_set ?_ GE102.out) | exact HB.out)) hb); have n3_ := Aside0.mk (hbox); have n4_ := Aside0.mk ((by rw [hg]; exact (below_size (by repeat (first | (with_reducible first | exact HB.out | apply below_alloc | apply pw_below_drewN | apply below_drew1 | refine below_set ?_ GE101.out | refine below_set ?_ GE102.out) | exact HB.out))) : w.heap.size ≤ gb103)); have n5_ := Aside0.mk ((by rw [hg]; exact (below_size (by repeat (first | (with_reducible first | exact HB.out | apply below_alloc | apply pw_below_drewN | apply below_drew1 | refine below_set ?_ GE101.out | refine below_set ?_ GE102.out) | exact HB.out))) : w.heap.size ≤ gb103)); have n6_ := Aside0.mk ((by rw [hg]; exact Nat.ne_of_lt (blk_lt (g := gb101) (o := .cells #[.int .u64 a0_0, .int .u64 a0_1] 65 (0, 0)) (by exact BK101.out)) : gb101 ≠ gb103)); have n7_ := Aside0.mk ((by rw [hg]; exact Nat.ne_of_gt (blk_lt (g := gb101) (o := .cells #[.int .u64 a0_0, .int .u64 a0_1] 65 (0, 0)) (by exact BK101.out)) : gb103 ≠ gb101)); have n8_ := Aside0.mk ((by rw [hg]; exact Nat.ne_of_lt (blk_lt (g := gb102) (o := .cells #[.int .u64 a1_0, .int .u64 a1_1] 65 (0, 0)) (by exact BK102.out)) : gb102 ≠ gb103)); have n9_ := Aside0.mk ((by rw [hg]; exact Nat.ne_of_gt (blk_lt (g := gb102) (o := .cells #[.int .u64 a1_0, .int .u64 a1_1] 65 (0, 0)) (by exact BK102.out)) : gb103 ≠ gb102)); clear BK101; clear BK102; clear HB; have BK101 := n0_; have BK102 := n1_; have HB := n2_; have BK103 := n3_; have GW103 := n4_; have GE103 := n5_; have NB101_103 := n6_; have NB103_101 := n7_; have NB102_103 := n8_; have NB103_102 := n9_; clear n0_ n1_ n2_ n3_ n4_ n5_ n6_ n7_ n8_ n9_; clear hb hbox hg; have hnb6 := NB101_102.out; have hnc6 := NB102_101.out; have hnb7 := NB101_103.out; have hnc7 := NB103_101.out; have hcz8_0 : w5.cell? ⟨gb101, 0, none⟩ = some (.int .u64 a0_0) := (blk_cell BK101.out 0).trans rfl; have hcz8_1 : w5.cell? ⟨gb101, 1, none⟩ = some (.int .u64 a0_1) := (blk_cell BK101.out 1).trans rfl; have hfz8_0 := blk_frozen BK101.out 0; have hfz8_1 := blk_frozen BK101.out 1; have hnb9 := NB102_103.out; have hnc9 := NB103_102.out; have hcz10_0 : w5.cell? ⟨gb102, 0, none⟩ = some (.int .u64 a1_0) := (blk_cell BK102.out 0).trans rfl; have hcz10_1 : w5.cell? ⟨gb102, 1, none⟩ = some (.int .u64 a1_1) := (blk_cell BK102.out 1).trans rfl; have hfz10_0 := blk_frozen BK102.out 0; have hfz10_1 := blk_frozen BK102.out 1; have hcz11_0 : w5.cell? ⟨gb103, 0, none⟩ = some (.int .u64 0) := (blk_cell BK103.out 0).trans rfl; have hcz11_1 : w5.cell? ⟨gb103, 1, none⟩ = some (.int .u64 0) := (blk_cell BK103.out 1).trans rfl; have hfz11_0 := blk_frozen BK103.out 0; have hfz11_1 := blk_frozen BK103.out 1))
  refine bodyPost_ret (results_cell_row rfl _ _ gb103 65 #[.int .u64 (Go.bits .and .u64 a0_0 a1_0), .int .u64 (Go.bits .and .u64 a0_1 a1_1)] (0, 0) _ rfl (by (with_reducible repeat (first | refine blk_drewN ?_ _ | refine blk_drew ?_ | refine blk_alloc ?_ _)); refine blk_put (cs := #[.int .u64 (Go.bits .and .u64 a0_0 a1_0), .int .u64 0]) ?_ 1 _ rfl; (with_reducible repeat (first | refine blk_drewN ?_ _ | refine blk_drew ?_ | refine blk_alloc ?_ _)); refine blk_put (cs := #[.int .u64 0, .int .u64 0]) ?_ 0 _ rfl; (with_reducible repeat (first | refine blk_drewN ?_ _ | refine blk_drew ?_ | refine blk_alloc ?_ _)); exact BK103.out) Tryd.underlying65 rfl (by kernel_rfl)) rfl ?_
  exact ⟨by first | rfl | (simp [errW_none, errW_some] <;> rfl) | (simp [*, errW_none, errW_some] <;> rfl), by repeat (first | (with_reducible first | exact HB.out | apply below_alloc | apply pw_below_drewN | apply below_drew1 | refine below_set ?_ GE101.out | refine below_set ?_ GE102.out | refine below_set ?_ GE103.out) | exact HB.out)⟩
/-! ### uint128_Uint128_Or: function 91 -/
def uint128_Uint128_Or.f (a0_0 : Int) (a0_1 : Int) (a1_0 : Int) (a1_1 : Int) : Option (Int × Int) := some (Go.bits .or .u64 a0_0 a1_0, Go.bits .or .u64 a0_1 a1_1)
set_option maxHeartbeats 8000000 in
set_option maxRecDepth 100000 in
theorem uint128_Uint128_Or.calls (a0_0 : Int) (a0_1 : Int) (a1_0 : Int) (a1_1 : Int) (r1 : Int) (r2 : Int) (w : World) (h : uint128_Uint128_Or.f a0_0 a0_1 a1_0 a1_1 = some (r1, r2)) :
    Calls Tryd.prog 91 #[.agg #[.int .u64 a0_0, .int .u64 a0_1], .agg #[.int .u64 a1_0, .int .u64 a1_1]] w fun e w' => e = .returned (.agg #[.int .u64 r1, .int .u64 r2]) ∧ Below w.heap.size w w' := by
  have hu65 := Tryd.underlying65
  have HB := Aside0.mk (Below.refl w.heap.size w)
  have H : (some (Go.bits .or .u64 a0_0 a1_0, Go.bits .or .u64 a0_1 a1_1)) = some (r1, r2) := h
  clear h
  simp only [Option.some.injEq, Prod.mk.injEq] at H
  obtain ⟨rfl, rfl⟩ := H
  go_enter Tryd.func91, Tryd.ntmps91
  go_wp2_with (first | ((with_reducible refine gate_dst (N := 2) rfl ?_); refine box_event ?hg (N := 2) ?hd (cs := #[.int .u64 a0_0, .int .u64 a0_1]) (t := 65) ?hr ?_; (case hd => rfl); (case hg => rfl); (case hr => first | (go_simp; done) | (go_simp; rfl)); intro gb104 hg w3 hbox hb; have n0_ := Aside0.mk (below_step (by repeat (first | (with_reducible first | exact HB.out | apply below_alloc | apply pw_below_drewN | apply below_drew1) | exact HB.out)) hb); have n1_ := Aside0.mk (hbox); have n2_ := Aside0.mk ((by rw [hg]; exact (below_size (by repeat (first | (with_reducible first | exact HB.out | apply below_alloc | apply pw_below_drewN | apply below_drew1) | exact HB.out))) : w.heap.size ≤ gb104)); have n3_ := Aside0.mk ((by rw [hg]; exact (below_size (by repeat (first | (with_reducible first | exact HB.out | apply below_alloc | apply pw_below_drewN | apply below_drew1) | exact HB.out))) : w.heap.size ≤ gb104)); clear HB; have HB := n0_; have BK104 := n1_; have GW104 := n2_; have GE104 := n3_; clear n0_ n1_ n2_ n3_; clear hb hbox hg) | ((with_reducible refine gate_dst (N := 3) rfl ?_); refine box_event ?hg (N := 3) ?hd (cs := #[.int .u64 a1_0, .int .u64 a1_1]) (t := 65) ?hr ?_; (case hd => rfl); (case hg => rfl); (case hr => first | (go_simp; done) | (go_simp; rfl)); intro gb105 hg w4 hbox hb; have n0_ := Aside0.mk (blk_below (g := gb104) (o := .cells #[.int .u64 a0_0, .int .u64 a0_1] 65 (0, 0)) (by exact BK104.out) hb); have n1_ := Aside0.mk (below_step (by repeat (first | (with_reducible first | exact HB.out | apply below_alloc | apply pw_below_drewN | apply below_drew1 | refine below_set ?_ GE104.out) | exact HB.out)) hb); have n2_ := Aside0.mk (hbox); have n3_ := Aside0.mk ((by rw [hg]; exact (below_size (by repeat (first | (with_reducible first | exact HB.out | apply below_alloc | apply pw_below_drewN | apply below_drew1 | refine below_set ?_ GE104.out) | exact HB.out))) : w.heap.size ≤ gb105)); have n4_ := Aside0.mk ((by rw [hg]; exact (below_size (by repeat (first | (with_reducible first | exact HB.out | apply below_alloc | apply pw_below_drewN | apply below_drew1 | refine below_set ?_ GE104.out) | exact HB.out))) : w.heap.size ≤ gb105)); have n5_ := Aside0.mk ((by rw [hg]; exact Nat.ne_of_lt (blk_lt (g := gb104) (o := .cells #[.int .u64 a0_0, .int .u64 a0_1] 65 (0, 0)) (by exact BK104.out)) : gb104 ≠ gb105)); have n6_ := Aside0.mk ((by rw [hg]; exact Nat.ne_of_gt (blk_lt (g := gb104) (o := .cells #[.int .u64 a0_0, .int .u64 a0_1] 65 (0, 0)) (by exact BK104.out)) : gb105 ≠ gb104)); clear BK104; clear HB; have BK104 := n0_; have HB := n1_; have BK105 := n2_; have GW105 := n3_; have GE105 := n4_; have NB104_105 := n5_; have NB105_104 := n6_; clear n0_ n1_ n2_ n3_ n4_ n5_ n6_; clear hb hbox hg) | ((with_reducible refine gate_dst (N := 4) rfl ?_); refine box_event ?hg (N := 4) ?hd (cs := #[.int .u64 0, .int .u64 0]) (t := 65) ?hr ?_; (case hd => rfl); (case hg => rfl); (case hr => first | (go_simp; done) | (go_simp; rfl)); intro gb106 hg w5 hbox hb; have n0_ := Aside0.mk (blk_below (g := gb104) (o := .cells #[.int .u64 a0_0, .int .u64 a0_1] 65 (0, 0)) (by exact BK104.out) hb); have n1_ := Aside0.mk (blk_below (g := gb105) (o := .cells #[.int .u64 a1_0, .int .u64 a1_1] 65 (0, 0)) (by exact BK105.out) hb); have n2_ := Aside0.mk (below_step (by repeat (first | (with_reducible first | exact HB.out | apply below_alloc | apply pw_below_drewN | apply below_drew1 | refine below_set ?_ GE104.out | refine below_set ?_ GE105.out) | exact HB.out)) hb); have n3_ := Aside0.mk (hbox); have n4_ := Aside0.mk ((by rw [hg]; exact (below_size (by repeat (first | (with_reducible first | exact HB.out | apply below_alloc | apply pw_below_drewN | apply below_drew1 | refine below_set ?_ GE104.out | refine below_set ?_ GE105.out) | exact HB.out))) : w.heap.size ≤ gb106)); have n5_ := Aside0.mk ((by rw [hg]; exact (below_size (by repeat (first | (with_reducible first | exact HB.out | apply below_alloc | apply pw_below_drewN | apply below_drew1 | refine below_set ?_ GE104.out | refine below_set ?_ GE105.out) | exact HB.out))) : w.heap.size ≤ gb106)); have n6_ := Aside0.mk ((by rw [hg]; exact Nat.ne_of_lt (blk_lt (g := gb104) (o := .cells #[.int .u64 a0_0, .int .u64 a0_1] 65 (0, 0)) (by exact BK104.out)) : gb104 ≠ gb106)); have n7_ := Aside0.mk ((by rw [hg]; exact Nat.ne_of_gt (blk_lt (g := gb104) (o := .cells #[.int .u64 a0_0, .int .u64 a0_1] 65 (0, 0)) (by exact BK104.out)) : gb106 ≠ gb104)); have n8_ := Aside0.mk ((by rw [hg]; exact Nat.ne_of_lt (blk_lt (g := gb105) (o := .cells #[.int .u64 a1_0, .int .u64 a1_1] 65 (0, 0)) (by exact BK105.out)) : gb105 ≠ gb106)); have n9_ := Aside0.mk ((by rw [hg]; exact Nat.ne_of_gt (blk_lt (g := gb105) (o := .cells #[.int .u64 a1_0, .int .u64 a1_1] 65 (0, 0)) (by exact BK105.out)) : gb106 ≠ gb105)); clear BK104; clear BK105; clear HB; have BK104 := n0_; have BK105 := n1_; have HB := n2_; have BK106 := n3_; have GW106 := n4_; have GE106 := n5_; have NB104_106 := n6_; have NB106_104 := n7_; have NB105_106 := n8_; have NB106_105 := n9_; clear n0_ n1_ n2_ n3_ n4_ n5_ n6_ n7_ n8_ n9_; clear hb hbox hg; have hnb6 := NB104_105.out; have hnc6 := NB105_104.out; have hnb7 := NB104_106.out; have hnc7 := NB106_104.out; have hcz8_0 : w5.cell? ⟨gb104, 0, none⟩ = some (.int .u64 a0_0) := (blk_cell BK104.out 0).trans rfl; have hcz8_1 : w5.cell? ⟨gb104, 1, none⟩ = some (.int .u64 a0_1) := (blk_cell BK104.out 1).trans rfl; have hfz8_0 := blk_frozen BK104.out 0; have hfz8_1 := blk_frozen BK104.out 1; have hnb9 := NB105_106.out; have hnc9 := NB106_105.out; have hcz10_0 : w5.cell? ⟨gb105, 0, none⟩ = some (.int .u64 a1_0) := (blk_cell BK105.out 0).trans rfl; have hcz10_1 : w5.cell? ⟨gb105, 1, none⟩ = some (.int .u64 a1_1) := (blk_cell BK105.out 1).trans rfl; have hfz10_0 := blk_frozen BK105.out 0; have hfz10_1 := blk_frozen BK105.out 1; have hcz11_0 : w5.cell? ⟨gb106, 0, none⟩ = some (.int .u64 0) := (blk_cell BK106.out 0).trans rfl; have hcz11_1 : w5.cell? ⟨gb106, 1, none⟩ = some (.int .u64 0) := (blk_cell BK106.out 1).trans rfl; have hfz11_0 := blk_frozen BK106.out 0; have hfz11_1 := blk_frozen BK106.out 1))
  refine bodyPost_ret (results_cell_row rfl _ _ gb106 65 #[.int .u64 (Go.bits .or .u64 a0_0 a1_0), .int .u64 (Go.bits .or .u64 a0_1 a1_1)] (0, 0) _ rfl (by (with_reducible repeat (first | refine blk_drewN ?_ _ | refine blk_drew ?_ | refine blk_alloc ?_ _)); refine blk_put (cs := #[.int .u64 (Go.bits .or .u64 a0_0 a1_0), .int .u64 0]) ?_ 1 _ rfl; (with_reducible repeat (first | refine blk_drewN ?_ _ | refine blk_drew ?_ | refine blk_alloc ?_ _)); refine blk_put (cs := #[.int .u64 0, .int .u64 0]) ?_ 0 _ rfl; (with_reducible repeat (first | refine blk_drewN ?_ _ | refine blk_drew ?_ | refine blk_alloc ?_ _)); exact BK106.out) Tryd.underlying65 rfl (by kernel_rfl)) rfl ?_
  exact ⟨by first | rfl | (simp [errW_none, errW_some] <;> rfl) | (simp [*, errW_none, errW_some] <;> rfl), by repeat (first | (with_reducible first | exact HB.out | apply below_alloc | apply pw_below_drewN | apply below_drew1 | refine below_set ?_ GE104.out | refine below_set ?_ GE105.out | refine below_set ?_ GE106.out) | exact HB.out)⟩
/-! ### uint128_Uint128_Xor: function 92 -/
def uint128_Uint128_Xor.f (a0_0 : Int) (a0_1 : Int) (a1_0 : Int) (a1_1 : Int) : Option (Int × Int) := some (Go.bits .xor .u64 a0_0 a1_0, Go.bits .xor .u64 a0_1 a1_1)
set_option maxHeartbeats 8000000 in
set_option maxRecDepth 100000 in
theorem uint128_Uint128_Xor.calls (a0_0 : Int) (a0_1 : Int) (a1_0 : Int) (a1_1 : Int) (r1 : Int) (r2 : Int) (w : World) (h : uint128_Uint128_Xor.f a0_0 a0_1 a1_0 a1_1 = some (r1, r2)) :
    Calls Tryd.prog 92 #[.agg #[.int .u64 a0_0, .int .u64 a0_1], .agg #[.int .u64 a1_0, .int .u64 a1_1]] w fun e w' => e = .returned (.agg #[.int .u64 r1, .int .u64 r2]) ∧ Below w.heap.size w w' := by
  have hu65 := Tryd.underlying65
  have HB := Aside0.mk (Below.refl w.heap.size w)
  have H : (some (Go.bits .xor .u64 a0_0 a1_0, Go.bits .xor .u64 a0_1 a1_1)) = some (r1, r2) := h
  clear h
  simp only [Option.some.injEq, Prod.mk.injEq] at H
  obtain ⟨rfl, rfl⟩ := H
  go_enter Tryd.func92, Tryd.ntmps92
  go_wp2_with (first | ((with_reducible refine gate_dst (N := 2) rfl ?_); refine box_event ?hg (N := 2) ?hd (cs := #[.int .u64 a0_0, .int .u64 a0_1]) (t := 65) ?hr ?_; (case hd => rfl); (case hg => rfl); (case hr => first | (go_simp; done) | (go_simp; rfl)); intro gb107 hg w3 hbox hb; have n0_ := Aside0.mk (below_step (by repeat (first | (with_reducible first | exact HB.out | apply below_alloc | apply pw_below_drewN | apply below_drew1) | exact HB.out)) hb); have n1_ := Aside0.mk (hbox); have n2_ := Aside0.mk ((by rw [hg]; exact (below_size (by repeat (first | (with_reducible first | exact HB.out | apply below_alloc | apply pw_below_drewN | apply below_drew1) | exact HB.out))) : w.heap.size ≤ gb107)); have n3_ := Aside0.mk ((by rw [hg]; exact (below_size (by repeat (first | (with_reducible first | exact HB.out | apply below_alloc | apply pw_below_drewN | apply below_drew1) | exact HB.out))) : w.heap.size ≤ gb107)); clear HB; have HB := n0_; have BK107 := n1_; have GW107 := n2_; have GE107 := n3_; clear n0_ n1_ n2_ n3_; clear hb hbox hg) | ((with_reducible refine gate_dst (N := 3) rfl ?_); refine box_event ?hg (N := 3) ?hd (cs := #[.int .u64 a1_0, .int .u64 a1_1]) (t := 65) ?hr ?_; (case hd => rfl); (case hg => rfl); (case hr => first | (go_simp; done) | (go_simp; rfl)); intro gb108 hg w4 hbox hb; have n0_ := Aside0.mk (blk_below (g := gb107) (o := .cells #[.int .u64 a0_0, .int .u64 a0_1] 65 (0, 0)) (by exact BK107.out) hb); have n1_ := Aside0.mk (below_step (by repeat (first | (with_reducible first | exact HB.out | apply below_alloc | apply pw_below_drewN | apply below_drew1 | refine below_set ?_ GE107.out) | exact HB.out)) hb); have n2_ := Aside0.mk (hbox); have n3_ := Aside0.mk ((by rw [hg]; exact (below_size (by repeat (first | (with_reducible first | exact HB.out | apply below_alloc | apply pw_below_drewN | apply below_drew1 | refine below_set ?_ GE107.out) | exact HB.out))) : w.heap.size ≤ gb108)); have n4_ := Aside0.mk ((by rw [hg]; exact (below_size (by repeat (first | (with_reducible first | exact HB.out | apply below_alloc | apply pw_below_drewN | apply below_drew1 | refine below_set ?_ GE107.out) | exact HB.out))) : w.heap.size ≤ gb108)); have n5_ := Aside0.mk ((by rw [hg]; exact Nat.ne_of_lt (blk_lt (g := gb107) (o := .cells #[.int .u64 a0_0, .int .u64 a0_1] 65 (0, 0)) (by exact BK107.out)) : gb107 ≠ gb108)); have n6_ := Aside0.mk ((by rw [hg]; exact Nat.ne_of_gt (blk_lt (g := gb107) (o := .cells #[.int .u64 a0_0, .int .u64 a0_1] 65 (0, 0)) (by exact BK107.out)) : gb108 ≠ gb107)); clear BK107; clear HB; have BK107 := n0_; have HB := n1_; have BK108 := n2_; have GW108 := n3_; have GE108 := n4_; have NB107_108 := n5_; have NB108_107 := n6_; clear n0_ n1_ n2_ n3_ n4_ n5_ n6_; clear hb hbox hg) | ((with_reducible refine gate_dst (N := 4) rfl ?_); refine box_event ?hg (N := 4) ?hd (cs := #[.int .u64 0, .int .u64 0]) (t := 65) ?hr ?_; (case hd => rfl); (case hg => rfl); (case hr => first | (go_simp; done) | (go_simp; rfl)); intro gb109 hg w5 hbox hb; have n0_ := Aside0.mk (blk_below (g := gb107) (o := .cells #[.int .u64 a0_0, .int .u64 a0_1] 65 (0, 0)) (by exact BK107.out) hb); have n1_ := Aside0.mk (blk_below (g := gb108) (o := .cells #[.int .u64 a1_0, .int .u64 a1_1] 65 (0, 0)) (by exact BK108.out) hb); have n2_ := Aside0.mk (below_step (by repeat (first | (with_reducible first | exact HB.out | apply below_alloc | apply pw_below_drewN | apply below_drew1 | refine below_set ?_ GE107.out | refine below_set ?_ GE108.out) | exact HB.out)) hb); have n3_ := Aside0.mk (hbox); have n4_ := Aside0.mk ((by rw [hg]; exact (below_size (by repeat (first | (with_reducible first | exact HB.out | apply below_alloc | apply pw_below_drewN | apply below_drew1 | refine below_set ?_ GE107.out | refine below_set ?_ GE108.out) | exact HB.out))) : w.heap.size ≤ gb109)); have n5_ := Aside0.mk ((by rw [hg]; exact (below_size (by repeat (first | (with_reducible first | exact HB.out | apply below_alloc | apply pw_below_drewN | apply below_drew1 | refine below_set ?_ GE107.out | refine below_set ?_ GE108.out) | exact HB.out))) : w.heap.size ≤ gb109)); have n6_ := Aside0.mk ((by rw [hg]; exact Nat.ne_of_lt (blk_lt (g := gb107) (o := .cells #[.int .u64 a0_0, .int .u64 a0_1] 65 (0, 0)) (by exact BK107.out)) : gb107 ≠ gb109)); have n7_ := Aside0.mk ((by rw [hg]; exact Nat.ne_of_gt (blk_lt (g := gb107) (o := .cells #[.int .u64 a0_0, .int .u64 a0_1] 65 (0, 0)) (by exact BK107.out)) : gb109 ≠ gb107)); have n8_ := Aside0.mk ((by rw [hg]; exact Nat.ne_of_lt (blk_lt (g := gb108) (o := .cells #[.int .u64 a1_0, .int .u64 a1_1] 65 (0, 0)) (by exact BK108.out)) : gb108 ≠ gb109)); have n9_ := Aside0.mk ((by rw [hg]; exact Nat.ne_of_gt (blk_lt (g := gb108) (o := .cells #[.int .u64 a1_0, .int .u64 a1_1] 65 (0, 0)) (by exact BK108.out)) : gb109 ≠ gb108)); clear BK107; clear BK108; clear HB; have BK107 := n0_; have BK108 := n1_; have HB := n2_; have BK109 := n3_; have GW109 := n4_; have GE109 := n5_; have NB107_109 := n6_; have NB109_107 := n7_; have NB108_109 := n8_; have NB109_108 := n9_; clear n0_ n1_ n2_ n3_ n4_ n5_ n6_ n7_ n8_ n9_; clear hb hbox hg; have hnb6 := NB107_108.out; have hnc6 := NB108_107.out; have hnb7 := NB107_109.out; have hnc7 := NB109_107.out; have hcz8_0 : w5.cell? ⟨gb107, 0, none⟩ = some (.int .u64 a0_0) := (blk_cell BK107.out 0).trans rfl; have hcz8_1 : w5.cell? ⟨gb107, 1, none⟩ = some (.int .u64 a0_1) := (blk_cell BK107.out 1).trans rfl; have hfz8_0 := blk_frozen BK107.out 0; have hfz8_1 := blk_frozen BK107.out 1; have hnb9 := NB108_109.out; have hnc9 := NB109_108.out; have hcz10_0 : w5.cell? ⟨gb108, 0, none⟩ = some (.int .u64 a1_0) := (blk_cell BK108.out 0).trans rfl; have hcz10_1 : w5.cell? ⟨gb108, 1, none⟩ = some (.int .u64 a1_1) := (blk_cell BK108.out 1).trans rfl; have hfz10_0 := blk_frozen BK108.out 0; have hfz10_1 := blk_frozen BK108.out 1; have hcz11_0 : w5.cell? ⟨gb109, 0, none⟩ = some (.int .u64 0) := (blk_cell BK109.out 0).trans rfl; have hcz11_1 : w5.cell? ⟨gb109, 1, none⟩ = some (.int .u64 0) := (blk_cell BK109.out 1).trans rfl; have hfz11_0 := blk_frozen BK109.out 0; have hfz11_1 := blk_frozen BK109.out 1))
  refine bodyPost_ret (results_cell_row rfl _ _ gb109 65 #[.int .u64 (Go.bits .xor .u64 a0_0 a1_0), .int .u64 (Go.bits .xor .u64 a0_1 a1_1)] (0, 0) _ rfl (by (with_reducible repeat (first | refine blk_drewN ?_ _ | refine blk_drew ?_ | refine blk_alloc ?_ _)); refine blk_put (cs := #[.int .u64 (Go.bits .xor .u64 a0_0 a1_0), .int .u64 0]) ?_ 1 _ rfl; (with_reducible repeat (first | refine blk_drewN ?_ _ | refine blk_drew ?_ | refine blk_alloc ?_ _)); refine blk_put (cs := #[.int .u64 0, .int .u64 0]) ?_ 0 _ rfl; (with_reducible repeat (first | refine blk_drewN ?_ _ | refine blk_drew ?_ | refine blk_alloc ?_ _)); exact BK109.out) Tryd.underlying65 rfl (by kernel_rfl)) rfl ?_
  exact ⟨by first | rfl | (simp [errW_none, errW_some] <;> rfl) | (simp [*, errW_none, errW_some] <;> rfl), by repeat (first | (with_reducible first | exact HB.out | apply below_alloc | apply pw_below_drewN | apply below_drew1 | refine below_set ?_ GE107.out | refine below_set ?_ GE108.out | refine below_set ?_ GE109.out) | exact HB.out)⟩
/-! ### uint128_Uint128_Lsh: function 93 -/
def uint128_Uint128_Lsh.f (a0_0 : Int) (a0_1 : Int) (a1 : Int) : Option (Int × Int) := if a1 > 64 then (if 0 ≤ (IntKind.u64.wrap (a1 - 64)) then (some (0, shl .u64 a0_0 (IntKind.u64.wrap (a1 - 64)))) else (none)) else (if 0 ≤ a1 then (if 0 ≤ (IntKind.u64.wrap (64 - a1)) then (some (shl .u64 a0_0 a1, Go.bits .or .u64 (shl .u64 a0_1 a1) (shr .u64 a0_0 (IntKind.u64.wrap (64 - a1))))) else (none)) else (none))
set_option maxHeartbeats 8000000 in
set_option maxRecDepth 100000 in
theorem uint128_Uint128_Lsh.calls (a0_0 : Int) (a0_1 : Int) (a1 : Int) (r1 : Int) (r2 : Int) (w : World) (h : uint128_Uint128_Lsh.f a0_0 a0_1 a1 = some (r1, r2)) :
    Calls Tryd.prog 93 #[.agg #[.int .u64 a0_0, .int .u64 a0_1], .int .u64 a1] w fun e w' => e = .returned (.agg #[.int .u64 r1, .int .u64 r2]) ∧ Below w.heap.size w w' := by
  have hu65 := Tryd.underlying65
  have HB := Aside0.mk (Below.refl w.heap.size w)
  have H : (if a1 > 64 then (if 0 ≤ (IntKind.u64.wrap (a1 - 64)) then (some (0, shl .u64 a0_0 (IntKind.u64.wrap (a1 - 64)))) else (none)) else (if 0 ≤ a1 then (if 0 ≤ (IntKind.u64.wrap (64 - a1)) then (some (shl .u64 a0_0 a1, Go.bits .or .u64 (shl .u64 a0_1 a1) (shr .u64 a0_0 (IntKind.u64.wrap (64 - a1))))) else (none)) else (none))) = some (r1, r2) := h
  clear h
  by_cases c3 : a1 > 64
  · rw [if_pos c3] at H
    have c3b0 : decide (64 < a1) = true := decide_eq_true c3
    clear c3
    obtain ⟨ji4, hji4⟩ : ∃ j_ : Int, (IntKind.u64.wrap (a1 - 64)) = j_ := ⟨_, rfl⟩
    replace H : (if 0 ≤ (ji4) then (some (0, shl .u64 a0_0 (ji4))) else (none)) = some (r1, r2) := by first | (rw [hji4] at H; exact H) | (simp only [hji4] at H ⊢; exact H)
    by_cases c5 : 0 ≤ (ji4)
    · rw [if_pos c5] at H
      have c5b0 := eq_true c5
      have c5b1 : decide (0 ≤ (ji4)) = true := decide_eq_true c5
      clear c5
      obtain ⟨ji6, hji6⟩ : ∃ j_ : Int, (shl .u64 a0_0 (ji4)) = j_ := ⟨_, rfl⟩
      replace H : (some (0, ji6)) = some (r1, r2) := by first | (rw [hji6] at H; exact H) | (simp only [hji6] at H ⊢; exact H)
      have hji6_ : (IntKind.u64.wrap (a0_0 * 2 ^ min (ji4).toNat 64)) = ji6 := hji6
      have hji6z : (ji4) ≤ 64 → (IntKind.u64.wrap (a0_0 * 2 ^ (ji4).toNat)) = ji6 := shl_small hji6
      simp only [Option.some.injEq, Prod.mk.injEq] at H
      obtain ⟨rfl, rfl⟩ := H
      go_enter Tryd.func93, Tryd.ntmps93
      go_wp2_with (first | ((with_reducible refine gate_dst (N := 2) rfl ?_); refine box_event ?hg (N := 2) ?hd (cs := #[.int .u64 a0_0, .int .u64 a0_1]) (t := 65) ?hr ?_; (case hd => rfl); (case hg => rfl); (case hr => first | (go_simp; done) | (go_simp; rfl)); intro gb110 hg w7 hbox hb; have n0_ := Aside0.mk (below_step (by repeat (first | (with_reducible first | exact HB.out | apply below_alloc | apply pw_below_drewN | apply below_drew1) | exact HB.out)) hb); have n1_ := Aside0.mk (hbox); have n2_ := Aside0.mk ((by rw [hg]; exact (below_size (by repeat (first | (with_reducible first | exact HB.out | apply below_alloc | apply pw_below_drewN | apply below_drew1) | exact HB.out))) : w.heap.size ≤ gb110)); have n3_ := Aside0.mk ((by rw [hg]; exact (below_size (by repeat (first | (with_reducible first | exact HB.out | apply below_alloc | apply pw_below_drewN | apply below_drew1) | exact HB.out))) : w.heap.size ≤ gb110)); clear HB; have HB := n0_; have BK110 := n1_; have GW110 := n2_; have GE110 := n3_; clear n0_ n1_ n2_ n3_; clear hb hbox hg) | ((with_reducible refine gate_dst (N := 4) rfl ?_); refine box_event ?hg (N := 4) ?hd (cs := #[.int .u64 0, .int .u64 0]) (t := 65) ?hr ?_; (case hd => rfl); (case hg => rfl); (case hr => first | (go_simp; done) | (go_simp; rfl)); intro gb111 hg w8 hbox hb; have n0_ := Aside0.mk (blk_below (g := gb110) (o := .cells #[.int .u64 a0_0, .int .u64 a0_1] 65 (0, 0)) (by exact BK110.out) hb); have n1_ := Aside0.mk (below_step (by repeat (first | (with_reducible first | exact HB.out | apply below_alloc | apply pw_below_drewN | apply below_drew1 | refine below_set ?_ GE110.out) | exact HB.out)) hb); have n2_ := Aside0.mk (hbox); have n3_ := Aside0.mk ((by rw [hg]; exact (below_size (by repeat (first | (with_reducible first | exact HB.out | apply below_alloc | apply pw_below_drewN | apply below_drew1 | refine below_set ?_ GE110.out) | exact HB.out))) : w.heap.size ≤ gb111)); have n4_ := Aside0.mk ((by rw [hg]; exact (below_size (by repeat (first | (with_reducible first | exact HB.out | apply below_alloc | apply pw_below_drewN | apply below_drew1 | refine below_set ?_ GE110.out) | exact HB.out))) : w.heap.size ≤ gb111)); have n5_ := Aside0.mk ((by rw [hg]; exact Nat.ne_of_lt (blk_lt (g := gb110) (o := .cells #[.int .u64 a0_0, .int .u64 a0_1] 65 (0, 0)) (by exact BK110.out)) : gb110 ≠ gb111)); have n6_ := Aside0.mk ((by rw [hg]; exact Nat.ne_of_gt (blk_lt (g := gb110) (o := .cells #[.int .u64 a0_0, .int .u64 a0_1] 65 (0, 0)) (by exact BK110.out)) : gb111 ≠ gb110)); clear BK110; clear HB; have BK110 := n0_; have HB := n1_; have BK111 := n2_; have GW111 := n3_; have GE111 := n4_; have NB110_111 := n5_; have NB111_110 := n6_; clear n0_ n1_ n2_ n3_ n4_ n5_ n6_; clear hb hbox hg; have hnb9 := NB111_110.out; have hnc9 := NB110_111.out; have hcz10_0 : w8.cell? ⟨gb111, 0, none⟩ = some (.int .u64 0) := (blk_cell BK111.out 0).trans rfl; have hcz10_1 : w8.cell? ⟨gb111, 1, none⟩ = some (.int .u64 0) := (blk_cell BK111.out 1).trans rfl; have hfz10_0 := blk_frozen BK111.out 0; have hfz10_1 := blk_frozen BK111.out 1; have hcz11_0 : w8.cell? ⟨gb110, 0, none⟩ = some (.int .u64 a0_0) := (blk_cell BK110.out 0).trans rfl; have hcz11_1 : w8.cell? ⟨gb110, 1, none⟩ = some (.int .u64 a0_1) := (blk_cell BK110.out 1).trans rfl; have hfz11_0 := blk_frozen BK110.out 0; have hfz11_1 := blk_frozen BK110.out 1))
      refine bodyPost_ret (results_cell_row rfl _ _ gb111 65 #[.int .u64 0, .int .u64 ji6] (0, 0) _ rfl (by (with_reducible repeat (first | refine blk_drewN ?_ _ | refine blk_drew ?_ | refine blk_alloc ?_ _)); refine blk_put (cs := #[.int .u64 0, .int .u64 0]) ?_ 1 _ rfl; (with_reducible repeat (first | refine blk_drewN ?_ _ | refine blk_drew ?_ | refine blk_alloc ?_ _)); refine blk_put (cs := #[.int .u64 0, .int .u64 0]) ?_ 0 _ rfl; (with_reducible repeat (first | refine blk_drewN ?_ _ | refine blk_drew ?_ | refine blk_alloc ?_ _)); exact BK111.out) Tryd.underlying65 rfl (by kernel_rfl)) rfl ?_
      exact ⟨by first | rfl | (simp [errW_none, errW_some] <;> rfl) | (simp only [← hji4, ← hji6]; first | rfl | (simp [errW_none, errW_some] <;> rfl)) | (simp [*, errW_none, errW_some] <;> rfl), by repeat (first | (with_reducible first | exact HB.out | apply below_alloc | apply pw_below_drewN | apply below_drew1 | refine below_set ?_ GE110.out | refine below_set ?_ GE111.out) | exact HB.out)⟩
    · rw [if_neg c5] at H
      exact absurd H (by simp)
  · rw [if_neg c3] at H
    have c3b0 : decide (64 < a1) = false := decide_eq_false c3
    clear c3
    by_cases c12 : 0 ≤ a1
    · rw [if_pos c12] at H
      have c12b0 := eq_true c12
      have c12b1 : decide (0 ≤ a1) = true := decide_eq_true c12
      clear c12
      obtain ⟨ji13, hji13⟩ : ∃ j_ : Int, (shl .u64 a0_0 a1) = j_ := ⟨_, rfl⟩
      replace H : (if 0 ≤ (IntKind.u64.wrap (64 - a1)) then (some (ji13, Go.bits .or .u64 (shl .u64 a0_1 a1) (shr .u64 a0_0 (IntKind.u64.wrap (64 - a1))))) else (none)) = some (r1, r2) := by first | (rw [hji13] at H; exact H) | (simp only [hji13] at H ⊢; exact H)
      have hji13_ : (IntKind.u64.wrap (a0_0 * 2 ^ min a1.toNat 64)) = ji13 := hji13
      have hji13z : a1 ≤ 64 → (IntKind.u64.wrap (a0_0 * 2 ^ a1.toNat)) = ji13 := shl_small hji13
      have c14b0 := eq_true (of_decide_eq_true (by first | (with_reducible assumption) | assumption) : 0 ≤ a1)
      obtain ⟨ji15, hji15⟩ : ∃ j_ : Int, (shl .u64 a0_1 a1) = j_ := ⟨_, rfl⟩
      replace H : (if 0 ≤ (IntKind.u64.wrap (64 - a1)) then (some (ji13, Go.bits .or .u64 (ji15) (shr .u64 a0_0 (IntKind.u64.wrap (64 - a1))))) else (none)) = some (r1, r2) := by first | (rw [hji15] at H; exact H) | (simp only [hji15] at H ⊢; exact H)
      have hji15_ : (IntKind.u64.wrap (a0_1 * 2 ^ min a1.toNat 64)) = ji15 := hji15
      have hji15z : a1 ≤ 64 → (IntKind.u64.wrap (a0_1 * 2 ^ a1.toNat)) = ji15 := shl_small hji15
      obtain ⟨ji16, hji16⟩ : ∃ j_ : Int, (IntKind.u64.wrap (64 - a1)) = j_ := ⟨_, rfl⟩
      replace H : (if 0 ≤ (ji16) then (some (ji13, Go.bits .or .u64 (ji15) (shr .u64 a0_0 (ji16)))) else (none)) = some (r1, r2) := by first | (rw [hji16] at H; exact H) | (simp only [hji16] at H ⊢; exact H)
      by_cases c17 : 0 ≤ (ji16)
      · rw [if_pos c17] at H
        have c17b0 := eq_true c17
        have c17b1 : decide (0 ≤ (ji16)) = true := decide_eq_true c17
        clear c17
        obtain ⟨ji18, hji18⟩ : ∃ j_ : Int, (shr .u64 a0_0 (ji16)) = j_ := ⟨_, rfl⟩
        replace H : (some (ji13, Go.bits .or .u64 (ji15) (ji18))) = some (r1, r2) := by first | (rw [hji18] at H; exact H) | (simp only [hji18] at H ⊢; exact H)
        have hji18_ : (a0_0 / 2 ^ min (ji16).toNat 64) = ji18 := hji18
        have hji18z : (ji16) ≤ 64 → (a0_0 / 2 ^ (ji16).toNat) = ji18 := shr_small hji18
        simp only [Option.some.injEq, Prod.mk.injEq] at H
        obtain ⟨rfl, rfl⟩ := H
        go_enter Tryd.func93, Tryd.ntmps93
        go_wp2_with (first | ((with_reducible refine gate_dst (N := 2) rfl ?_); refine box_event ?hg (N := 2) ?hd (cs := #[.int .u64 a0_0, .int .u64 a0_1]) (t := 65) ?hr ?_; (case hd => rfl); (case hg => rfl); (case hr => first | (go_simp; done) | (go_simp; rfl)); intro gb110 hg w19 hbox hb; have n0_ := Aside0.mk (below_step (by repeat (first | (with_reducible first | exact HB.out | apply below_alloc | apply pw_below_drewN | apply below_drew1) | exact HB.out)) hb); have n1_ := Aside0.mk (hbox); have n2_ := Aside0.mk ((by rw [hg]; exact (below_size (by repeat (first | (with_reducible first | exact HB.out | apply below_alloc | apply pw_below_drewN | apply below_drew1) | exact HB.out))) : w.heap.size ≤ gb110)); have n3_ := Aside0.mk ((by rw [hg]; exact (below_size (by repeat (first | (with_reducible first | exact HB.out | apply below_alloc | apply pw_below_drewN | apply below_drew1) | exact HB.out))) : w.heap.size ≤ gb110)); clear HB; have HB := n0_; have BK110 := n1_; have GW110 := n2_; have GE110 := n3_; clear n0_ n1_ n2_ n3_; clear hb hbox hg) | ((with_reducible refine gate_dst (N := 4) rfl ?_); refine box_event ?hg (N := 4) ?hd (cs := #[.int .u64 0, .int .u64 0]) (t := 65) ?hr ?_; (case hd => rfl); (case hg => rfl); (case hr => first | (go_simp; done) | (go_simp; rfl)); intro gb111 hg w20 hbox hb; have n0_ := Aside0.mk (blk_below (g := gb110) (o := .cells #[.int .u64 a0_0, .int .u64 a0_1] 65 (0, 0)) (by exact BK110.out) hb); have n1_ := Aside0.mk (below_step (by repeat (first | (with_reducible first | exact HB.out | apply below_alloc | apply pw_below_drewN | apply below_drew1 | refine below_set ?_ GE110.out) | exact HB.out)) hb); have n2_ := Aside0.mk (hbox); have n3_ := Aside0.mk ((by rw [hg]; exact (below_size (by repeat (first | (with_reducible first | exact HB.out | apply below_alloc | apply pw_below_drewN | apply below_drew1 | refine below_set ?_ GE110.out) | exact HB.out))) : w.heap.size ≤ gb111)); have n4_ := Aside0.mk ((by rw [hg]; exact (below_size (by repeat (first | (with_reducible first | exact HB.out | apply below_alloc | apply pw_below_drewN | apply below_drew1 | refine below_set ?_ GE110.out) | exact HB.out))) : w.heap.size ≤ gb111)); have n5_ := Aside0.mk ((by rw [hg]; exact Nat.ne_of_lt (blk_lt (g := gb110) (o := .cells #[.int .u64 a0_0, .int .u64 a0_1] 65 (0, 0)) (by exact BK110.out)) : gb110 ≠ gb111)); have n6_ := Aside0.mk ((by rw [hg]; exact Nat.ne_of_gt (blk_lt (g := gb110) (o := .cells #[.int .u64 a0_0, .int .u64 a0_1] 65 (0, 0)) (by exact BK110.out)) : gb111 ≠ gb110)); clear BK110; clear HB; have BK110 := n0_; have HB := n1_; have BK111 := n2_; have GW111 := n3_; have GE111 := n4_; have NB110_111 := n5_; have NB111_110 := n6_; clear n0_ n1_ n2_ n3_ n4_ n5_ n6_; clear hb hbox hg; have hnb21 := NB110_111.out; have hnc21 := NB111_110.out; have hcz22_0 : w20.cell? ⟨gb110, 0, none⟩ = some (.int .u64 a0_0) := (blk_cell BK110.out 0).trans rfl; have hcz22_1 : w20.cell? ⟨gb110, 1, none⟩ = some (.int .u64 a0_1) := (blk_cell BK110.out 1).trans rfl; have hfz22_0 := blk_frozen BK110.out 0; have hfz22_1 := blk_frozen BK110.out 1; have hcz23_0 : w20.cell? ⟨gb111, 0, none⟩ = some (.int .u64 0) := (blk_cell BK111.out 0).trans rfl; have hcz23_1 : w20.cell? ⟨gb111, 1, none⟩ = some (.int .u64 0) := (blk_cell BK111.out 1).trans rfl; have hfz23_0 := blk_frozen BK111.out 0; have hfz23_1 := blk_frozen BK111.out 1))
        refine bodyPost_ret (results_cell_row rfl _ _ gb111 65 #[.int .u64 ji13, .int .u64 (Go.bits .or .u64 (ji15) (ji18))] (0, 0) _ rfl (by (with_reducible repeat (first | refine blk_drewN ?_ _ | refine blk_drew ?_ | refine blk_alloc ?_ _)); refine blk_put (cs := #[.int .u64 ji13, .int .u64 0]) ?_ 1 _ rfl; (with_reducible repeat (first | refine blk_drewN ?_ _ | refine blk_drew ?_ | refine blk_alloc ?_ _)); refine blk_put (cs := #[.int .u64 0, .int .u64 0]) ?_ 0 _ rfl; (with_reducible repeat (first | refine blk_drewN ?_ _ | refine blk_drew ?_ | refine blk_alloc ?_ _)); exact BK111.out) Tryd.underlying65 rfl (by kernel_rfl)) rfl ?_
        exact ⟨by first | rfl | (simp [errW_none, errW_some] <;> rfl) | (simp only [← hji13, ← hji15, ← hji16, ← hji18]; first | rfl | (simp [errW_none, errW_some] <;> rfl)) | (simp [*, errW_none, errW_some] <;> rfl), by repeat (first | (with_reducible first | exact HB.out | apply below_alloc | apply pw_below_drewN | apply below_drew1 | refine below_set ?_ GE110.out | refine below_set ?_ GE111.out) | exact HB.out)⟩
      · rw [if_neg c17] at H
        exact absurd H (by simp)
    · rw [if_neg c12] at H
      exact absurd H (by simp)
/-! ### uint128_Uint128_Rsh: function 94 -/
def uint128_Uint128_Rsh.f (a0_0 : Int) (a0_1 : Int) (a1 : Int) : Option (Int × Int) := if a1 > 64 then (if 0 ≤ (IntKind.u64.wrap (a1 - 64)) then (some (shr .u64 a0_1 (IntKind.u64.wrap (a1 - 64)), 0)) else (none)) else (if 0 ≤ a1 then (if 0 ≤ (IntKind.u64.wrap (64 - a1)) then (some (Go.bits .or .u64 (shr .u64 a0_0 a1) (shl .u64 a0_1 (IntKind.u64.wrap (64 - a1))), shr .u64 a0_1 a1)) else (none)) else (none))
set_option maxHeartbeats 8000000 in
set_option maxRecDepth 100000 in
theorem uint128_Uint128_Rsh.calls (a0_0 : Int) (a0_1 : Int) (a1 : Int) (r1 : Int) (r2 : Int) (w : World) (h : uint128_Uint128_Rsh.f a0_0 a0_1 a1 = some (r1, r2)) :
    Calls Tryd.prog 94 #[.agg #[.int .u64 a0_0, .int .u64 a0_1], .int .u64 a1] w fun e w' => e = .returned (.agg #[.int .u64 r1, .int .u64 r2]) ∧ Below w.heap.size w w' := by
  have hu65 := Tryd.underlying65
  have HB := Aside0.mk (Below.refl w.heap.size w)
  have H : (if a1 > 64 then (if 0 ≤ (IntKind.u64.wrap (a1 - 64)) then (some (shr .u64 a0_1 (IntKind.u64.wrap (a1 - 64)), 0)) else (none)) else (if 0 ≤ a1 then (if 0 ≤ (IntKind.u64.wrap (64 - a1)) then (some (Go.bits .or .u64 (shr .u64 a0_0 a1) (shl .u64 a0_1 (IntKind.u64.wrap (64 - a1))), shr .u64 a0_1 a1)) else (none)) else (none))) = some (r1, r2) := h
  clear h
  by_cases c3 : a1 > 64
  · rw [if_pos c3] at H
    have c3b0 : decide (64 < a1) = true := decide_eq_true c3
    clear c3
    obtain ⟨ji4, hji4⟩ : ∃ j_ : Int, (IntKind.u64.wrap (a1 - 64)) = j_ := ⟨_, rfl⟩
    replace H : (if 0 ≤ (ji4) then (some (shr .u64 a0_1 (ji4), 0)) else (none)) = some (r1, r2) := by first | (rw [hji4] at H; exact H) | (simp only [hji4] at H ⊢; exact H)
    by_cases c5 : 0 ≤ (ji4)
    · rw [if_pos c5] at H
      have c5b0 := eq_true c5
      have c5b1 : decide (0 ≤ (ji4)) = true := decide_eq_true c5
      clear c5
      obtain ⟨ji6, hji6⟩ : ∃ j_ : Int, (shr .u64 a0_1 (ji4)) = j_ := ⟨_, rfl⟩
      replace H : (some (ji6, 0)) = some (r1, r2) := by first | (rw [hji6] at H; exact H) | (simp only [hji6] at H ⊢; exact H)
      have hji6_ : (a0_1 / 2 ^ min (ji4).toNat 64) = ji6 := hji6
      have hji6z : (ji4) ≤ 64 → (a0_1 / 2 ^ (ji4).toNat) = ji6 := shr_small hji6
      simp only [Option.some.injEq, Prod.mk.injEq] at H
      obtain ⟨rfl, rfl⟩ := H
      go_enter Tryd.func94, Tryd.ntmps94
      go_wp2_with (first | ((with_reducible refine gate_dst (N := 2) rfl ?_); refine box_event ?hg (N := 2) ?hd (cs := #[.int .u64 a0_0, .int .u64 a0_1]) (t := 65) ?hr ?_; (case hd => rfl); (case hg => rfl); (case hr => first | (go_simp; done) | (go_simp; rfl)); intro gb112 hg w7 hbox hb; have n0_ := Aside0.mk (below_step (by repeat (first | (with_reducible first | exact HB.out | apply below_alloc | apply pw_below_drewN | apply below_drew1) | exact HB.out)) hb); have n1_ := Aside0.mk (hbox); have n2_ := Aside0.mk ((by rw [hg]; exact (below_size (by repeat (first | (with_reducible first | exact HB.out | apply below_alloc | apply pw_below_drewN | apply below_drew1) | exact HB.out))) : w.heap.size ≤ gb112)); have n3_ := Aside0.mk ((by rw [hg]; exact (below_size (by repeat (first | (with_reducible first | exact HB.out | apply below_alloc | apply pw_below_drewN | apply below_drew1) | exact HB.out))) : w.heap.size ≤ gb112)); clear HB; have HB := n0_; have BK112 := n1_; have GW112 := n2_; have GE112 := n3_; clear n0_ n1_ n2_ n3_; clear hb hbox hg) | ((with_reducible refine gate_dst (N := 4) rfl ?_); refine box_event ?hg (N := 4) ?hd (cs := #[.int .u64 0, .int .u64 0]) (t := 65) ?hr ?_; (case hd => rfl); (case hg => rfl); (case hr => first | (go_simp; done) | (go_simp; rfl)); intro gb113 hg w8 hbox hb; have n0_ := Aside0.mk (blk_below (g := gb112) (o := .cells #[.int .u64 a0_0, .int .u64 a0_1] 65 (0, 0)) (by exact BK112.out) hb); have n1_ := Aside0.mk (below_step (by repeat (first | (with_reducible first | exact HB.out | apply below_alloc | apply pw_below_drewN | apply below_drew1 | refine below_set ?_ GE112.out) | exact HB.out)) hb); have n2_ := Aside0.mk (hbox); have n3_ := Aside0.mk ((by rw [hg]; exact (below_size (by repeat (first | (with_reducible first | exact HB.out | apply below_alloc | apply pw_below_drewN | apply below_drew1 | refine below_set ?_ GE112.out) | exact HB.out))) : w.heap.size ≤ gb113)); have n4_ := Aside0.mk ((by rw [hg]; exact (below_size (by repeat (first | (with_reducible first | exact HB.out | apply below_alloc | apply pw_below_drewN | apply below_drew1 | refine below_set ?_ GE112.out) | exact HB.out))) : w.heap.size ≤ gb113)); have n5_ := Aside0.mk ((by rw [hg]; exact Nat.ne_of_lt (blk_lt (g := gb112) (o := .cells #[.int .u64 a0_0, .int .u64 a0_1] 65 (0, 0)) (by exact BK112.out)) : gb112 ≠ gb113)); have n6_ := Aside0.mk ((by rw [hg]; exact Nat.ne_of_gt (blk_lt (g := gb112) (o := .cells #[.int .u64 a0_0, .int .u64 a0_1] 65 (0, 0)) (by exact BK112.out)) : gb113 ≠ gb112)); clear BK112; clear HB; have BK112 := n0_; have HB := n1_; have BK113 := n2_; have GW113 := n3_; have GE113 := n4_; have NB112_113 := n5_; have NB113_112 := n6_; clear n0_ n1_ n2_ n3_ n4_ n5_ n6_; clear hb hbox hg; have hnb9 := NB112_113.out; have hnc9 := NB113_112.out; have hcz10_0 : w8.cell? ⟨gb112, 0, none⟩ = some (.int .u64 a0_0) := (blk_cell BK112.out 0).trans rfl; have hcz10_1 : w8.cell? ⟨gb112, 1, none⟩ = some (.int .u64 a0_1) := (blk_cell BK112.out 1).trans rfl; have hfz10_0 := blk_frozen BK112.out 0; have hfz10_1 := blk_frozen BK112.out 1; have hcz11_0 : w8.cell? ⟨gb113, 0, none⟩ = some (.int .u64 0) := (blk_cell BK113.out 0).trans rfl; have hcz11_1 : w8.cell? ⟨gb113, 1, none⟩ = some (.int .u64 0) := (blk_cell BK113.out 1).trans rfl; have hfz11_0 := blk_frozen BK113.out 0; have hfz11_1 := blk_frozen BK113.out 1))
      refine bodyPost_ret (results_cell_row rfl _ _ gb113 65 #[.int .u64 ji6, .int .u64 0] (0, 0) _ rfl (by (with_reducible repeat (first | refine blk_drewN ?_ _ | refine blk_drew ?_ | refine blk_alloc ?_ _)); refine blk_put (cs := #[.int .u64 ji6, .int .u64 0]) ?_ 1 _ rfl; (with_reducible repeat (first | refine blk_drewN ?_ _ | refine blk_drew ?_ | refine blk_alloc ?_ _)); refine blk_put (cs := #[.int .u64 0, .int .u64 0]) ?_ 0 _ rfl; (with_reducible repeat (first | refine blk_drewN ?_ _ | refine blk_drew ?_ | refine blk_alloc ?_ _)); exact BK113.out) Tryd.underlying65 rfl (by kernel_rfl)) rfl ?_
      exact ⟨by first | rfl | (simp [errW_none, errW_some] <;> rfl) | (simp only [← hji4, ← hji6]; first | rfl | (simp [errW_none, errW_some] <;> rfl)) | (simp [*, errW_none, errW_some] <;> rfl), by repeat (first | (with_reducible first | exact HB.out | apply below_alloc | apply pw_below_drewN | apply below_drew1 | refine below_set ?_ GE112.out | refine below_set ?_ GE113.out) | exact HB.out)⟩
    · rw [if_neg c5] at H
      exact absurd H (by simp)
  · rw [if_neg c3] at H
    have c3b0 : decide (64 < a1) = false := decide_eq_false c3
    clear c3
    by_cases c12 : 0 ≤ a1
    · rw [if_pos c12] at H
      have c12b0 := eq_true c12
      have c12b1 : decide (0 ≤ a1) = true := decide_eq_true c12
      clear c12
      obtain ⟨ji13, hji13⟩ : ∃ j_ : Int, (shr .u64 a0_0 a1) = j_ := ⟨_, rfl⟩
      replace H : (if 0 ≤ (IntKind.u64.wrap (64 - a1)) then (some (Go.bits .or .u64 (ji13) (shl .u64 a0_1 (IntKind.u64.wrap (64 - a1))), shr .u64 a0_1 a1)) else (none)) = some (r1, r2) := by first | (rw [hji13] at H; exact H) | (simp only [hji13] at H ⊢; exact H)
      have hji13_ : (a0_0 / 2 ^ min a1.toNat 64) = ji13 := hji13
      have hji13z : a1 ≤ 64 → (a0_0 / 2 ^ a1.toNat) = ji13 := shr_small hji13
      obtain ⟨ji14, hji14⟩ : ∃ j_ : Int, (IntKind.u64.wrap (64 - a1)) = j_ := ⟨_, rfl⟩
      replace H : (if 0 ≤ (ji14) then (some (Go.bits .or .u64 (ji13) (shl .u64 a0_1 (ji14)), shr .u64 a0_1 a1)) else (none)) = some (r1, r2) := by first | (rw [hji14] at H; exact H) | (simp only [hji14] at H ⊢; exact H)
      by_cases c15 : 0 ≤ (ji14)
      · rw [if_pos c15] at H
        have c15b0 := eq_true c15
        have c15b1 : decide (0 ≤ (ji14)) = true := decide_eq_true c15
        clear c15
        obtain ⟨ji16, hji16⟩ : ∃ j_ : Int, (shl .u64 a0_1 (ji14)) = j_ := ⟨_, rfl⟩
        replace H : (some (Go.bits .or .u64 (ji13) (ji16), shr .u64 a0_1 a1)) = some (r1, r2) := by first | (rw [hji16] at H; exact H) | (simp only [hji16] at H ⊢; exact H)
        have hji16_ : (IntKind.u64.wrap (a0_1 * 2 ^ min (ji14).toNat 64)) = ji16 := hji16
        have hji16z : (ji14) ≤ 64 → (IntKind.u64.wrap (a0_1 * 2 ^ (ji14).toNat)) = ji16 := shl_small hji16
        have c17b0 := eq_true (of_decide_eq_true (by first | (with_reducible assumption) | assumption) : 0 ≤ a1)
        obtain ⟨ji18, hji18⟩ : ∃ j_ : Int, (shr .u64 a0_1 a1) = j_ := ⟨_, rfl⟩
        replace H : (some (Go.bits .or .u64 (ji13) (ji16), ji18)) = some (r1, r2) := by first | (rw [hji18] at H; exact H) | (simp only [hji18] at H ⊢; exact H)
        have hji18_ : (a0_1 / 2 ^ min a1.toNat 64) = ji18 := hji18
        have hji18z : a1 ≤ 64 → (a0_1 / 2 ^ a1.toNat) = ji18 := shr_small hji18
        simp only [Option.some.injEq, Prod.mk.injEq] at H
        obtain ⟨rfl, rfl⟩ := H
        go_enter Tryd.func94, Tryd.ntmps94
        go_wp2_with (first | ((with_reducible refine gate_dst (N := 2) rfl ?_); refine box_event ?hg (N := 2) ?hd (cs := #[.int .u64 a0_0, .int .u64 a0_1]) (t := 65) ?hr ?_; (case hd => rfl); (case hg => rfl); (case hr => first | (go_simp; done) | (go_simp; rfl)); intro gb112 hg w19 hbox hb; have n0_ := Aside0.mk (below_step (by repeat (first | (with_reducible first | exact HB.out | apply below_alloc | apply pw_below_drewN | apply below_drew1) | exact HB.out)) hb); have n1_ := Aside0.mk (hbox); have n2_ := Aside0.mk ((by rw [hg]; exact (below_size (by repeat (first | (with_reducible first | exact HB.out | apply below_alloc | apply pw_below_drewN | apply below_drew1) | exact HB.out))) : w.heap.size ≤ gb112)); have n3_ := Aside0.mk ((by rw [hg]; exact (below_size (by repeat (first | (with_reducible first | exact HB.out | apply below_alloc | apply pw_below_drewN | apply below_drew1) | exact HB.out))) : w.heap.size ≤ gb112)); clear HB; have HB := n0_; have BK112 := n1_; have GW112 := n2_; have GE112 := n3_; clear n0_ n1_ n2_ n3_; clear hb hbox hg) | ((with_reducible refine gate_dst (N := 4) rfl ?_); refine box_event ?hg (N := 4) ?hd (cs := #[.int .u64 0, .int .u64 0]) (t := 65) ?hr ?_; (case hd => rfl); (case hg => rfl); (case hr => first | (go_simp; done) | (go_simp; rfl)); intro gb113 hg w20 hbox hb; have n0_ := Aside0.mk (blk_below (g := gb112) (o := .cells #[.int .u64 a0_0, .int .u64 a0_1] 65 (0, 0)) (by exact BK112.out) hb); have n1_ := Aside0.mk (below_step (by repeat (first | (with_reducible first | exact HB.out | apply below_alloc | apply pw_below_drewN | apply below_drew1 | refine below_set ?_ GE112.out) | exact HB.out)) hb); have n2_ := Aside0.mk (hbox); have n3_ := Aside0.mk ((by rw [hg]; exact (below_size (by repeat (first | (with_reducible first | exact HB.out | apply below_alloc | apply pw_below_drewN | apply below_drew1 | refine below_set ?_ GE112.out) | exact HB.out))) : w.heap.size ≤ gb113)); have n4_ := Aside0.mk ((by rw [hg]; exact (below_size (by repeat (first | (with_reducible first | exact HB.out | apply below_alloc | apply pw_below_drewN | apply below_drew1 | refine below_set ?_ GE112.out) | exact HB.out))) : w.heap.size ≤ gb113)); have n5_ := Aside0.mk ((by rw [hg]; exact Nat.ne_of_lt (blk_lt (g := gb112) (o := .cells #[.int .u64 a0_0, .int .u64 a0_1] 65 (0, 0)) (by exact BK112.out)) : gb112 ≠ gb113)); have n6_ := Aside0.mk ((by rw [hg]; exact Nat.ne_of_gt (blk_lt (g := gb112) (o := .cells #[.int .u64 a0_0, .int .u64 a0_1] 65 (0, 0)) (by exact BK112.out)) : gb113 ≠ gb112)); clear BK112; clear HB; have BK112 := n0_; have HB := n1_; have BK113 := n2_; have GW113 := n3_; have GE113 := n4_; have NB112_113 := n5_; have NB113_112 := n6_; clear n0_ n1_ n2_ n3_ n4_ n5_ n6_; clear hb hbox hg; have hnb21 := NB112_113.out; have hnc21 := NB113_112.out; have hcz22_0 : w20.cell? ⟨gb112, 0, none⟩ = some (.int .u64 a0_0) := (blk_cell BK112.out 0).trans rfl; have hcz22_1 : w20.cell? ⟨gb112, 1, none⟩ = some (.int .u64 a0_1) := (blk_cell BK112.out 1).trans rfl; have hfz22_0 := blk_frozen BK112.out 0; have hfz22_1 := blk_frozen BK112.out 1; have hcz23_0 : w20.cell? ⟨gb113, 0, none⟩ = some (.int .u64 0) := (blk_cell BK113.out 0).trans rfl; have hcz23_1 : w20.cell? ⟨gb113, 1, none⟩ = some (.int .u64 0) := (blk_cell BK113.out 1).trans rfl; have hfz23_0 := blk_frozen BK113.out 0; have hfz23_1 := blk_frozen BK113.out 1))
        refine bodyPost_ret (results_cell_row rfl _ _ gb113 65 #[.int .u64 (Go.bits .or .u64 (ji13) (ji16)), .int .u64 ji18] (0, 0) _ rfl (by (with_reducible repeat (first | refine blk_drewN ?_ _ | refine blk_drew ?_ | refine blk_alloc ?_ _)); refine blk_put (cs := #[.int .u64 (Go.bits .or .u64 (ji13) (ji16)), .int .u64 0]) ?_ 1 _ rfl; (with_reducible repeat (first | refine blk_drewN ?_ _ | refine blk_drew ?_ | refine blk_alloc ?_ _)); refine blk_put (cs := #[.int .u64 0, .int .u64 0]) ?_ 0 _ rfl; (with_reducible repeat (first | refine blk_drewN ?_ _ | refine blk_drew ?_ | refine blk_alloc ?_ _)); exact BK113.out) Tryd.underlying65 rfl (by kernel_rfl)) rfl ?_
        exact ⟨by first | rfl | (simp [errW_none, errW_some] <;> rfl) | (simp only [← hji13, ← hji14, ← hji16, ← hji18]; first | rfl | (simp [errW_none, errW_some] <;> rfl)) | (simp [*, errW_none, errW_some] <;> rfl), by repeat (first | (with_reducible first | exact HB.out | apply below_alloc | apply pw_below_drewN | apply below_drew1 | refine below_set ?_ GE112.out | refine below_set ?_ GE113.out) | exact HB.out)⟩
      · rw [if_neg c15] at H
        exact absurd H (by simp)
    · rw [if_neg c12] at H
      exact absurd H (by simp)
/-! ### uint128_Uint128_RotateLeft: function 95 -/
def uint128_Uint128_RotateLeft.f (a0_0 : Int) (a0_1 : Int) (a1 : Int) : Option (Int × Int) := (uint128_Uint128_Lsh.f a0_0 a0_1 (Go.bits .and .u64 (IntKind.u64.wrap (a1)) 127)).bind fun bt116 => ((uint128_Uint128_Rsh.f a0_0 a0_1 (IntKind.u64.wrap (128 - (Go.bits .and .u64 (IntKind.u64.wrap (a1)) 127)))).bind fun bt118 => ((uint128_Uint128_Or.f bt116.1 bt116.2 bt118.1 bt118.2).bind fun bt120 => (some (bt120.1, bt120.2))))
def uint128_Uint128_RotateLeft.T2 : Bool × List (List Nat × List Nat) := (true, [([], []), ([], []), ([0, 1], [0, 1]), ([], []), ([], []), ([4], [4]), ([3, 5, 2], [3, 5]), ([2, 6, 6], [2, 6]), ([7, 7, 0, 1, 2, 3, 4, 5, 6, 7], [7])])
def uint128_Uint128_RotateLeft.B2 : List Nat := [0, 0, 3, 0, 0, 16, 63, 127, 255]
theorem uint128_Uint128_RotateLeft.tab2 : rtab .any (opsOf Tryd.f95 2) = uint128_Uint128_RotateLeft.T2 := by kernel_rfl
theorem uint128_Uint128_RotateLeft.bits2 : waitsOk uint128_Uint128_RotateLeft.T2.2 uint128_Uint128_RotateLeft.B2 = true := by kernel_rfl
set_option maxHeartbeats 8000000 in
set_option maxRecDepth 100000 in
theorem uint128_Uint128_RotateLeft.calls (a0_0 : Int) (a0_1 : Int) (a1 : Int) (r1 : Int) (r2 : Int) (w : World) (h : uint128_Uint128_RotateLeft.f a0_0 a0_1 a1 = some (r1, r2)) :
    Calls Tryd.prog 95 #[.agg #[.int .u64 a0_0, .int .u64 a0_1], .int .i64 a1] w fun e w' => e = .returned (.agg #[.int .u64 r1, .int .u64 r2]) ∧ Below w.heap.size w w' := by
  have hu65 := Tryd.underlying65
  have HB := Aside0.mk (Below.refl w.heap.size w)
  have H : ((uint128_Uint128_Lsh.f a0_0 a0_1 (Go.bits .and .u64 (IntKind.u64.wrap (a1)) 127)).bind fun bt116 => ((uint128_Uint128_Rsh.f a0_0 a0_1 (IntKind.u64.wrap (128 - (Go.bits .and .u64 (IntKind.u64.wrap (a1)) 127)))).bind fun bt118 => ((uint128_Uint128_Or.f bt116.1 bt116.2 bt118.1 bt118.2).bind fun bt120 => (some (bt120.1, bt120.2))))) = some (r1, r2) := h
  clear h
  replace H := Option.bind_eq_some_iff.mp H
  obtain ⟨⟨t116, t117⟩, A30, H⟩ := H
  replace H : ((uint128_Uint128_Rsh.f a0_0 a0_1 (IntKind.u64.wrap (128 - (Go.bits .and .u64 (IntKind.u64.wrap (a1)) 127)))).bind fun bt118 => ((uint128_Uint128_Or.f t116 t117 bt118.1 bt118.2).bind fun bt120 => (some (bt120.1, bt120.2)))) = some (r1, r2) := H
  have A3 := Aside0.mk A30
  clear A30
  replace H := Option.bind_eq_some_iff.mp H
  obtain ⟨⟨t118, t119⟩, A40, H⟩ := H
  replace H : ((uint128_Uint128_Or.f t116 t117 t118 t119).bind fun bt120 => (some (bt120.1, bt120.2))) = some (r1, r2) := H
  have A4 := Aside0.mk A40
  clear A40
  replace H := Option.bind_eq_some_iff.mp H
  obtain ⟨⟨t120, t121⟩, A50, H⟩ := H
  replace H : (some (t120, t121)) = some (r1, r2) := H
  have A5 := Aside0.mk A50
  clear A50
  simp only [Option.some.injEq, Prod.mk.injEq] at H
  obtain ⟨rfl, rfl⟩ := H
  go_enter Tryd.func95, Tryd.ntmps95
  try go_wp2_with (first | ((with_reducible refine gate_dst (N := 2) rfl ?_); refine box_event ?hg (N := 2) ?hd (cs := #[.int .u64 a0_0, .int .u64 a0_1]) (t := 65) ?hr ?_; (case hd => rfl); (case hg => rfl); (case hr => first | (go_simp; done) | (go_simp; rfl)); intro gb114 hg w6 hbox hb; have n0_ := Aside0.mk (below_step (by repeat (first | (with_reducible first | exact HB.out | apply below_alloc | apply pw_below_drewN | apply below_drew1) | exact HB.out)) hb); have n1_ := Aside0.mk (hbox); have n2_ := Aside0.mk ((by rw [hg]; exact (below_size (by repeat (first | (with_reducible first | exact HB.out | apply below_alloc | apply pw_below_drewN | apply below_drew1) | exact HB.out))) : w.heap.size ≤ gb114)); have n3_ := Aside0.mk ((by rw [hg]; exact (below_size (by repeat (first | (with_reducible first | exact HB.out | apply below_alloc | apply pw_below_drewN | apply below_drew1) | exact HB.out))) : w.heap.size ≤ gb114)); clear HB; have HB := n0_; have BK114 := n1_; have GW114 := n2_; have GE114 := n3_; clear n0_ n1_ n2_ n3_; clear hb hbox hg) | ((with_reducible refine gate_dst (N := 4) rfl ?_); refine box_event ?hg (N := 4) ?hd (cs := #[.int .u64 0, .int .u64 0]) (t := 65) ?hr ?_; (case hd => rfl); (case hg => rfl); (case hr => first | (go_simp; done) | (go_simp; rfl)); intro gb115 hg w7 hbox hb; have n0_ := Aside0.mk (blk_below (g := gb114) (o := .cells #[.int .u64 a0_0, .int .u64 a0_1] 65 (0, 0)) (by exact BK114.out) hb); have n1_ := Aside0.mk (below_step (by repeat (first | (with_reducible first | exact HB.out | apply below_alloc | apply pw_below_drewN | apply below_drew1 | refine below_set ?_ GE114.out) | exact HB.out)) hb); have n2_ := Aside0.mk (hbox); have n3_ := Aside0.mk ((by rw [hg]; exact (below_size (by repeat (first | (with_reducible first | exact HB.out | apply below_alloc | apply pw_below_drewN | apply below_drew1 | refine below_set ?_ GE114.out) | exact HB.out))) : w.heap.size ≤ gb115)); have n4_ := Aside0.mk ((by rw [hg]; exact (below_size (by repeat (first | (with_reducible first | exact HB.out | apply below_alloc | apply pw_below_drewN | apply below_drew1 | refine below_set ?_ GE114.out) | exact HB.out))) : w.heap.size ≤ gb115)); have n5_ := Aside0.mk ((by rw [hg]; exact Nat.ne_of_lt (blk_lt (g := gb114) (o := .cells #[.int .u64 a0_0, .int .u64 a0_1] 65 (0, 0)) (by exact BK114.out)) : gb114 ≠ gb115)); have n6_ := Aside0.mk ((by rw [hg]; exact Nat.ne_of_gt (blk_lt (g := gb114) (o := .cells #[.int .u64 a0_0, .int .u64 a0_1] 65 (0, 0)) (by exact BK114.out)) : gb115 ≠ gb114)); clear BK114; clear HB; have BK114 := n0_; have HB := n1_; have BK115 := n2_; have GW115 := n3_; have GE115 := n4_; have NB114_115 := n5_; have NB115_114 := n6_; clear n0_ n1_ n2_ n3_ n4_ n5_ n6_; clear hb hbox hg))
  have n0_ := Aside0.mk (blk_drew BK114.out)
  have n1_ := Aside0.mk (blk_drew BK115.out)
  have n2_ := Aside0.mk (below_drew1 HB.out)
  clear BK114
  clear BK115
  clear HB
  have BK114 := n0_
  have BK115 := n1_
  have HB := n2_
  clear n0_ n1_ n2_
  refine start_ (n := 9) (S := fun w' => w'.cell? ⟨gb114, 0, none⟩ = some (.int .u64 a0_0) ∧ w'.cell? ⟨gb114, 1, none⟩ = some (.int .u64 a0_1)) (ds := []) #[false, false, false, false, false, false, false, false, false] (by kernel_rfl) rfl rfl ⟨(blk_cell BK114.out 0).trans rfl, (blk_cell BK114.out 1).trans rfl⟩ (fun hHeld => ?_); refine with_tabW uint128_Uint128_RotateLeft.tab2 uint128_Uint128_RotateLeft.bits2 (fun HT_ HW_ => ?_)
  generalize w7.drew = w8 at BK114 BK115 HB hHeld ⊢
  refine pure_ (i := 1) (N := some 10) (v := ?_) (a' := ?_) #[false, true, false, false, false, false, false, false, false] rfl rfl (any_of HT_.out (by kernel_rfl)) (fun _ _ _ h => h) (Or.inl ⟨by rfl, ?_⟩) ?_ ?_
  rotate_left
  · intro w'
    go_simp
    with_reducible rfl
  rotate_left
  · simp only [Act.put, List.setIfInBounds_toArray, List.set_cons_zero, List.set_cons_succ, i64_w, i32_w]
    rfl
  refine pure_ (i := 4) (N := some 13) (v := ?_) (a' := ?_) #[false, true, false, false, true, false, false, false, false] rfl rfl (any_of HT_.out (by kernel_rfl)) (fun _ _ _ h => h) (Or.inl ⟨by rfl, ?_⟩) ?_ ?_
  rotate_left
  · intro w'
    go_simp
    with_reducible rfl
  rotate_left
  · simp only [Act.put, List.setIfInBounds_toArray, List.set_cons_zero, List.set_cons_succ, i64_w, i32_w]
    rfl
  refine pure_ (i := 5) (N := some 14) (v := ?_) (a' := ?_) #[false, true, false, false, true, true, false, false, false] rfl rfl (any_of HT_.out (by kernel_rfl)) (fun _ _ _ h => h) (Or.inl ⟨by rfl, ?_⟩) ?_ ?_
  rotate_left
  · intro w'
    go_simp
    with_reducible rfl
  rotate_left
  · simp only [Act.put, List.setIfInBounds_toArray, List.set_cons_zero, List.set_cons_succ, i64_w, i32_w]
    rfl
  refine take_ (i := 0) (N := some 9) (v := ?_) (a' := ?_) #[true, true, false, false, true, true, false, false, false] rfl rfl (take_ofW HT_.out HW_.out (by kernel_rfl)) (fun _ _ _ h => h) (Or.inl ⟨by rfl, ?_⟩) hHeld ?_ ?_
  rotate_left
  · rintro w' ⟨s0, s1⟩
    go_simp
    with_reducible rfl
  rotate_left
  · simp only [Act.put, List.setIfInBounds_toArray, List.set_cons_zero, List.set_cons_succ, i64_w, i32_w]
    rfl
  refine take_ (i := 3) (N := some 12) (v := ?_) (a' := ?_) #[true, true, false, true, true, true, false, false, false] rfl rfl (take_ofW HT_.out HW_.out (by kernel_rfl)) (fun _ _ _ h => h) (Or.inl ⟨by rfl, ?_⟩) hHeld ?_ ?_
  rotate_left
  · rintro w' ⟨s0, s1⟩
    go_simp
    with_reducible rfl
  rotate_left
  · simp only [Act.put, List.setIfInBounds_toArray, List.set_cons_zero, List.set_cons_succ, i64_w, i32_w]
    rfl
  refine one_ (i := 2) (N := some 11) #[true, true, true, true, true, true, false, false, false] rfl rfl (one_of HT_.out (by kernel_rfl)) (by decide) (fun K hK => ?_)
  refine goes_ Tryd.func93 (by kernel_rfl) rfl #[.agg #[.int .u64 a0_0, .int .u64 a0_1], .int .u64 (Go.bits .and .u64 (IntKind.u64.wrap (a1)) 127)] (by rfl) rfl rfl (by (try simp only [List.map_toArray, List.map_cons, List.map_nil]); first | done | rfl | (simp only [List.length_drop, List.length_take]; rfl)) ?_
  with_reducible refine (uint128_Uint128_Lsh.calls a0_0 a0_1 (Go.bits .and .u64 (IntKind.u64.wrap (a1)) 127) t116 t117 _ A3.out).mono ?_
  rintro e w9 ⟨rfl, hb⟩
  refine ⟨_, rfl, ?_⟩
  have n0_ := Aside0.mk (blk_below (g := gb114) (o := .cells #[.int .u64 a0_0, .int .u64 a0_1] 65 (0, 0)) (by exact BK114.out) hb)
  have n1_ := Aside0.mk (blk_below (g := gb115) (o := .cells #[.int .u64 0, .int .u64 0] 65 (0, 0)) (by exact BK115.out) hb)
  have n2_ := Aside0.mk (below_step (by repeat (first | (with_reducible first | exact HB.out | apply below_alloc | apply pw_below_drewN | apply below_drew1 | refine below_set ?_ GE114.out | refine below_set ?_ GE115.out) | exact HB.out)) hb)
  clear BK114
  clear BK115
  clear HB
  have BK114 := n0_
  have BK115 := n1_
  have HB := n2_
  clear n0_ n1_ n2_
  (try clear hb)
  (try clear hb2)
  (try clear hk)
  (try clear hi)
  refine hK.out _ _ ⟨(blk_cell BK114.out 0).trans rfl, (blk_cell BK114.out 1).trans rfl⟩ (fun hHeld => ?_)
  clear hK K
  refine norm_ (a' := ?_) ?_ ?_
  rotate_left
  · show Act.put _ (some 11) _ = _
    simp only [Act.put, List.setIfInBounds_toArray, List.set_cons_zero, List.set_cons_succ, i64_w, i32_w]
    rfl
  refine one_ (i := 6) (N := some 15) #[true, true, true, true, true, true, true, false, false] rfl rfl (one_of HT_.out (by kernel_rfl)) (by decide) (fun K hK => ?_)
  refine goes_ Tryd.func94 (by kernel_rfl) rfl #[.agg #[.int .u64 a0_0, .int .u64 a0_1], .int .u64 (IntKind.u64.wrap (128 - (Go.bits .and .u64 (IntKind.u64.wrap (a1)) 127)))] (by rfl) rfl rfl (by (try simp only [List.map_toArray, List.map_cons, List.map_nil]); first | done | rfl | (simp only [List.length_drop, List.length_take]; rfl)) ?_
  with_reducible refine (uint128_Uint128_Rsh.calls a0_0 a0_1 (IntKind.u64.wrap (128 - (Go.bits .and .u64 (IntKind.u64.wrap (a1)) 127))) t118 t119 _ A4.out).mono ?_
  rintro e w10 ⟨rfl, hb⟩
  refine ⟨_, rfl, ?_⟩
  have n0_ := Aside0.mk (blk_below (g := gb114) (o := .cells #[.int .u64 a0_0, .int .u64 a0_1] 65 (0, 0)) (by exact BK114.out) hb)
  have n1_ := Aside0.mk (blk_below (g := gb115) (o := .cells #[.int .u64 0, .int .u64 0] 65 (0, 0)) (by exact BK115.out) hb)
  have n2_ := Aside0.mk (below_step (by repeat (first | (with_reducible first | exact HB.out | apply below_alloc | apply pw_below_drewN | apply below_drew1 | refine below_set ?_ GE114.out | refine below_set ?_ GE115.out) | exact HB.out)) hb)
  clear BK114
  clear BK115
  clear HB
  have BK114 := n0_
  have BK115 := n1_
  have HB := n2_
  clear n0_ n1_ n2_
  (try clear hb)
  (try clear hb2)
  (try clear hk)
  (try clear hi)
  refine hK.out _ _ ⟨(blk_cell BK114.out 0).trans rfl, (blk_cell BK114.out 1).trans rfl⟩ (fun hHeld => ?_)
  clear hK K
  refine norm_ (a' := ?_) ?_ ?_
  rotate_left
  · show Act.put _ (some 15) _ = _
    simp only [Act.put, List.setIfInBounds_toArray, List.set_cons_zero, List.set_cons_succ, i64_w, i32_w]
    rfl
  refine one_ (i := 7) (N := some 16) #[true, true, true, true, true, true, true, true, false] rfl rfl (one_of HT_.out (by kernel_rfl)) (by decide) (fun K hK => ?_)
  refine goes_ Tryd.func91 (by kernel_rfl) rfl #[.agg #[.int .u64 t116, .int .u64 t117], .agg #[.int .u64 t118, .int .u64 t119]] (by rfl) rfl rfl (by (try simp only [List.map_toArray, List.map_cons, List.map_nil]); first | done | rfl | (simp only [List.length_drop, List.length_take]; rfl)) ?_
  with_reducible refine (uint128_Uint128_Or.calls t116 t117 t118 t119 t120 t121 _ A5.out).mono ?_
  rintro e w11 ⟨rfl, hb⟩
  refine ⟨_, rfl, ?_⟩
  have n0_ := Aside0.mk (blk_below (g := gb114) (o := .cells #[.int .u64 a0_0, .int .u64 a0_1] 65 (0, 0)) (by exact BK114.out) hb)
  have n1_ := Aside0.mk (blk_below (g := gb115) (o := .cells #[.int .u64 0, .int .u64 0] 65 (0, 0)) (by exact BK115.out) hb)
  have n2_ := Aside0.mk (below_step (by repeat (first | (with_reducible first | exact HB.out | apply below_alloc | apply pw_below_drewN | apply below_drew1 | refine below_set ?_ GE114.out | refine below_set ?_ GE115.out) | exact HB.out)) hb)
  clear BK114
  clear BK115
  clear HB
  have BK114 := n0_
  have BK115 := n1_
  have HB := n2_
  clear n0_ n1_ n2_
  (try clear hb)
  (try clear hb2)
  (try clear hk)
  (try clear hi)
  refine hK.out _ _ ⟨(blk_cell BK114.out 0).trans rfl, (blk_cell BK114.out 1).trans rfl⟩ (fun hHeld => ?_)
  clear hK K
  refine norm_ (a' := ?_) ?_ ?_
  rotate_left
  · show Act.put _ (some 16) _ = _
    simp only [Act.put, List.setIfInBounds_toArray, List.set_cons_zero, List.set_cons_succ, i64_w, i32_w]
    rfl
  refine one_ (i := 8) (N := none) #[true, true, true, true, true, true, true, true, true] rfl rfl (one_of HT_.out (by kernel_rfl)) (by decide) (fun K hK => ?_)
  have hs12 : w11.cell? ⟨gb115, 0, none⟩ = some (.int .u64 0) := (blk_cell BK115.out 0).trans rfl
  have hfs12 := blk_frozen BK115.out 0
  have hns12_0 := NB114_115.out
  have hms12_0 := NB115_114.out
  have hs13 : w11.cell? ⟨gb115, 1, none⟩ = some (.int .u64 0) := (blk_cell BK115.out 1).trans rfl
  have hfs13 := blk_frozen BK115.out 1
  have hns13_0 := NB114_115.out
  have hms13_0 := NB115_114.out
  refine skip_ (w1 := ?_) (by rfl) rfl ?_ ?_
  rotate_left
  · go_simp
    rfl
  refine hK.out _ _ ⟨((cell_far (p := ⟨gb115, _, none⟩) NB114_115.out _).trans (((cell_far (p := ⟨gb115, _, none⟩) NB114_115.out _).trans (hHeld.1)))), ((cell_far (p := ⟨gb115, _, none⟩) NB114_115.out _).trans (((cell_far (p := ⟨gb115, _, none⟩) NB114_115.out _).trans (hHeld.2))))⟩ (fun hHeld => ?_)
  clear hK K
  refine done_ (done_of HT_.out (by kernel_rfl)) ?_
  try go_wp2
  refine bodyPost_ret (results_cell_row rfl _ _ gb115 65 #[.int .u64 t120, .int .u64 t121] (0, 0) _ rfl (by (with_reducible repeat (first | refine blk_drewN ?_ _ | refine blk_drew ?_ | refine blk_alloc ?_ _)); refine blk_put (cs := #[.int .u64 t120, .int .u64 0]) ?_ 1 _ rfl; (with_reducible repeat (first | refine blk_drewN ?_ _ | refine blk_drew ?_ | refine blk_alloc ?_ _)); refine blk_put (cs := #[.int .u64 0, .int .u64 0]) ?_ 0 _ rfl; (with_reducible repeat (first | refine blk_drewN ?_ _ | refine blk_drew ?_ | refine blk_alloc ?_ _)); exact BK115.out) Tryd.underlying65 rfl (by kernel_rfl)) rfl ?_
  exact ⟨by first | rfl | (simp [errW_none, errW_some] <;> rfl) | (simp [*, errW_none, errW_some] <;> rfl), by repeat (first | (with_reducible first | exact HB.out | apply below_alloc | apply pw_below_drewN | apply below_drew1 | refine below_set ?_ GE114.out | refine below_set ?_ GE115.out) | exact HB.out)⟩
/-! ### bits_ReverseBytes64: function 115 -/
def bits_ReverseBytes64.f (a0 : Int) : Option (Int) := some (Go.bits .or .u64 ((Go.bits .or .u64 (Go.bits .and .u64 ((Go.bits .or .u64 (Go.bits .and .u64 (a0 / 256) 71777214294589695) (IntKind.u64.wrap ((Go.bits .and .u64 a0 71777214294589695) * 256))) / 65536) 281470681808895) (IntKind.u64.wrap ((Go.bits .and .u64 (Go.bits .or .u64 (Go.bits .and .u64 (a0 / 256) 71777214294589695) (IntKind.u64.wrap ((Go.bits .and .u64 a0 71777214294589695) * 256))) 281470681808895) * 65536))) / 4294967296) (IntKind.u64.wrap ((Go.bits .or .u64 (Go.bits .and .u64 ((Go.bits .or .u64 (Go.bits .and .u64 (a0 / 256) 71777214294589695) (IntKind.u64.wrap ((Go.bits .and .u64 a0 71777214294589695) * 256))) / 65536) 281470681808895) (IntKind.u64.wrap ((Go.bits .and .u64 (Go.bits .or .u64 (Go.bits .and .u64 (a0 / 256) 71777214294589695) (IntKind.u64.wrap ((Go.bits .and .u64 a0 71777214294589695) * 256))) 281470681808895) * 65536))) * 4294967296)))
set_option maxHeartbeats 8000000 in
set_option maxRecDepth 100000 in
theorem bits_ReverseBytes64.calls (a0 : Int) (r : Int) (w : World) (h : bits_ReverseBytes64.f a0 = some r) :
    Calls Tryd.prog 115 #[.int .u64 a0] w fun e w' => e = .returned (.int .u64 r) ∧ Drawn0 w w' := by
  have H : (some (Go.bits .or .u64 ((Go.bits .or .u64 (Go.bits .and .u64 ((Go.bits .or .u64 (Go.bits .and .u64 (a0 / 256) 71777214294589695) (IntKind.u64.wrap ((Go.bits .and .u64 a0 71777214294589695) * 256))) / 65536) 281470681808895) (IntKind.u64.wrap ((Go.bits .and .u64 (Go.bits .or .u64 (Go.bits .and .u64 (a0 / 256) 71777214294589695) (IntKind.u64.wrap ((Go.bits .and .u64 a0 71777214294589695) * 256))) 281470681808895) * 65536))) / 4294967296) (IntKind.u64.wrap ((Go.bits .or .u64 (Go.bits .and .u64 ((Go.bits .or .u64 (Go.bits .and .u64 (a0 / 256) 71777214294589695) (IntKind.u64.wrap ((Go.bits .and .u64 a0 71777214294589695) * 256))) / 65536) 281470681808895) (IntKind.u64.wrap ((Go.bits .and .u64 (Go.bits .or .u64 (Go.bits .and .u64 (a0 / 256) 71777214294589695) (IntKind.u64.wrap ((Go.bits .and .u64 a0 71777214294589695) * 256))) 281470681808895) * 65536))) * 4294967296)))) = some r := h
  clear h
  obtain rfl := Option.some.inj H
  go_enter Tryd.func115, Tryd.ntmps115
  go_wp2
  go_ret
  exact ⟨by first | rfl | (simp; done) | (simp [*]; done), by repeat (first | exact Drawn0.refl _ | apply Drawn0.step)⟩
/-! ### bits_Reverse64: function 114 -/
def bits_Reverse64.f (a0 : Int) : Option (Int) := (bits_ReverseBytes64.f (Go.bits .or .u64 (Go.bits .and .u64 ((Go.bits .or .u64 (Go.bits .and .u64 ((Go.bits .or .u64 (Go.bits .and .u64 (a0 / 2) 6148914691236517205) (IntKind.u64.wrap ((Go.bits .and .u64 a0 6148914691236517205) * 2))) / 4) 3689348814741910323) (IntKind.u64.wrap ((Go.bits .and .u64 (Go.bits .or .u64 (Go.bits .and .u64 (a0 / 2) 6148914691236517205) (IntKind.u64.wrap ((Go.bits .and .u64 a0 6148914691236517205) * 2))) 3689348814741910323) * 4))) / 16) 1085102592571150095) (IntKind.u64.wrap ((Go.bits .and .u64 (Go.bits .or .u64 (Go.bits .and .u64 ((Go.bits .or .u64 (Go.bits .and .u64 (a0 / 2) 6148914691236517205) (IntKind.u64.wrap ((Go.bits .and .u64 a0 6148914691236517205) * 2))) / 4) 3689348814741910323) (IntKind.u64.wrap ((Go.bits .and .u64 (Go.bits .or .u64 (Go.bits .and .u64 (a0 / 2) 6148914691236517205) (IntKind.u64.wrap ((Go.bits .and .u64 a0 6148914691236517205) * 2))) 3689348814741910323) * 4))) 1085102592571150095) * 16)))).bind fun t122 => (some t122)
set_option maxHeartbeats 8000000 in
set_option maxRecDepth 100000 in
theorem bits_Reverse64.calls (a0 : Int) (r : Int) (w : World) (h : bits_Reverse64.f a0 = some r) :
    Calls Tryd.prog 114 #[.int .u64 a0] w fun e w' => e = .returned (.int .u64 r) ∧ Drawn0 w w' := by
  have H : ((bits_ReverseBytes64.f (Go.bits .or .u64 (Go.bits .and .u64 ((Go.bits .or .u64 (Go.bits .and .u64 ((Go.bits .or .u64 (Go.bits .and .u64 (a0 / 2) 6148914691236517205) (IntKind.u64.wrap ((Go.bits .and .u64 a0 6148914691236517205) * 2))) / 4) 3689348814741910323) (IntKind.u64.wrap ((Go.bits .and .u64 (Go.bits .or .u64 (Go.bits .and .u64 (a0 / 2) 6148914691236517205) (IntKind.u64.wrap ((Go.bits .and .u64 a0 6148914691236517205) * 2))) 3689348814741910323) * 4))) / 16) 1085102592571150095) (IntKind.u64.wrap ((Go.bits .and .u64 (Go.bits .or .u64 (Go.bits .and .u64 ((Go.bits .or .u64 (Go.bits .and .u64 (a0 / 2) 6148914691236517205) (IntKind.u64.wrap ((Go.bits .and .u64 a0 6148914691236517205) * 2))) / 4) 3689348814741910323) (IntKind.u64.wrap ((Go.bits .and .u64 (Go.bits .or .u64 (Go.bits .and .u64 (a0 / 2) 6148914691236517205) (IntKind.u64.wrap ((Go.bits .and .u64 a0 6148914691236517205) * 2))) 3689348814741910323) * 4))) 1085102592571150095) * 16)))).bind fun t122 => (some t122)) = some r := h
  clear h
  replace H := Option.bind_eq_some_iff.mp H
  obtain ⟨t122, A20, H⟩ := H
  replace H : (some t122) = some r := H
  have A2 := Aside0.mk A20
  clear A20
  obtain rfl := Option.some.inj H
  go_enter Tryd.func114, Tryd.ntmps114
  go_wp2_with (first | ((with_reducible refine gate_callee (f := 115) rfl ?_); refine goesL_ (some 25) rfl rfl Tryd.func115 (by kernel_rfl) rfl #[.int .u64 (Go.bits .or .u64 (Go.bits .and .u64 ((Go.bits .or .u64 (Go.bits .and .u64 ((Go.bits .or .u64 (Go.bits .and .u64 (a0 / 2) 6148914691236517205) (IntKind.u64.wrap ((Go.bits .and .u64 a0 6148914691236517205) * 2))) / 4) 3689348814741910323) (IntKind.u64.wrap ((Go.bits .and .u64 (Go.bits .or .u64 (Go.bits .and .u64 (a0 / 2) 6148914691236517205) (IntKind.u64.wrap ((Go.bits .and .u64 a0 6148914691236517205) * 2))) 3689348814741910323) * 4))) / 16) 1085102592571150095) (IntKind.u64.wrap ((Go.bits .and .u64 (Go.bits .or .u64 (Go.bits .and .u64 ((Go.bits .or .u64 (Go.bits .and .u64 (a0 / 2) 6148914691236517205) (IntKind.u64.wrap ((Go.bits .and .u64 a0 6148914691236517205) * 2))) / 4) 3689348814741910323) (IntKind.u64.wrap ((Go.bits .and .u64 (Go.bits .or .u64 (Go.bits .and .u64 (a0 / 2) 6148914691236517205) (IntKind.u64.wrap ((Go.bits .and .u64 a0 6148914691236517205) * 2))) 3689348814741910323) * 4))) 1085102592571150095) * 16)))] rfl (by (try simp only [List.map_toArray, List.map_cons, List.map_nil]); first | done | rfl | (simp only [List.length_drop, List.length_take]; rfl)) ?_; (with_reducible refine (bits_ReverseBytes64.calls (Go.bits .or .u64 (Go.bits .and .u64 ((Go.bits .or .u64 (Go.bits .and .u64 ((Go.bits .or .u64 (Go.bits .and .u64 (a0 / 2) 6148914691236517205) (IntKind.u64.wrap ((Go.bits .and .u64 a0 6148914691236517205) * 2))) / 4) 3689348814741910323) (IntKind.u64.wrap ((Go.bits .and .u64 (Go.bits .or .u64 (Go.bits .and .u64 (a0 / 2) 6148914691236517205) (IntKind.u64.wrap ((Go.bits .and .u64 a0 6148914691236517205) * 2))) 3689348814741910323) * 4))) / 16) 1085102592571150095) (IntKind.u64.wrap ((Go.bits .and .u64 (Go.bits .or .u64 (Go.bits .and .u64 ((Go.bits .or .u64 (Go.bits .and .u64 (a0 / 2) 6148914691236517205) (IntKind.u64.wrap ((Go.bits .and .u64 a0 6148914691236517205) * 2))) / 4) 3689348814741910323) (IntKind.u64.wrap ((Go.bits .and .u64 (Go.bits .or .u64 (Go.bits .and .u64 (a0 / 2) 6148914691236517205) (IntKind.u64.wrap ((Go.bits .and .u64 a0 6148914691236517205) * 2))) 3689348814741910323) * 4))) 1085102592571150095) * 16))) t122 _ A2.out).mono ?_); rintro e w' ⟨rfl, ⟨nd, rfl⟩⟩; refine ⟨_, rfl, ?_⟩))
  go_ret
  exact ⟨by first | rfl | (simp; done) | (simp [*]; done), by repeat (first | exact Drawn0.refl _ | apply Drawn0.step)⟩
end Go.Proofs.YtiifnofghicnaaaDoor.PAll
