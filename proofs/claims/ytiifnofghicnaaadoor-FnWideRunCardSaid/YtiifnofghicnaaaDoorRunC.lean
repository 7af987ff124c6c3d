/- RunC: RunBase, PkLaw, RunWalk, RunLawBase, RunLaw, RunOpen. -/
import Derived.Test.YtiifnofghicnaaaDoorRunB
import Derived.Test.YtiifnofghicnaaaDoorRunA
import Derived.Test.YtiifnofghicnaaaDoorQAllx
import Derived.Deep.SlicePairs
namespace Go.Proofs.YtiifnofghicnaaaDoor.PAll
open Go.RowKit Go.Proofs.YtiifnofghicnaaaDoorW.PrintWords Go.Proofs.YtiifnofghicnaaaDoorW.PrintLast Go.Proofs.YtiifnofghicnaaaDoorW.PrintMore
set_option linter.unusedVariables false
/-- A number's lower and higher word. -/
def wlo (x : Nat) : Int := ((x % 18446744073709551616 : Nat) : Int)
def whi (x : Nat) : Int := ((x / 18446744073709551616 : Nat) : Int)
/-- The registers: n pairs of words in block g. -/
def Xr (g T n : Nat) (rs : Nat → Nat) (W : World) : Prop := ∃ cs, W.heap[g]? = some (.cells cs T (0, 0)) ∧ 2 * n ≤ cs.size ∧ ∀ i, i < n → cs[i * 2]? = some (.int .u64 (wlo (rs i))) ∧ cs[i * 2 + 1]? = some (.int .u64 (whi (rs i)))
theorem Xr.on {g T n : Nat} {rs : Nat → Nat} {W W' : World} (h : Xr g T n rs W) (h' : Below W.heap.size W W') : Xr g T n rs W' := by
  obtain ⟨cs, h1, h2, h3⟩ := h
  exact ⟨cs, rg_on h1 h', h2, h3⟩
theorem Xr.alloc {g T n : Nat} {rs : Nat → Nat} {W : World} (h : Xr g T n rs W) (o : Obj) : Xr g T n rs (W.alloc o) := by
  obtain ⟨cs, h1, h2, h3⟩ := h
  exact ⟨cs, blk_alloc h1 _, h2, h3⟩
theorem Xr.drew {g T n : Nat} {rs : Nat → Nat} {W : World} (h : Xr g T n rs W) : Xr g T n rs W.drew := h
theorem Xr.far {g T n : Nat} {rs : Nat → Nat} {W : World} (h : Xr g T n rs W) {p : Addr} (hp : g ≠ p.block) (u : Value) : Xr g T n rs (W.setCell p u) := by
  obtain ⟨cs, h1, h2, h3⟩ := h
  exact ⟨cs, rg_far h1 hp u, h2, h3⟩
theorem Xr.lt {g T n : Nat} {rs : Nat → Nat} {W : World} (h : Xr g T n rs W) : g < W.heap.size := by
  obtain ⟨cs, h1, _⟩ := h
  exact blk_lt h1
theorem Xr.cell {g T n : Nat} {rs : Nat → Nat} {W : World} (h : Xr g T n rs W) (i : Nat) (hi : i < n) : W.cell? ⟨g, i * 2, none⟩ = some (.int .u64 (wlo (rs i))) ∧ W.cell? ⟨g, i * 2 + 1, none⟩ = some (.int .u64 (whi (rs i))) ∧ W.frozen? ⟨g, i * 2, none⟩ = false ∧ W.frozen? ⟨g, i * 2 + 1, none⟩ = false := by
  obtain ⟨cs, h1, h2, h3⟩ := h
  exact ⟨(blk_cell h1 _).trans (h3 i hi).1, (blk_cell h1 _).trans (h3 i hi).2, blk_frozen h1 _, blk_frozen h1 _⟩
theorem Xr.put {g T n : Nat} {rs : Nat → Nat} {W : World} (h : Xr g T n rs W) (i : Nat) (hi : i < n) (m : Nat) : Xr g T n (upd rs i m) ((W.setCell ⟨g, i * 2, none⟩ (.int .u64 (wlo m))).setCell ⟨g, i * 2 + 1, none⟩ (.int .u64 (whi m))) := by
  obtain ⟨cs, h1, h2, h3⟩ := h
  refine ⟨_, rg_set (rg_set h1 (i * 2) _) (i * 2 + 1) _, by rw [Array.size_setIfInBounds, Array.size_setIfInBounds]; exact h2, fun j hj => ?_⟩
  by_cases e : j = i
  · subst e
    unfold upd
    rw [if_pos rfl]
    refine ⟨?_, ?_⟩
    · rw [Array.getElem?_setIfInBounds_ne (by omega), Array.getElem?_setIfInBounds_self_of_lt (by omega)]
    · rw [Array.getElem?_setIfInBounds_self_of_lt (by rw [Array.size_setIfInBounds]; omega)]
  · unfold upd
    rw [if_neg e]
    refine ⟨?_, ?_⟩
    · rw [Array.getElem?_setIfInBounds_ne (by omega), Array.getElem?_setIfInBounds_ne (by omega)]
      exact (h3 j hj).1
    · rw [Array.getElem?_setIfInBounds_ne (by omega), Array.getElem?_setIfInBounds_ne (by omega)]
      exact (h3 j hj).2
end Go.Proofs.YtiifnofghicnaaaDoor.PAll
namespace Go.Proofs.YtiifnofghicnaaaDoor.PAll
open Go.RowKit Go.Proofs.YtiifnofghicnaaaDoorW.PrintWords Go.Proofs.YtiifnofghicnaaaDoorW.PrintLast Go.Proofs.YtiifnofghicnaaaDoorW.PrintMore
set_option linter.unusedVariables false
/-- A step's answer, cut to 128 bits. -/
def cutN (k x y n : Nat) : Nat := Dig.ofb (fun i => (outN k x y n).testBit i) 128
theorem cutN_lt (k x y n : Nat) : cutN k x y n < 340282366920938463463374607431768211456 := Dig.ofb_lt _ 128
theorem cutN_mod (k x y n : Nat) : cutN k x y n = outN k x y n % 340282366920938463463374607431768211456 := Dig.ofb_testBit _ 128
theorem u64_wlo (x : Nat) : U64 (wlo x) := u64_nat (Nat.mod_lt _ (by decide))
theorem u64_whi {x : Nat} (h : x < 340282366920938463463374607431768211456) : U64 (whi x) := u64_nat (Nat.div_lt_of_lt_mul h)
theorem n128_w (x : Nat) : N128 (wlo x) (whi x) = x := by
  unfold wlo whi
  rw [n128]
  omega
theorem halves_w (m : Nat) : halves m = (wlo (m % 340282366920938463463374607431768211456), whi (m % 340282366920938463463374607431768211456)) := by
  unfold halves wlo whi
  have h1 : m % 340282366920938463463374607431768211456 % 18446744073709551616 = m % 18446744073709551616 := by omega
  have h2 : m % 340282366920938463463374607431768211456 / 18446744073709551616 = m / 18446744073709551616 % 18446744073709551616 := by omega
  rw [h1, h2]
/-- Words told by bits. -/
theorem words_of {u v : Nat} {b : Nat → Bool} (hu : u < 18446744073709551616) (hv : v < 18446744073709551616) (h1 : ∀ i, i < 64 → u.testBit i = b i) (h2 : ∀ i, i < 64 → v.testBit i = b (i + 64)) :
    ((u : Int), (v : Int)) = (wlo (Dig.ofb (fun i => (Dig.ofb b 128).testBit i) 128), whi (Dig.ofb (fun i => (Dig.ofb b 128).testBit i) 128)) := by
  have e : Dig.ofb (fun i => (Dig.ofb b 128).testBit i) 128 = u + v * 18446744073709551616 := by
    refine Dig.ofb_is (by omega) fun i hi => ?_
    rw [Dig.ofb_bit, decide_eq_true hi, Bool.true_and]
    have hw := bit_whole u v i hu
    rw [n128] at hw
    rw [hw]
    by_cases h : i < 64
    · rw [if_pos h, h1 i h]
    · rw [if_neg h, h2 (i - 64) (by omega)]
      congr 1
      omega
  rw [e]
  unfold wlo whi
  congr 2
  · congr 1
    omega
  · omega
theorem outN_bits {k : Nat} {x y n : Nat} {b : Nat → Bool} (h : outN k x y n = Dig.ofb b 128) : cutN k x y n = Dig.ofb (fun i => (Dig.ofb b 128).testBit i) 128 := by
  unfold cutN
  rw [h]
theorem pk_0 (x y n : Nat) (hx : x < 340282366920938463463374607431768211456) (hy : y < 340282366920938463463374607431768211456) : uint128_Uint128_AddWrap.f (wlo x) (whi x) (wlo y) (whi y) = some (wlo (cutN 0 x y n), whi (cutN 0 x y n)) := by
  unfold uint128_Uint128_AddWrap.f
  rw [if_pos ⟨u64_wlo _, u64_whi hx, u64_wlo _, u64_whi hy⟩, n128_w, n128_w, cutN_mod, halves_w]
  rfl
theorem pk_1 (x y n : Nat) (hx : x < 340282366920938463463374607431768211456) (hy : y < 340282366920938463463374607431768211456) : uint128_Uint128_SubWrap.f (wlo x) (whi x) (wlo y) (whi y) = some (wlo (cutN 1 x y n), whi (cutN 1 x y n)) := by
  unfold uint128_Uint128_SubWrap.f
  rw [if_pos ⟨u64_wlo _, u64_whi hx, u64_wlo _, u64_whi hy⟩, n128_w, n128_w, cutN_mod, halves_w]
  rfl
theorem pk_2 (x y n : Nat) (hx : x < 340282366920938463463374607431768211456) (hy : y < 340282366920938463463374607431768211456) : uint128_Uint128_MulWrap.f (wlo x) (whi x) (wlo y) (whi y) = some (wlo (cutN 2 x y n), whi (cutN 2 x y n)) := by
  unfold uint128_Uint128_MulWrap.f
  rw [if_pos ⟨u64_wlo _, u64_whi hx, u64_wlo _, u64_whi hy⟩, n128_w, n128_w, cutN_mod, halves_w]
  rfl
theorem bit_w (x i : Nat) (hi : i < 64) : (x % 18446744073709551616).testBit i = x.testBit i ∧ (x / 18446744073709551616).testBit i = x.testBit (i + 64) := by
  refine ⟨?_, ?_⟩
  · rw [show 18446744073709551616 = 2 ^ 64 from rfl, Nat.testBit_mod_two_pow, decide_eq_true hi, Bool.true_and]
  · rw [show 18446744073709551616 = 2 ^ 64 from rfl, Nat.testBit_div_two_pow]
theorem pk_3 (x y n : Nat) (hx : x < 340282366920938463463374607431768211456) (hy : y < 340282366920938463463374607431768211456) : uint128_Uint128_And.f (wlo x) (whi x) (wlo y) (whi y) = some (wlo (cutN 3 x y n), whi (cutN 3 x y n)) := by
  have hx2 : x / 18446744073709551616 < 18446744073709551616 := Nat.div_lt_of_lt_mul hx
  have hy2 : y / 18446744073709551616 < 18446744073709551616 := Nat.div_lt_of_lt_mul hy
  rw [outN_bits (k := 3) (b := fun i => x.testBit i && y.testBit i) rfl, ← words_of (u := x % 18446744073709551616 &&& y % 18446744073709551616) (v := x / 18446744073709551616 &&& y / 18446744073709551616) (and_lt (Nat.mod_lt _ (by decide))) (and_lt hy2) (fun i hi => ?_) (fun i hi => ?_)]
  · unfold uint128_Uint128_And.f wlo whi
    rw [and_nat _ _ (Nat.mod_lt _ (by decide)) (Nat.mod_lt _ (by decide)), and_nat _ _ hx2 hy2]
  · rw [Nat.testBit_and, (bit_w x i hi).1, (bit_w y i hi).1]
  · rw [Nat.testBit_and, (bit_w x i hi).2, (bit_w y i hi).2]
theorem pk_4 (x y n : Nat) (hx : x < 340282366920938463463374607431768211456) (hy : y < 340282366920938463463374607431768211456) : uint128_Uint128_Or.f (wlo x) (whi x) (wlo y) (whi y) = some (wlo (cutN 4 x y n), whi (cutN 4 x y n)) := by
  have hx2 : x / 18446744073709551616 < 18446744073709551616 := Nat.div_lt_of_lt_mul hx
  have hy2 : y / 18446744073709551616 < 18446744073709551616 := Nat.div_lt_of_lt_mul hy
  rw [outN_bits (k := 4) (b := fun i => x.testBit i || y.testBit i) rfl, ← words_of (u := x % 18446744073709551616 ||| y % 18446744073709551616) (v := x / 18446744073709551616 ||| y / 18446744073709551616) (or_lt (Nat.mod_lt _ (by decide)) (Nat.mod_lt _ (by decide))) (or_lt hx2 hy2) (fun i hi => ?_) (fun i hi => ?_)]
  · unfold uint128_Uint128_Or.f wlo whi
    rw [or_nat _ _ (Nat.mod_lt _ (by decide)) (Nat.mod_lt _ (by decide)), or_nat _ _ hx2 hy2]
  · rw [Nat.testBit_or, (bit_w x i hi).1, (bit_w y i hi).1]
  · rw [Nat.testBit_or, (bit_w x i hi).2, (bit_w y i hi).2]
theorem pk_5 (x y n : Nat) (hx : x < 340282366920938463463374607431768211456) (hy : y < 340282366920938463463374607431768211456) : uint128_Uint128_Xor.f (wlo x) (whi x) (wlo y) (whi y) = some (wlo (cutN 5 x y n), whi (cutN 5 x y n)) := by
  have hx2 : x / 18446744073709551616 < 18446744073709551616 := Nat.div_lt_of_lt_mul hx
  have hy2 : y / 18446744073709551616 < 18446744073709551616 := Nat.div_lt_of_lt_mul hy
  rw [outN_bits (k := 5) (b := fun i => x.testBit i != y.testBit i) rfl, ← words_of (u := x % 18446744073709551616 ^^^ y % 18446744073709551616) (v := x / 18446744073709551616 ^^^ y / 18446744073709551616) (xor_lt (x := x % 18446744073709551616) (y := y % 18446744073709551616) (Nat.mod_lt x (by decide)) (Nat.mod_lt y (by decide))) (xor_lt hx2 hy2) (fun i hi => ?_) (fun i hi => ?_)]
  · unfold uint128_Uint128_Xor.f wlo whi
    rw [xor_nat _ _ (Nat.mod_lt _ (by decide)) (Nat.mod_lt _ (by decide)), xor_nat _ _ hx2 hy2]
  · rw [Nat.testBit_xor, (bit_w x i hi).1, (bit_w y i hi).1]
  · rw [Nat.testBit_xor, (bit_w x i hi).2, (bit_w y i hi).2]
theorem n128_split (x : Nat) : N128 ((x % 18446744073709551616 : Nat) : Int) ((x / 18446744073709551616 : Nat) : Int) = x := n128_w x
theorem pk_6 (x y n : Nat) (hx : x < 340282366920938463463374607431768211456) (hn : n < 256) : uint128_Uint128_Lsh.f (wlo x) (whi x) (n : Int) = some (wlo (cutN 6 x y n), whi (cutN 6 x y n)) := by
  obtain ⟨u, v, h, hu, hv, h1, h2⟩ := lsh_bits (x % 18446744073709551616) (x / 18446744073709551616) n (Nat.mod_lt _ (by decide)) (Nat.div_lt_of_lt_mul hx) (by omega)
  rw [n128_split] at h1 h2
  rw [outN_bits (k := 6) (b := fun i => decide (n < 128) && (decide (n ≤ i) && x.testBit (i - n))) rfl, ← words_of hu hv (fun i hi => ?_) (fun i hi => ?_)]
  · exact h
  · rw [h1 i hi]
    by_cases hm : n < 128
    · rw [decide_eq_true hm, Bool.true_and]
    · rw [decide_eq_false hm, decide_eq_false (by omega)]
      rfl
  · rw [h2 i hi]
    by_cases hm : n < 128
    · rw [decide_eq_true hm, Bool.true_and]
    · rw [decide_eq_false hm, decide_eq_false (by omega)]
      rfl
theorem bit_over (x i : Nat) (hx : x < 340282366920938463463374607431768211456) (hi : 128 ≤ i) : x.testBit i = false := Nat.testBit_lt_two_pow (Nat.lt_of_lt_of_le hx (show 340282366920938463463374607431768211456 ≤ 2 ^ i from Nat.pow_le_pow_right (n := 2) (by decide) hi))
theorem pk_7 (x y n : Nat) (hx : x < 340282366920938463463374607431768211456) (hn : n < 256) : uint128_Uint128_Rsh.f (wlo x) (whi x) (n : Int) = some (wlo (cutN 7 x y n), whi (cutN 7 x y n)) := by
  obtain ⟨u, v, h, hu, hv, h1, h2⟩ := rsh_bits (x % 18446744073709551616) (x / 18446744073709551616) n (Nat.mod_lt _ (by decide)) (Nat.div_lt_of_lt_mul hx) (by omega)
  rw [n128_split] at h1 h2
  rw [outN_bits (k := 7) (b := fun i => decide (n < 128) && (x.testBit (i + n))) rfl, ← words_of hu hv (fun i hi => ?_) (fun i hi => ?_)]
  · exact h
  · rw [h1 i hi]
    by_cases hm : n < 128
    · rw [decide_eq_true hm, Bool.true_and]
    · rw [decide_eq_false hm, bit_over x _ hx (by omega)]
      rfl
  · rw [h2 i hi]
    by_cases hm : n < 128
    · rw [decide_eq_true hm, Bool.true_and]
    · rw [decide_eq_false hm, bit_over x _ hx (by omega)]
      rfl
theorem pk_8 (x y n : Nat) (hx : x < 340282366920938463463374607431768211456) (hn : n < 256) : uint128_Uint128_RotateLeft.f (wlo x) (whi x) (n : Int) = some (wlo (cutN 8 x y n), whi (cutN 8 x y n)) := by
  obtain ⟨u, v, h, hu, hv, h1, h2⟩ := rotl_bits (x % 18446744073709551616) (x / 18446744073709551616) (n % 128) (n : Int) (Nat.mod_lt _ (by decide)) (Nat.div_lt_of_lt_mul hx) (by omega) (Nat.mod_lt _ (by decide))
  rw [n128_split] at h1 h2
  rw [outN_bits (k := 8) (b := fun i => x.testBit ((i + 256 - n) % 128)) rfl, ← words_of hu hv (fun i hi => ?_) (fun i hi => ?_)]
  · exact h
  · rw [h1 i hi]
    congr 1
    omega
  · rw [h2 i hi]
    congr 1
    omega
theorem pk_9 (x y n : Nat) (hx : x < 340282366920938463463374607431768211456) : uint128_Uint128_Reverse.f (wlo x) (whi x) = some (wlo (cutN 9 x y n), whi (cutN 9 x y n)) := by
  rw [outN_bits (k := 9) (b := fun i => x.testBit (127 - i)) rfl, ← words_of (revBits_lt (x / 18446744073709551616)) (revBits_lt (x % 18446744073709551616)) (fun i hi => ?_) (fun i hi => ?_)]
  · unfold uint128_Uint128_Reverse.f wlo whi
    rw [bnd (revBits_law _ (Nat.div_lt_of_lt_mul hx)), bnd (revBits_law _ (Nat.mod_lt _ (by decide)))]
  · rw [revBits_bit _ i hi, (bit_w x _ (by omega)).2]
    congr 1
    omega
  · rw [revBits_bit _ i hi, (bit_w x _ (by omega)).1]
    congr 1
    omega
theorem pk_10 (x y n : Nat) (hx : x < 340282366920938463463374607431768211456) : uint128_Uint128_ReverseBytes.f (wlo x) (whi x) = some (wlo (cutN 10 x y n), whi (cutN 10 x y n)) := by
  rw [outN_bits (k := 10) (b := fun i => x.testBit (8 * (15 - i / 8) + i % 8)) rfl, ← words_of (revBytes_lt (x / 18446744073709551616)) (revBytes_lt (x % 18446744073709551616)) (fun i hi => ?_) (fun i hi => ?_)]
  · unfold uint128_Uint128_ReverseBytes.f wlo whi
    rw [bnd (revBytes_law _ (Nat.div_lt_of_lt_mul hx)), bnd (revBytes_law _ (Nat.mod_lt _ (by decide)))]
  · rw [revBytes_bit _ i hi, (bit_w x _ (by omega)).2]
    congr 1
    omega
  · rw [revBytes_bit _ i hi, (bit_w x _ (by omega)).1]
    congr 1
    omega
theorem pk_zero (y : Nat) : uint128_Uint128_IsZero.f (wlo y) (whi y) = some (decide (y = 0)) := by
  unfold uint128_Uint128_IsZero.f wlo whi
  by_cases h : y = 0
  · subst h
    rfl
  · rw [decide_eq_false h]
    by_cases h1 : y % 18446744073709551616 = 0
    · have h2 : ((y / 18446744073709551616 : Nat) : Int) ≠ 0 := by omega
      simp only [beq_eq_false_iff_ne.2 h2, Bool.and_false]
    · have h2 : ((y % 18446744073709551616 : Nat) : Int) ≠ 0 := by omega
      simp only [beq_eq_false_iff_ne.2 h2, Bool.false_and]
theorem pk_11 (x y : Nat) (hx : x < 340282366920938463463374607431768211456) (hy : y < 340282366920938463463374607431768211456) (h0 : y ≠ 0) : uint128_Uint128_QuoRem.f 20 (wlo x) (whi x) (wlo y) (whi y) = some (wlo (x / y), whi (x / y), wlo (x % y), whi (x % y)) := by
  have h := quorem_law 8 (x % 18446744073709551616) (x / 18446744073709551616) (y % 18446744073709551616) (y / 18446744073709551616) (Nat.mod_lt _ (by decide)) (Nat.div_lt_of_lt_mul hx) (Nat.mod_lt _ (by decide)) (Nat.div_lt_of_lt_mul hy) (by omega)
  rw [show x % 18446744073709551616 + x / 18446744073709551616 * 18446744073709551616 = x by omega, show y % 18446744073709551616 + y / 18446744073709551616 * 18446744073709551616 = y by omega, halves_w, halves_w, Nat.mod_eq_of_lt (Nat.lt_of_le_of_lt (Nat.div_le_self x y) hx), Nat.mod_eq_of_lt (Nat.lt_trans (Nat.mod_lt x (Nat.pos_of_ne_zero h0)) hy)] at h
  exact h
end Go.Proofs.YtiifnofghicnaaaDoor.PAll
namespace Go.Proofs.YtiifnofghicnaaaDoor.PAll
open Go.RowKit Go.Proofs.YtiifnofghicnaaaDoorW.PrintWords Go.Proofs.YtiifnofghicnaaaDoorW.PrintLast Go.Proofs.YtiifnofghicnaaaDoorW.PrintMore
set_option linter.unusedVariables false
set_option linter.unusedSimpArgs false
theorem make_two (t e : TypeId) (ht : Tryd.prog.underlying t = some (.slice e)) (hinfo : (Tryd.prog.info? e).map (fun i => (i.zero, i.size, i.bytes)) = some (some (.agg #[.int .u64 0, .int .u64 0]), 2, 16)) (n : Nat) (hn : n ≤ 1000) :
    ∀ W : World, (Instr.makeSlice t (.int .i64 (n : Int)) (.int .i64 (n : Int))).run Tryd.prog W = .ok (.slice (some ⟨W.heap.size, 0, none⟩) n n) (W.alloc (.cells (madeCells #[.int .u64 0, .int .u64 0] (n * 2)) e)) := by
  intro W
  cases h : Tryd.prog.info? e with
  | none => simp [h] at hinfo
  | some i =>
    simp only [h, Option.map_some, Option.some.injEq, Prod.mk.injEq] at hinfo
    obtain ⟨h1, h2, h3⟩ := hinfo
    have h4 := run_makeSlice (P := Tryd.prog) W t e i _ ht h h1 .i64 .i64 (n : Int) (n : Int) (by omega) (by omega) (by rw [h2]; simp; omega) (by rw [h3]; omega) (by omega)
    rw [h2] at h4
    simpa [Value.cells] using h4
theorem two_lt {j n : Nat} {cs : Array Value} (h : j < n) (hs : cs.size = n * 2) : j * 2 < cs.size ∧ j * 2 + 1 < cs.size := by omega
theorem pair_in (cs : Array Value) (n j : Nat) (v0 v1 : Value) (f g : Nat → Value) (h0 : v0 = f j) (h1 : v1 = g j) (hj : j < n) (hs : cs.size = n * 2) (hcs : ∀ i, i < j → cs[i * 2]? = some (f i) ∧ cs[i * 2 + 1]? = some (g i)) :
    ((cs.setIfInBounds (j * 2) v0).setIfInBounds (j * 2 + 1) v1).size = n * 2 ∧ ∀ i, i < j + 1 → ((cs.setIfInBounds (j * 2) v0).setIfInBounds (j * 2 + 1) v1)[i * 2]? = some (f i) ∧ ((cs.setIfInBounds (j * 2) v0).setIfInBounds (j * 2 + 1) v1)[i * 2 + 1]? = some (g i) := by
  refine ⟨by rw [Array.size_setIfInBounds, Array.size_setIfInBounds]; exact hs, fun i hi => ?_⟩
  by_cases e : i = j
  · subst e
    subst h0 h1
    exact ⟨by rw [Array.getElem?_setIfInBounds_ne (by omega), Array.getElem?_setIfInBounds_self_of_lt (by omega)], by rw [Array.getElem?_setIfInBounds_self_of_lt (by rw [Array.size_setIfInBounds]; omega)]⟩
  · rw [Array.getElem?_setIfInBounds_ne (by omega), Array.getElem?_setIfInBounds_ne (by omega), Array.getElem?_setIfInBounds_ne (by omega), Array.getElem?_setIfInBounds_ne (by omega)]
    exact hcs i (by omega)
theorem w64_u8 {n : Nat} (h : n < 256) : wrap64 (n : Int) = (n : Int) := by unfold wrap64; omega
theorem wu64_u8 {n : Nat} (h : n < 256) : IntKind.u64.wrap (n : Int) = (n : Int) := by rw [IntKind.wrap_u64]; omega
theorem dec_lt {j m : Nat} (h : j < m) : decide ((j : Int) < (m : Int)) = true := decide_eq_true (by omega)
theorem beq_z {n : Nat} (h : 0 < n) : ((n : Int) == 0) = false := beq_eq_false_iff_ne.2 (by omega)
theorem eqf_z {n : Nat} (h : 0 < n) : (n = 0) = False := eq_false (by omega)
theorem less9 (j m : Nat) (h : j < m) (hm : m ≤ 9) : 9 - ((j : Int) + 1).toNat < 9 - ((j : Int)).toNat := by omega
theorem dec_nn (n : Nat) : decide ((n : Int) < (n : Int)) = false := decide_eq_false (by omega)
theorem less60 (j m : Nat) (h : j < m) (hm : m ≤ 60) : 60 - ((j : Int) + 1).toNat < 60 - ((j : Int)).toNat := by omega
theorem tmod_k {z k : Nat} (h : z % 12 = k) : Int.tmod (z : Int) 12 = (k : Int) := by
  rw [show (12 : Int) = ((12 : Nat) : Int) from rfl, tmod_nat, h]
theorem emod_k {z k : Nat} (h : z % 12 = k) : (z : Int) % 12 = (k : Int) := by omega
theorem twelve (z : Nat) : z % 12 = 0 ∨ z % 12 = 1 ∨ z % 12 = 2 ∨ z % 12 = 3 ∨ z % 12 = 4 ∨ z % 12 = 5 ∨ z % 12 = 6 ∨ z % 12 = 7 ∨ z % 12 = 8 ∨ z % 12 = 9 ∨ z % 12 = 10 ∨ z % 12 = 11 := by omega
/-- The registers behind the first j steps. -/
def runN (kd sa sb sn : Nat → Nat) (n : Nat) (rs0 : Nat → Nat) : Nat → (Nat → Nat)
  | 0 => rs0
  | j + 1 => stepN (kd j % 12) (runN kd sa sb sn n rs0 j (sa j % n)) (runN kd sa sb sn n rs0 j (sb j % n)) (sn j) (sa j % n) (sb j % n) (runN kd sa sb sn n rs0 j)
theorem upd_lt {rs : Nat → Nat} {B a m : Nat} (h : ∀ i, rs i < B) (hm : m < B) : ∀ i, upd rs a m i < B := fun i => by
  unfold upd
  split
  · exact hm
  · exact h i
theorem runN_lt (kd sa sb sn : Nat → Nat) (n : Nat) (rs0 : Nat → Nat) (h0 : ∀ i, rs0 i < 340282366920938463463374607431768211456) : ∀ j i, runN kd sa sb sn n rs0 j i < 340282366920938463463374607431768211456 := by
  intro j
  induction j with
  | zero => exact h0
  | succ j ih =>
    refine upd_lt ?_ (cutN_lt _ _ _ _)
    split
    · exact upd_lt ih (Nat.lt_of_le_of_lt (Nat.mod_le _ _) (ih _))
    · exact ih
theorem step_zero (x y n a b : Nat) (rs : Nat → Nat) (hy : y = 0) (hx : rs a = x) (hl : x < 340282366920938463463374607431768211456) : stepN 11 x y n a b rs = rs := by
  subst hy
  have e : cutN 11 x 0 n = x := by
    rw [cutN_mod]
    exact Nat.mod_eq_of_lt hl
  funext i
  show upd rs a (cutN 11 x 0 n) i = rs i
  unfold upd
  rw [e]
  split
  · next h => rw [h, hx]
  · rfl
theorem cut_11 (x y n : Nat) (hy : y ≠ 0) (hl : x < 340282366920938463463374607431768211456) : cutN 11 x y n = x / y := by
  have e : outN 11 x y n = x / y := (show outN 11 x y n = if y = 0 then x else x / y from rfl).trans (if_neg hy)
  rw [cutN_mod, e]
  exact Nat.mod_eq_of_lt (Nat.lt_of_le_of_lt (Nat.div_le_self x y) hl)
theorem step_11 (x y n a b : Nat) (rs : Nat → Nat) (hy : y ≠ 0) (hl : x < 340282366920938463463374607431768211456) : stepN 11 x y n a b rs = upd (upd rs b (x % y)) a (x / y) := by
  show upd (if 11 = 11 ∧ y ≠ 0 then upd rs b (x % y) else rs) a (cutN 11 x y n) = _
  rw [if_pos ⟨rfl, hy⟩, cut_11 x y n hy hl]
theorem step_same (x y n a b : Nat) (rs : Nat → Nat) (hy : y ≠ 0) (hl : x < 340282366920938463463374607431768211456) (h : a = b) : stepN 11 x y n a b rs = upd rs a (x / y) := by
  rw [step_11 x y n a b rs hy hl]
  subst h
  funext i
  unfold upd
  split <;> rfl
theorem step_two (x y n a b : Nat) (rs : Nat → Nat) (hy : y ≠ 0) (hl : x < 340282366920938463463374607431768211456) (h : ¬ a = b) : stepN 11 x y n a b rs = upd (upd rs a (x / y)) b (x % y) := by
  rw [step_11 x y n a b rs hy hl]
  funext i
  unfold upd
  by_cases h1 : i = a
  · subst h1
    rw [if_pos rfl, if_neg h, if_pos rfl]
  · rw [if_neg h1]
    by_cases h2 : i = b
    · rw [if_pos h2, if_pos h2]
    · rw [if_neg h2, if_neg h2, if_neg h1]
set_option maxHeartbeats 4000000 in
set_option maxRecDepth 100000 in
theorem run_walk (n m : Nat) (pb po qb qo : Nat) (A1 : Option Addr) (hA1 : 0 < m → A1 = some ⟨qb, qo, none⟩) (c0 c1 : Nat) (rs0 : Nat → Nat) (kd sa sb sn : Nat → Nat) (hn0 : 0 < n) (hn9 : n ≤ 9) (hm : m ≤ 60) (hrs0 : ∀ i, rs0 i < 340282366920938463463374607431768211456) (hlt4 : ∀ j, j < m → kd j < 256 ∧ sa j < 256 ∧ sb j < 256 ∧ sn j < 256) (w : World)
    (hreg : ∀ W, Below w.heap.size w W → ∀ i, i < n → W.cell? ⟨pb, po + i * 2, none⟩ = some (.int .u64 (wlo (rs0 i))) ∧ W.cell? ⟨pb, po + i * 2 + 1, none⟩ = some (.int .u64 (whi (rs0 i))))
    (hst : ∀ W, Below w.heap.size w W → ∀ i, i < m → W.cell? ⟨qb, qo + i * 4, none⟩ = some (.int .u8 (kd i : Int)) ∧ W.cell? ⟨qb, qo + i * 4 + 1, none⟩ = some (.int .u8 (sa i : Int)) ∧ W.cell? ⟨qb, qo + i * 4 + 2, none⟩ = some (.int .u8 (sb i : Int)) ∧ W.cell? ⟨qb, qo + i * 4 + 3, none⟩ = some (.int .u8 (sn i : Int))) :
    Calls Tryd.prog 39 #[.slice (some ⟨pb, po, none⟩) n c0, .slice A1 m c1] w fun e w' => ∃ g, e = .returned (.slice (some ⟨g, 0, none⟩) n n) ∧ w.heap.size ≤ g ∧ Below w.heap.size w w' ∧ Xr g 24 n (runN kd sa sb sn n rs0 m) w' := by
  have hmk := make_two 93 65 Tryd.underlying93 (by kernel_rfl) n (by omega)
  have hmk2 := make_two 56 24 Tryd.underlying56 (by kernel_rfl) n (by omega)
  go_enter Tryd.func39, Tryd.ntmps39
  go_wp2_with fail
  go_loopw [24] (fun i wr => ∃ j : Nat, j ≤ n ∧ i = .int .i64 (j : Int) ∧ Below w.heap.size w wr ∧ ∃ cs, wr.heap[w.heap.size]? = some (.cells cs 65 (0, 0)) ∧ cs.size = n * 2 ∧ ∀ i, i < j → cs[i * 2]? = some (.int .u64 (wlo (rs0 i))) ∧ cs[i * 2 + 1]? = some (.int .u64 (whi (rs0 i)))) (fun i _ => 9 - (intOf i).toNat)
  case atStart =>
    exact ⟨0, Nat.zero_le _, rfl, (Below.refl _ _).alloc (Nat.le_refl _) _, _, (MapKept.heap_alloc w _).1, size_madeCells _ _, fun i h => absurd h (Nat.not_lt_zero _)⟩
  case round =>
    obtain ⟨j, hj, rfl, BW, cs, hh, hsz, hcs⟩ := hrel
    by_cases hjn : j < n
    · obtain ⟨e0, e1⟩ := hreg wr BW j hjn
      have hlt : decide ((j : Int) < (n : Int)) = true := decide_eq_true (by omega)
      have E1 := Lib.hid (And.intro BW (And.intro hh hcs))
      clear BW hh hcs
      go_wp2_with fail
      refine (impl_Wide_u.calls _ _ _ _ _ rfl).mono ?_
      rintro e w1 ⟨rfl, hb1⟩
      obtain ⟨BW, hh, hcs⟩ := E1.out
      have hh0 := blk_alloc hh (.cells #[.int .u64 (wlo (rs0 j)), .int .u64 (whi (rs0 j))] 24)
      have hh1 := rg_on hh0 hb1
      have BW1 := (BW.alloc BW.size (.cells #[.int .u64 (wlo (rs0 j)), .int .u64 (whi (rs0 j))] 24)).trans (hb1.mono (Nat.le_of_lt (blk_lt hh0)))
      obtain ⟨v0, hv0⟩ : ∃ v, cs[j * 2]? = some v := ⟨_, Array.getElem?_eq_getElem (by omega)⟩
      obtain ⟨v1, hv1⟩ : ∃ v, cs[j * 2 + 1]? = some v := ⟨_, Array.getElem?_eq_getElem (by omega)⟩
      have c0 := (blk_cell hh1 (j * 2)).trans hv0
      have c1 := (blk_cell hh1 (j * 2 + 1)).trans hv1
      have f0 := blk_frozen hh1 (j * 2)
      have f1 := blk_frozen hh1 (j * 2 + 1)
      have k1 := rg_set (rg_set hh1 (j * 2) (.int .u64 (wlo (rs0 j)))) (j * 2 + 1) (.int .u64 (whi (rs0 j)))
      have BW2 := (BW1.setCell (p := ⟨w.heap.size, j * 2, none⟩) (Nat.le_refl _) (.int .u64 (wlo (rs0 j)))).setCell (p := ⟨w.heap.size, j * 2 + 1, none⟩) (Nat.le_refl _) (.int .u64 (whi (rs0 j)))
      clear E1 e0 e1
      have E1 := Lib.hid (And.intro k1 (And.intro BW2 hcs))
      clear hh hh0 hh1 BW BW1 hb1 k1 BW2 hcs hv0 hv1
      go_wp2_with fail
      obtain ⟨k1, BW2, hcs⟩ := E1.out
      refine ⟨⟨j + 1, hjn, rfl, BW2, _, k1, by rw [Array.size_setIfInBounds, Array.size_setIfInBounds]; exact hsz, fun i hi => ?_⟩, by show 9 - ((j : Int) + 1).toNat < 9 - ((j : Int)).toNat; omega⟩
      by_cases e : i = j
      · subst e
        exact ⟨by rw [Array.getElem?_setIfInBounds_ne (by omega), Array.getElem?_setIfInBounds_self_of_lt (by omega)], by rw [Array.getElem?_setIfInBounds_self_of_lt (by rw [Array.size_setIfInBounds]; omega)]⟩
      · rw [Array.getElem?_setIfInBounds_ne (by omega), Array.getElem?_setIfInBounds_ne (by omega), Array.getElem?_setIfInBounds_ne (by omega), Array.getElem?_setIfInBounds_ne (by omega)]
        exact hcs i (by omega)
    · have e : n = j := by omega
      subst e
      have hlt : decide ((n : Int) < (n : Int)) = false := decide_eq_false (by omega)
      have XR : Xr w.heap.size 65 n (runN kd sa sb sn n rs0 0) wr := ⟨cs, hh, by omega, hcs⟩
      clear hh hcs hsz cs hreg
      have E1 := Lib.hid (And.intro BW XR)
      clear BW XR hlt
      go_wp2_with fail
      obtain ⟨BW, XR⟩ := E1.out
      go_loopw [37] (fun i wr => ∃ j : Nat, j ≤ m ∧ i = .int .i64 (j : Int) ∧ Below w.heap.size w wr ∧ Xr w.heap.size 65 n (runN kd sa sb sn n rs0 j) wr) (fun i _ => 60 - (intOf i).toNat)
      case atStart =>
        exact ⟨0, Nat.zero_le _, rfl, BW, XR⟩
      case round =>
        obtain ⟨j, hj, rfl, BW, RR⟩ := hrel
        by_cases hjm : j < m
        · obtain ⟨R1, hR1⟩ : ∃ R, R = runN kd sa sb sn n rs0 (j + 1) := ⟨_, rfl⟩
          have hnext : ∀ W, Xr w.heap.size 65 n R1 W → Xr w.heap.size 65 n (runN kd sa sb sn n rs0 (j + 1)) W := fun _ h => by rw [← hR1]; exact h
          obtain rfl := hA1 (Nat.lt_of_le_of_lt (Nat.zero_le j) hjm)
          obtain ⟨s0, s1, s2, s3⟩ := hst wr BW j hjm
          have hlt2 : decide ((j : Int) < (m : Int)) = true := dec_lt hjm
          have hnz1 := beq_z hn0
          have hnz := eqf_z hn0
          have E1 := Lib.hid (And.intro BW RR)
          clear BW RR
          go_wp2_with fail
          obtain ⟨BW, RR⟩ := E1.out
          clear E1 s0 s1 s2 s3
          have hgp := RR.lt
          replace RR := RR.alloc (.cells #[.int .u8 (kd j : Int), .int .u8 (sa j : Int), .int .u8 (sb j : Int), .int .u8 (sn j : Int)] 60)
          have PS := (MapKept.heap_alloc wr (.cells #[.int .u8 (kd j : Int), .int .u8 (sa j : Int), .int .u8 (sb j : Int), .int .u8 (sn j : Int)] 60)).1
          replace BW := BW.alloc BW.size (.cells #[.int .u8 (kd j : Int), .int .u8 (sa j : Int), .int .u8 (sb j : Int), .int .u8 (sn j : Int)] 60)
          obtain ⟨lkd, lsa, lsb, lsn⟩ := hlt4 j hjm
          have wsa := w64_u8 lsa
          have wsb := w64_u8 lsb
          have wsn := w64_u8 lsn
          have usn := wu64_u8 lsn
          have hbig : ∀ i, runN kd sa sb sn n rs0 j i < 340282366920938463463374607431768211456 := runN_lt kd sa sb sn n rs0 hrs0 j
          have hrn : runN kd sa sb sn n rs0 (j + 1) = stepN (kd j % 12) (runN kd sa sb sn n rs0 j (sa j % n)) (runN kd sa sb sn n rs0 j (sb j % n)) (sn j) (sa j % n) (sb j % n) (runN kd sa sb sn n rs0 j) := rfl
          have hma : sa j % n < n := Nat.mod_lt _ hn0
          have hmb : sb j % n < n := Nat.mod_lt _ hn0
          have hx := hbig (sa j % n)
          have hy := hbig (sb j % n)
          obtain ⟨ex, ey⟩ : (runN kd sa sb sn n rs0 j (sa j % n) = runN kd sa sb sn n rs0 j (sa j % n)) ∧ (runN kd sa sb sn n rs0 j (sb j % n) = runN kd sa sb sn n rs0 j (sb j % n)) := ⟨rfl, rfl⟩
          rw [hrn] at hR1
          clear hbig hrn
          generalize runN kd sa sb sn n rs0 j = rs at *
          have hta : Int.tmod (sa j : Int) (n : Int) = ((sa j % n : Nat) : Int) := tmod_nat _ _
          have htb : Int.tmod (sb j : Int) (n : Int) = ((sb j % n : Nat) : Int) := tmod_nat _ _
          generalize hea : sa j % n = a at *
          generalize heb : sb j % n = b at *
          generalize hex : rs a = x at *
          generalize hey : rs b = y at *
          clear ex ey
          generalize hps : wr.heap.size = ps at PS hgp ⊢
          generalize wr.alloc (.cells #[.int .u8 (kd j : Int), .int .u8 (sa j : Int), .int .u8 (sb j : Int), .int .u8 (sn j : Int)] 60) = V0 at RR PS BW ⊢
          refine start_ (n := 14) (S := fun w' => w'.cell? ⟨ps, 1, none⟩ = some (.int .u8 (sa j : Int)) ∧ w'.cell? ⟨ps, 2, none⟩ = some (.int .u8 (sb j : Int))) (ds := []) #[false, false, false, false, false, false, false, false, false, false, false, false, false, false] (by kernel_rfl) rfl rfl ⟨(blk_cell PS 1).trans rfl, (blk_cell PS 2).trans rfl⟩ (fun hHeld => ?_)
          replace RR := RR.drew
          replace PS : V0.drew.heap[ps]? = _ := PS
          replace BW := BW.drew
          generalize V0.drew = V1 at RR PS BW hHeld ⊢
          refine pure_ (i := 0) (N := some 44) (v := ?_) (a' := ?_) #[true, false, false, false, false, false, false, false, false, false, false, false, false, false] rfl rfl (by kernel_rfl) (fun _ _ _ h => h) (Or.inl ⟨by rfl, ?_⟩) ?_ ?_
          rotate_left
          · intro w'
            go_simp
            with_reducible rfl
          rotate_left
          · simp only [Act.put, List.setIfInBounds_toArray, List.set_cons_zero, List.set_cons_succ, i64_w, i32_w]
            rfl
          refine pure_ (i := 3) (N := some 47) (v := ?_) (a' := ?_) #[true, false, false, true, false, false, false, false, false, false, false, false, false, false] rfl rfl (by kernel_rfl) (fun _ _ _ h => h) (Or.inl ⟨by rfl, ?_⟩) ?_ ?_
          rotate_left
          · intro w'
            go_simp
            with_reducible rfl
          rotate_left
          · simp only [Act.put, List.setIfInBounds_toArray, List.set_cons_zero, List.set_cons_succ, i64_w, i32_w]
            rfl
          refine pure_ (i := 4) (N := some 48) (v := ?_) (a' := ?_) #[true, false, false, true, true, false, false, false, false, false, false, false, false, false] rfl rfl (by kernel_rfl) (fun _ _ _ h => h) (Or.inl ⟨by rfl, ?_⟩) ?_ ?_
          rotate_left
          · intro w'
            go_simp
            with_reducible rfl
          rotate_left
          · simp only [Act.put, List.setIfInBounds_toArray, List.set_cons_zero, List.set_cons_succ, i64_w, i32_w]
            rfl
          refine pure_ (i := 6) (N := some 50) (v := ?_) (a' := ?_) #[true, false, false, true, true, false, true, false, false, false, false, false, false, false] rfl rfl (by kernel_rfl) (fun _ _ _ h => h) (Or.inl ⟨by rfl, ?_⟩) ?_ ?_
          rotate_left
          · intro w'
            go_simp
            with_reducible rfl
          rotate_left
          · simp only [Act.put, List.setIfInBounds_toArray, List.set_cons_zero, List.set_cons_succ, i64_w, i32_w]
            rfl
          refine pure_ (i := 9) (N := some 53) (v := ?_) (a' := ?_) #[true, false, false, true, true, false, true, false, false, true, false, false, false, false] rfl rfl (by kernel_rfl) (fun _ _ _ h => h) (Or.inl ⟨by rfl, ?_⟩) ?_ ?_
          rotate_left
          · intro w'
            go_simp
            with_reducible rfl
          rotate_left
          · simp only [Act.put, List.setIfInBounds_toArray, List.set_cons_zero, List.set_cons_succ, i64_w, i32_w]
            rfl
          refine pure_ (i := 10) (N := some 54) (v := ?_) (a' := ?_) #[true, false, false, true, true, false, true, false, false, true, true, false, false, false] rfl rfl (by kernel_rfl) (fun _ _ _ h => h) (Or.inl ⟨by rfl, ?_⟩) ?_ ?_
          rotate_left
          · intro w'
            go_simp
            with_reducible rfl
          rotate_left
          · simp only [Act.put, List.setIfInBounds_toArray, List.set_cons_zero, List.set_cons_succ, i64_w, i32_w]
            rfl
          refine take_ (i := 1) (N := some 45) (v := ?_) (a' := ?_) #[true, true, false, true, true, false, true, false, false, true, true, false, false, false] rfl rfl (by kernel_rfl) (fun _ _ _ h => h) (Or.inl ⟨by rfl, ?_⟩) hHeld ?_ ?_
          rotate_left
          · rintro w' ⟨s0, s1⟩
            go_simp
            with_reducible rfl
          rotate_left
          · simp only [Act.put, List.setIfInBounds_toArray, List.set_cons_zero, List.set_cons_succ, i64_w, i32_w]
            rfl
          refine pure_ (i := 2) (N := some 46) (v := ?_) (a' := ?_) #[true, true, true, true, true, false, true, false, false, true, true, false, false, false] rfl rfl (by kernel_rfl) (fun _ _ _ h => h) (Or.inl ⟨by rfl, ?_⟩) ?_ ?_
          rotate_left
          · intro w'
            go_simp
            with_reducible rfl
          rotate_left
          · simp only [Act.put, List.setIfInBounds_toArray, List.set_cons_zero, List.set_cons_succ, i64_w, i32_w]
            rfl
          refine pure_ (i := 5) (N := some 49) (v := ?_) (a' := ?_) #[true, true, true, true, true, true, true, false, false, true, true, false, false, false] rfl rfl (by kernel_rfl) (fun _ _ _ h => h) (Or.inl ⟨by rfl, ?_⟩) ?_ ?_
          rotate_left
          · intro w'
            go_simp
            with_reducible rfl
          rotate_left
          · simp only [Act.put, List.setIfInBounds_toArray, List.set_cons_zero, List.set_cons_succ, i64_w, i32_w]
            rfl
          refine pure_ (i := 12) (N := some 10) (v := ?_) (a' := ?_) #[true, true, true, true, true, true, true, false, false, true, true, false, true, false] rfl rfl (by kernel_rfl) (fun _ _ _ h => h) (Or.inl ⟨by rfl, ?_⟩) ?_ ?_
          rotate_left
          · intro w'
            go_simp
            with_reducible rfl
          rotate_left
          · simp only [Act.put, List.setIfInBounds_toArray, List.set_cons_zero, List.set_cons_succ, i64_w, i32_w]
            rfl
          refine take_ (i := 7) (N := some 51) (v := ?_) (a' := ?_) #[true, true, true, true, true, true, true, true, false, true, true, false, true, false] rfl rfl (by kernel_rfl) (fun _ _ _ h => h) (Or.inl ⟨by rfl, ?_⟩) hHeld ?_ ?_
          rotate_left
          · rintro w' ⟨s0, s1⟩
            go_simp
            with_reducible rfl
          rotate_left
          · simp only [Act.put, List.setIfInBounds_toArray, List.set_cons_zero, List.set_cons_succ, i64_w, i32_w]
            rfl
          refine pure_ (i := 8) (N := some 52) (v := ?_) (a' := ?_) #[true, true, true, true, true, true, true, true, true, true, true, false, true, false] rfl rfl (by kernel_rfl) (fun _ _ _ h => h) (Or.inl ⟨by rfl, ?_⟩) ?_ ?_
          rotate_left
          · intro w'
            go_simp
            with_reducible rfl
          rotate_left
          · simp only [Act.put, List.setIfInBounds_toArray, List.set_cons_zero, List.set_cons_succ, i64_w, i32_w]
            rfl
          refine pure_ (i := 11) (N := some 55) (v := ?_) (a' := ?_) #[true, true, true, true, true, true, true, true, true, true, true, true, true, false] rfl rfl (by kernel_rfl) (fun _ _ _ h => h) (Or.inl ⟨by rfl, ?_⟩) ?_ ?_
          rotate_left
          · intro w'
            go_simp
            with_reducible rfl
          rotate_left
          · simp only [Act.put, List.setIfInBounds_toArray, List.set_cons_zero, List.set_cons_succ, i64_w, i32_w]
            rfl
          refine pure_ (i := 13) (N := some 11) (v := ?_) (a' := ?_) #[true, true, true, true, true, true, true, true, true, true, true, true, true, true] rfl rfl (by kernel_rfl) (fun _ _ _ h => h) (Or.inl ⟨by rfl, ?_⟩) ?_ ?_
          rotate_left
          · intro w'
            go_simp
            with_reducible rfl
          rotate_left
          · simp only [Act.put, List.setIfInBounds_toArray, List.set_cons_zero, List.set_cons_succ, i64_w, i32_w]
            rfl
          refine done_ (by kernel_rfl) ?_
          go_wp2_with fail
          obtain ⟨ca0, ca1, _, _⟩ := RR.cell _ hma
          obtain ⟨cb0, cb1, _, _⟩ := RR.cell _ hmb
          rw [hex] at ca0 ca1
          rw [hey] at cb0 cb1
          refine start_ (n := 12) (S := fun w' => w'.cell? ⟨w.heap.size, a * 2, none⟩ = some (.int .u64 (wlo x)) ∧ w'.cell? ⟨w.heap.size, a * 2 + 1, none⟩ = some (.int .u64 (whi x)) ∧ w'.cell? ⟨w.heap.size, b * 2, none⟩ = some (.int .u64 (wlo y)) ∧ w'.cell? ⟨w.heap.size, b * 2 + 1, none⟩ = some (.int .u64 (whi y))) (ds := []) #[false, false, false, false, false, false, false, false, false, false, false, false] (by kernel_rfl) rfl rfl ⟨ca0, ca1, cb0, cb1⟩ (fun hHeld => ?_)
          replace RR := RR.drew
          replace PS : V1.drew.heap[ps]? = _ := PS
          replace BW := BW.drew
          replace ca0 : V1.drew.cell? _ = _ := ca0
          replace ca1 : V1.drew.cell? _ = _ := ca1
          replace cb0 : V1.drew.cell? _ = _ := cb0
          replace cb1 : V1.drew.cell? _ = _ := cb1
          generalize V1.drew = V2 at RR PS BW ca0 ca1 cb0 cb1 hHeld ⊢
          have BW2 := Below.refl V2.heap.size V2
          refine pure_ (i := 0) (N := some 56) (v := ?_) (a' := ?_) #[true, false, false, false, false, false, false, false, false, false, false, false] rfl rfl (by kernel_rfl) (fun _ _ _ h => h) (Or.inl ⟨by rfl, ?_⟩) ?_ ?_
          rotate_left
          · intro w'
            go_simp
            with_reducible rfl
          rotate_left
          · simp only [Act.put, List.setIfInBounds_toArray, List.set_cons_zero, List.set_cons_succ, i64_w, i32_w]
            rfl
          refine pure_ (i := 1) (N := some 57) (v := ?_) (a' := ?_) #[true, true, false, false, false, false, false, false, false, false, false, false] rfl rfl (by kernel_rfl) (fun _ _ _ h => h) (Or.inl ⟨by rfl, ?_⟩) ?_ ?_
          rotate_left
          · intro w'
            go_simp
            with_reducible rfl
          rotate_left
          · simp only [Act.put, List.setIfInBounds_toArray, List.set_cons_zero, List.set_cons_succ, i64_w, i32_w]
            rfl
          refine pure_ (i := 2) (N := some 58) (v := ?_) (a' := ?_) #[true, true, true, false, false, false, false, false, false, false, false, false] rfl rfl (by kernel_rfl) (fun _ _ _ h => h) (Or.inl ⟨by rfl, ?_⟩) ?_ ?_
          rotate_left
          · intro w'
            go_simp
            with_reducible rfl
          rotate_left
          · simp only [Act.put, List.setIfInBounds_toArray, List.set_cons_zero, List.set_cons_succ, i64_w, i32_w]
            rfl
          refine pure_ (i := 4) (N := some 60) (v := ?_) (a' := ?_) #[true, true, true, false, true, false, false, false, false, false, false, false] rfl rfl (by kernel_rfl) (fun _ _ _ h => h) (Or.inl ⟨by rfl, ?_⟩) ?_ ?_
          rotate_left
          · intro w'
            go_simp
            with_reducible rfl
          rotate_left
          · simp only [Act.put, List.setIfInBounds_toArray, List.set_cons_zero, List.set_cons_succ, i64_w, i32_w]
            rfl
          refine pure_ (i := 5) (N := some 61) (v := ?_) (a' := ?_) #[true, true, true, false, true, true, false, false, false, false, false, false] rfl rfl (by kernel_rfl) (fun _ _ _ h => h) (Or.inl ⟨by rfl, ?_⟩) ?_ ?_
          rotate_left
          · intro w'
            go_simp
            with_reducible rfl
          rotate_left
          · simp only [Act.put, List.setIfInBounds_toArray, List.set_cons_zero, List.set_cons_succ, i64_w, i32_w]
            rfl
          refine pure_ (i := 6) (N := some 62) (v := ?_) (a' := ?_) #[true, true, true, false, true, true, true, false, false, false, false, false] rfl rfl (by kernel_rfl) (fun _ _ _ h => h) (Or.inl ⟨by rfl, ?_⟩) ?_ ?_
          rotate_left
          · intro w'
            go_simp
            with_reducible rfl
          rotate_left
          · simp only [Act.put, List.setIfInBounds_toArray, List.set_cons_zero, List.set_cons_succ, i64_w, i32_w]
            rfl
          refine take_ (i := 3) (N := some 59) (v := ?_) (a' := ?_) #[true, true, true, true, true, true, true, false, false, false, false, false] rfl rfl (by kernel_rfl) (fun _ _ _ h => h) (Or.inl ⟨by rfl, ?_⟩) hHeld ?_ ?_
          rotate_left
          · rintro w' ⟨s0, s1, s2, s3⟩
            go_simp
            with_reducible rfl
          rotate_left
          · simp only [Act.put, List.setIfInBounds_toArray, List.set_cons_zero, List.set_cons_succ, i64_w, i32_w]
            rfl
          refine take_ (i := 7) (N := some 63) (v := ?_) (a' := ?_) #[true, true, true, true, true, true, true, true, false, false, false, false] rfl rfl (by kernel_rfl) (fun _ _ _ h => h) (Or.inl ⟨by rfl, ?_⟩) hHeld ?_ ?_
          rotate_left
          · rintro w' ⟨s0, s1, s2, s3⟩
            go_simp
            with_reducible rfl
          rotate_left
          · simp only [Act.put, List.setIfInBounds_toArray, List.set_cons_zero, List.set_cons_succ, i64_w, i32_w]
            rfl
          refine join_ (σ := Nat × Nat) 2 #[true, true, true, true, true, true, true, true, true, true, false, false] (fun s => [(12, .pointer (some ⟨s.1, 0, none⟩)), (13, .pointer (some ⟨s.2, 0, none⟩))]) (fun s w' => Below V2.heap.size V2 w' ∧ V2.heap.size ≤ s.1 ∧ w'.heap[s.1]? = some (.cells #[.int .u64 0, .int .u64 0] 65 (0, 0)) ∧ V2.heap.size ≤ s.2 ∧ w'.heap[s.2]? = some (.cells #[.int .u64 0, .int .u64 0] 65 (0, 0)) ∧ s.1 ≠ s.2) ?_ ?_
          rotate_left
          · intro hJ8_9
            refine join_ (σ := Nat × Nat) 3 #[true, true, true, true, true, true, true, true, true, false, false, false] (fun s => [(12, .pointer (some ⟨s.1, 0, none⟩))]) (fun s w' => Below V2.heap.size V2 w' ∧ V2.heap.size ≤ s.1 ∧ w'.heap[s.1]? = some (.cells #[.int .u64 0, .int .u64 0] 65 (0, 0))) ?_ ?_
            rotate_left
            · intro hJ8
              refine join_ (σ := Nat × Nat) 3 #[true, true, true, true, true, true, true, true, false, true, false, false] (fun s => [(13, .pointer (some ⟨s.2, 0, none⟩))]) (fun s w' => Below V2.heap.size V2 w' ∧ V2.heap.size ≤ s.2 ∧ w'.heap[s.2]? = some (.cells #[.int .u64 0, .int .u64 0] 65 (0, 0))) ?_ ?_
              rotate_left
              · intro hJ9
                refine two_ (i := 8) (j := 9) (Ni := some 12) (Nj := some 13) #[true, true, true, true, true, true, true, true, true, false, false, false] #[true, true, true, true, true, true, true, true, false, true, false, false] rfl rfl rfl rfl (by kernel_rfl) (by decide) (by decide) (fun K hK => ?_) (fun K hK => ?_)
                · skip
                  refine value_ (w1 := ?_) (v := ?_) (by rfl) rfl ?_ ?_
                  rotate_left 2
                  · go_simp
                    constructor
                    · rfl
                    · rfl
                  refine hK.out _ _ ⟨(((BW2.trans (((Below.refl _ _).alloc (Nat.le_refl _) _).mono BW2.size)).cell (World.block_lt_of_cell? V2 _ ca0)).trans ca0), (((BW2.trans (((Below.refl _ _).alloc (Nat.le_refl _) _).mono BW2.size)).cell (World.block_lt_of_cell? V2 _ ca1)).trans ca1), (((BW2.trans (((Below.refl _ _).alloc (Nat.le_refl _) _).mono BW2.size)).cell (World.block_lt_of_cell? V2 _ cb0)).trans cb0), (((BW2.trans (((Below.refl _ _).alloc (Nat.le_refl _) _).mono BW2.size)).cell (World.block_lt_of_cell? V2 _ cb1)).trans cb1)⟩ (fun hHeld => ?_)
                  clear hK K
                  refine norm_ (a' := ?_) ?_ ?_
                  rotate_left
                  · show Act.put _ (some 12) _ = _
                    simp only [Act.put, List.setIfInBounds_toArray, List.set_cons_zero, List.set_cons_succ, i64_w, i32_w]
                    rfl
                  exact norm_ (by first | (simp only [putAll, Act.put, List.setIfInBounds_toArray, List.set_cons_zero, List.set_cons_succ]; done) | (simp only [putAll, Act.put, List.setIfInBounds_toArray, List.set_cons_zero, List.set_cons_succ]; rfl)) (hJ8 ⟨_, 0⟩ _ ⟨(BW2.trans (((Below.refl _ _).alloc (Nat.le_refl _) _).mono BW2.size)), BW2.size, (MapKept.heap_alloc _ _).1⟩)
                · skip
                  refine value_ (w1 := ?_) (v := ?_) (by rfl) rfl ?_ ?_
                  rotate_left 2
                  · go_simp
                    constructor
                    · rfl
                    · rfl
                  refine hK.out _ _ ⟨(((BW2.trans (((Below.refl _ _).alloc (Nat.le_refl _) _).mono BW2.size)).cell (World.block_lt_of_cell? V2 _ ca0)).trans ca0), (((BW2.trans (((Below.refl _ _).alloc (Nat.le_refl _) _).mono BW2.size)).cell (World.block_lt_of_cell? V2 _ ca1)).trans ca1), (((BW2.trans (((Below.refl _ _).alloc (Nat.le_refl _) _).mono BW2.size)).cell (World.block_lt_of_cell? V2 _ cb0)).trans cb0), (((BW2.trans (((Below.refl _ _).alloc (Nat.le_refl _) _).mono BW2.size)).cell (World.block_lt_of_cell? V2 _ cb1)).trans cb1)⟩ (fun hHeld => ?_)
                  clear hK K
                  refine norm_ (a' := ?_) ?_ ?_
                  rotate_left
                  · show Act.put _ (some 13) _ = _
                    simp only [Act.put, List.setIfInBounds_toArray, List.set_cons_zero, List.set_cons_succ, i64_w, i32_w]
                    rfl
                  exact norm_ (by first | (simp only [putAll, Act.put, List.setIfInBounds_toArray, List.set_cons_zero, List.set_cons_succ]; done) | (simp only [putAll, Act.put, List.setIfInBounds_toArray, List.set_cons_zero, List.set_cons_succ]; rfl)) (hJ9 ⟨0, _⟩ _ ⟨(BW2.trans (((Below.refl _ _).alloc (Nat.le_refl _) _).mono BW2.size)), BW2.size, (MapKept.heap_alloc _ _).1⟩)
              · skip
                rintro ⟨px, pn⟩ W ⟨BW2, l8, h8⟩
                replace BW2 : Below V2.heap.size V2 W := BW2
                replace h8 : W.heap[pn]? = some (.cells #[.int .u64 0, .int .u64 0] 65 (0, 0)) := h8
                replace l8 : V2.heap.size ≤ pn := l8
                have hHeld : W.cell? ⟨w.heap.size, a * 2, none⟩ = some (.int .u64 (wlo x)) ∧ W.cell? ⟨w.heap.size, a * 2 + 1, none⟩ = some (.int .u64 (whi x)) ∧ W.cell? ⟨w.heap.size, b * 2, none⟩ = some (.int .u64 (wlo y)) ∧ W.cell? ⟨w.heap.size, b * 2 + 1, none⟩ = some (.int .u64 (whi y)) := ⟨((BW2.cell (World.block_lt_of_cell? V2 _ ca0)).trans ca0), ((BW2.cell (World.block_lt_of_cell? V2 _ ca1)).trans ca1), ((BW2.cell (World.block_lt_of_cell? V2 _ cb0)).trans cb0), ((BW2.cell (World.block_lt_of_cell? V2 _ cb1)).trans cb1)⟩
                refine norm_ (a' := ?_) ?_ ?_
                rotate_left
                · simp only [putAll, Act.put, List.setIfInBounds_toArray, List.set_cons_zero, List.set_cons_succ]
                  rfl
                refine one_ (i := 8) (N := some 12) #[true, true, true, true, true, true, true, true, true, true, false, false] rfl rfl (by kernel_rfl) (by decide) (fun K hK => ?_)
                refine value_ (w1 := ?_) (v := ?_) (by rfl) rfl ?_ ?_
                rotate_left 2
                · go_simp
                  constructor
                  · rfl
                  · rfl
                refine hK.out _ _ ⟨(((BW2.trans (((Below.refl _ _).alloc (Nat.le_refl _) _).mono BW2.size)).cell (World.block_lt_of_cell? V2 _ ca0)).trans ca0), (((BW2.trans (((Below.refl _ _).alloc (Nat.le_refl _) _).mono BW2.size)).cell (World.block_lt_of_cell? V2 _ ca1)).trans ca1), (((BW2.trans (((Below.refl _ _).alloc (Nat.le_refl _) _).mono BW2.size)).cell (World.block_lt_of_cell? V2 _ cb0)).trans cb0), (((BW2.trans (((Below.refl _ _).alloc (Nat.le_refl _) _).mono BW2.size)).cell (World.block_lt_of_cell? V2 _ cb1)).trans cb1)⟩ (fun hHeld => ?_)
                clear hK K
                refine norm_ (a' := ?_) ?_ ?_
                rotate_left
                · show Act.put _ (some 12) _ = _
                  simp only [Act.put, List.setIfInBounds_toArray, List.set_cons_zero, List.set_cons_succ, i64_w, i32_w]
                  rfl
                exact norm_ (by first | (simp only [putAll, Act.put, List.setIfInBounds_toArray, List.set_cons_zero, List.set_cons_succ]; done) | (simp only [putAll, Act.put, List.setIfInBounds_toArray, List.set_cons_zero, List.set_cons_succ]; rfl)) (hJ8_9 ⟨_, pn⟩ _ ⟨(BW2.trans (((Below.refl _ _).alloc (Nat.le_refl _) _).mono BW2.size)), BW2.size, (MapKept.heap_alloc _ _).1, l8, blk_alloc h8 _, (Nat.ne_of_gt (blk_lt h8))⟩)
            · skip
              rintro ⟨px, pn⟩ W ⟨BW2, l6, h6⟩
              replace BW2 : Below V2.heap.size V2 W := BW2
              replace h6 : W.heap[px]? = some (.cells #[.int .u64 0, .int .u64 0] 65 (0, 0)) := h6
              replace l6 : V2.heap.size ≤ px := l6
              have hHeld : W.cell? ⟨w.heap.size, a * 2, none⟩ = some (.int .u64 (wlo x)) ∧ W.cell? ⟨w.heap.size, a * 2 + 1, none⟩ = some (.int .u64 (whi x)) ∧ W.cell? ⟨w.heap.size, b * 2, none⟩ = some (.int .u64 (wlo y)) ∧ W.cell? ⟨w.heap.size, b * 2 + 1, none⟩ = some (.int .u64 (whi y)) := ⟨((BW2.cell (World.block_lt_of_cell? V2 _ ca0)).trans ca0), ((BW2.cell (World.block_lt_of_cell? V2 _ ca1)).trans ca1), ((BW2.cell (World.block_lt_of_cell? V2 _ cb0)).trans cb0), ((BW2.cell (World.block_lt_of_cell? V2 _ cb1)).trans cb1)⟩
              refine norm_ (a' := ?_) ?_ ?_
              rotate_left
              · simp only [putAll, Act.put, List.setIfInBounds_toArray, List.set_cons_zero, List.set_cons_succ]
                rfl
              refine one_ (i := 9) (N := some 13) #[true, true, true, true, true, true, true, true, true, true, false, false] rfl rfl (by kernel_rfl) (by decide) (fun K hK => ?_)
              refine value_ (w1 := ?_) (v := ?_) (by rfl) rfl ?_ ?_
              rotate_left 2
              · go_simp
                constructor
                · rfl
                · rfl
              refine hK.out _ _ ⟨(((BW2.trans (((Below.refl _ _).alloc (Nat.le_refl _) _).mono BW2.size)).cell (World.block_lt_of_cell? V2 _ ca0)).trans ca0), (((BW2.trans (((Below.refl _ _).alloc (Nat.le_refl _) _).mono BW2.size)).cell (World.block_lt_of_cell? V2 _ ca1)).trans ca1), (((BW2.trans (((Below.refl _ _).alloc (Nat.le_refl _) _).mono BW2.size)).cell (World.block_lt_of_cell? V2 _ cb0)).trans cb0), (((BW2.trans (((Below.refl _ _).alloc (Nat.le_refl _) _).mono BW2.size)).cell (World.block_lt_of_cell? V2 _ cb1)).trans cb1)⟩ (fun hHeld => ?_)
              clear hK K
              refine norm_ (a' := ?_) ?_ ?_
              rotate_left
              · show Act.put _ (some 13) _ = _
                simp only [Act.put, List.setIfInBounds_toArray, List.set_cons_zero, List.set_cons_succ, i64_w, i32_w]
                rfl
              exact norm_ (by first | (simp only [putAll, Act.put, List.setIfInBounds_toArray, List.set_cons_zero, List.set_cons_succ]; done) | (simp only [putAll, Act.put, List.setIfInBounds_toArray, List.set_cons_zero, List.set_cons_succ]; rfl)) (hJ8_9 ⟨px, _⟩ _ ⟨(BW2.trans (((Below.refl _ _).alloc (Nat.le_refl _) _).mono BW2.size)), l6, blk_alloc h6 _, BW2.size, (MapKept.heap_alloc _ _).1, (Nat.ne_of_lt (blk_lt h6))⟩)
          rintro ⟨px, pn⟩ W ⟨BW2, l6, h6, l8, h8, nn⟩
          replace BW2 : Below V2.heap.size V2 W := BW2
          replace h6 : W.heap[px]? = some (.cells #[.int .u64 0, .int .u64 0] 65 (0, 0)) := h6
          replace l6 : V2.heap.size ≤ px := l6
          replace h8 : W.heap[pn]? = some (.cells #[.int .u64 0, .int .u64 0] 65 (0, 0)) := h8
          replace l8 : V2.heap.size ≤ pn := l8
          replace nn : px ≠ pn := nn
          have hHeld : W.cell? ⟨w.heap.size, a * 2, none⟩ = some (.int .u64 (wlo x)) ∧ W.cell? ⟨w.heap.size, a * 2 + 1, none⟩ = some (.int .u64 (whi x)) ∧ W.cell? ⟨w.heap.size, b * 2, none⟩ = some (.int .u64 (wlo y)) ∧ W.cell? ⟨w.heap.size, b * 2 + 1, none⟩ = some (.int .u64 (whi y)) := ⟨((BW2.cell (World.block_lt_of_cell? V2 _ ca0)).trans ca0), ((BW2.cell (World.block_lt_of_cell? V2 _ ca1)).trans ca1), ((BW2.cell (World.block_lt_of_cell? V2 _ cb0)).trans cb0), ((BW2.cell (World.block_lt_of_cell? V2 _ cb1)).trans cb1)⟩
          refine norm_ (a' := ?_) ?_ ?_
          rotate_left
          · simp only [putAll, Act.put, List.setIfInBounds_toArray, List.set_cons_zero, List.set_cons_succ]
            rfl
          refine one_ (i := 10) (N := none) #[true, true, true, true, true, true, true, true, true, true, true, false] rfl rfl (by kernel_rfl) (by decide) (fun K hK => ?_)
          have c0 := (blk_cell h6 0).trans (show _ = some (.int .u64 0) from rfl)
          have c1 := (blk_cell h6 1).trans (show _ = some (.int .u64 0) from rfl)
          have f0 := blk_frozen h6 0
          have f1 := blk_frozen h6 1
          refine skip_ (w1 := ?_) (by rfl) rfl ?_ ?_
          rotate_left
          · go_simp
            rfl
          clear c0 c1 f0 f1
          generalize hW : World.setCell _ _ _ = W5
          have k6 : W5.heap[px]? = some (.cells #[.int .u64 (wlo x), .int .u64 (whi x)] 65 (0, 0)) := by
            rw [← hW]
            exact blk_put (blk_set h6 0 _) 1 _ rfl
          have k8 : W5.heap[pn]? = some (.cells #[.int .u64 0, .int .u64 0] 65 (0, 0)) := by
            rw [← hW]
            exact rg_far (rg_far h8 (Ne.symm nn) _) (Ne.symm nn) _
          have BW3 : Below V2.heap.size V2 W5 := by
            rw [← hW]
            exact (BW2.setCell (p := ⟨px, 0, none⟩) l6 _).setCell (p := ⟨px, 1, none⟩) l6 _
          clear hW BW2 h6 h8
          have BW2 := BW3
          have h6 := k6
          have h8 := k8
          clear BW3 k6 k8
          refine hK.out _ _ ⟨((BW2.cell (World.block_lt_of_cell? V2 _ ca0)).trans ca0), ((BW2.cell (World.block_lt_of_cell? V2 _ ca1)).trans ca1), ((BW2.cell (World.block_lt_of_cell? V2 _ cb0)).trans cb0), ((BW2.cell (World.block_lt_of_cell? V2 _ cb1)).trans cb1)⟩ (fun hHeld => ?_)
          clear hK K
          refine one_ (i := 11) (N := none) #[true, true, true, true, true, true, true, true, true, true, true, true] rfl rfl (by kernel_rfl) (by decide) (fun K hK => ?_)
          have c0 := (blk_cell h8 0).trans (show _ = some (.int .u64 0) from rfl)
          have c1 := (blk_cell h8 1).trans (show _ = some (.int .u64 0) from rfl)
          have f0 := blk_frozen h8 0
          have f1 := blk_frozen h8 1
          refine skip_ (w1 := ?_) (by rfl) rfl ?_ ?_
          rotate_left
          · go_simp
            rfl
          clear c0 c1 f0 f1
          generalize hW : World.setCell _ _ _ = W6
          have k6 : W6.heap[px]? = some (.cells #[.int .u64 (wlo x), .int .u64 (whi x)] 65 (0, 0)) := by
            rw [← hW]
            exact rg_far (rg_far h6 nn _) nn _
          have k8 : W6.heap[pn]? = some (.cells #[.int .u64 (wlo y), .int .u64 (whi y)] 65 (0, 0)) := by
            rw [← hW]
            exact blk_put (blk_set h8 0 _) 1 _ rfl
          have BW3 : Below V2.heap.size V2 W6 := by
            rw [← hW]
            exact (BW2.setCell (p := ⟨pn, 0, none⟩) l8 _).setCell (p := ⟨pn, 1, none⟩) l8 _
          clear hW BW2 h6 h8
          have BW2 := BW3
          have h6 := k6
          have h8 := k8
          clear BW3 k6 k8
          refine hK.out _ _ ⟨((BW2.cell (World.block_lt_of_cell? V2 _ ca0)).trans ca0), ((BW2.cell (World.block_lt_of_cell? V2 _ ca1)).trans ca1), ((BW2.cell (World.block_lt_of_cell? V2 _ cb0)).trans cb0), ((BW2.cell (World.block_lt_of_cell? V2 _ cb1)).trans cb1)⟩ (fun hHeld => ?_)
          clear hK K
          refine done_ (by kernel_rfl) ?_
          have hpsV0 : ps < V2.heap.size := blk_lt PS
          have BWa := BW.trans (BW2.mono (Nat.le_trans (Nat.le_of_lt hgp) (Nat.le_of_lt hpsV0)))
          have PSa := rg_on PS BW2
          have RRa := RR.on BW2
          have hpsV : ps < V2.heap.size := blk_lt PS
          clear BW PS RR ca0 ca1 cb0 cb1 hHeld BW2
          obtain hk | hk | hk | hk | hk | hk | hk | hk | hk | hk | hk | hk := twelve (kd j)
          · have hk1 : Int.tmod (kd j : Int) 12 = 0 := tmod_k hk
            have hk2 : (kd j : Int) % 12 = 0 := emod_k hk
            have ck := (blk_cell PSa 0).trans (show _ = some (.int .u8 (kd j : Int)) from rfl)
            have cn := (blk_cell PSa 3).trans (show _ = some (.int .u8 (sn j : Int)) from rfl)
            have cx0 := (blk_cell h6 0).trans (show _ = some (.int .u64 (wlo x)) from rfl)
            have cx1 := (blk_cell h6 1).trans (show _ = some (.int .u64 (whi x)) from rfl)
            have cy0 := (blk_cell h8 0).trans (show _ = some (.int .u64 (wlo y)) from rfl)
            have cy1 := (blk_cell h8 1).trans (show _ = some (.int .u64 (whi y)) from rfl)
            have hnew : stepN (kd j % 12) x y (sn j) a b rs = upd rs a (cutN 0 x y (sn j)) := by
              rw [hk]
              rfl
            rw [hnew] at hR1
            subst hR1
            have E2 := Lib.hid (And.intro RRa (And.intro BWa hnext))
            clear RRa BWa hnext PSa h6 h8
            go_wp2_with fail
            refine (uint128_Uint128_AddWrap.calls _ _ _ _ _ _ _ (pk_0 x y (sn j) hx hy)).mono ?_
            rintro e w8 ⟨rfl, hb8⟩
            obtain ⟨RRa, BWa, hnext⟩ := E2.out
            replace RRa := RRa.on hb8
            replace BWa := BWa.trans (hb8.mono BWa.size)
            obtain ⟨g0, g1, fz0, fz1⟩ := RRa.cell _ hma
            have XR := RRa.put _ hma (cutN 0 x y (sn j))
            have BX := (BWa.setCell (p := ⟨w.heap.size, a * 2, none⟩) (Nat.le_refl _) (.int .u64 (wlo (cutN 0 x y (sn j))))).setCell (p := ⟨w.heap.size, a * 2 + 1, none⟩) (Nat.le_refl _) (.int .u64 (whi (cutN 0 x y (sn j))))
            have E3 := Lib.hid (And.intro (hnext _ XR) BX)
            clear E2 RRa BWa hnext XR BX hb8
            go_wp2_with fail
            obtain ⟨hn1, BX⟩ := E3.out
            exact ⟨⟨j + 1, hjm, rfl, BX, hn1⟩, less60 j m hjm hm⟩
          · have hk1 : Int.tmod (kd j : Int) 12 = 1 := tmod_k hk
            have hk2 : (kd j : Int) % 12 = 1 := emod_k hk
            have ck := (blk_cell PSa 0).trans (show _ = some (.int .u8 (kd j : Int)) from rfl)
            have cn := (blk_cell PSa 3).trans (show _ = some (.int .u8 (sn j : Int)) from rfl)
            have cx0 := (blk_cell h6 0).trans (show _ = some (.int .u64 (wlo x)) from rfl)
            have cx1 := (blk_cell h6 1).trans (show _ = some (.int .u64 (whi x)) from rfl)
            have cy0 := (blk_cell h8 0).trans (show _ = some (.int .u64 (wlo y)) from rfl)
            have cy1 := (blk_cell h8 1).trans (show _ = some (.int .u64 (whi y)) from rfl)
            have hnew : stepN (kd j % 12) x y (sn j) a b rs = upd rs a (cutN 1 x y (sn j)) := by
              rw [hk]
              rfl
            rw [hnew] at hR1
            subst hR1
            have E2 := Lib.hid (And.intro RRa (And.intro BWa hnext))
            clear RRa BWa hnext PSa h6 h8
            go_wp2_with fail
            refine (uint128_Uint128_SubWrap.calls _ _ _ _ _ _ _ (pk_1 x y (sn j) hx hy)).mono ?_
            rintro e w8 ⟨rfl, hb8⟩
            obtain ⟨RRa, BWa, hnext⟩ := E2.out
            replace RRa := RRa.on hb8
            replace BWa := BWa.trans (hb8.mono BWa.size)
            obtain ⟨g0, g1, fz0, fz1⟩ := RRa.cell _ hma
            have XR := RRa.put _ hma (cutN 1 x y (sn j))
            have BX := (BWa.setCell (p := ⟨w.heap.size, a * 2, none⟩) (Nat.le_refl _) (.int .u64 (wlo (cutN 1 x y (sn j))))).setCell (p := ⟨w.heap.size, a * 2 + 1, none⟩) (Nat.le_refl _) (.int .u64 (whi (cutN 1 x y (sn j))))
            have E3 := Lib.hid (And.intro (hnext _ XR) BX)
            clear E2 RRa BWa hnext XR BX hb8
            go_wp2_with fail
            obtain ⟨hn1, BX⟩ := E3.out
            exact ⟨⟨j + 1, hjm, rfl, BX, hn1⟩, less60 j m hjm hm⟩
          · have hk1 : Int.tmod (kd j : Int) 12 = 2 := tmod_k hk
            have hk2 : (kd j : Int) % 12 = 2 := emod_k hk
            have ck := (blk_cell PSa 0).trans (show _ = some (.int .u8 (kd j : Int)) from rfl)
            have cn := (blk_cell PSa 3).trans (show _ = some (.int .u8 (sn j : Int)) from rfl)
            have cx0 := (blk_cell h6 0).trans (show _ = some (.int .u64 (wlo x)) from rfl)
            have cx1 := (blk_cell h6 1).trans (show _ = some (.int .u64 (whi x)) from rfl)
            have cy0 := (blk_cell h8 0).trans (show _ = some (.int .u64 (wlo y)) from rfl)
            have cy1 := (blk_cell h8 1).trans (show _ = some (.int .u64 (whi y)) from rfl)
            have hnew : stepN (kd j % 12) x y (sn j) a b rs = upd rs a (cutN 2 x y (sn j)) := by
              rw [hk]
              rfl
            rw [hnew] at hR1
            subst hR1
            have E2 := Lib.hid (And.intro RRa (And.intro BWa hnext))
            clear RRa BWa hnext PSa h6 h8
            go_wp2_with fail
            refine (uint128_Uint128_MulWrap.calls _ _ _ _ _ _ _ (pk_2 x y (sn j) hx hy)).mono ?_
            rintro e w8 ⟨rfl, hb8⟩
            obtain ⟨RRa, BWa, hnext⟩ := E2.out
            replace RRa := RRa.on hb8
            replace BWa := BWa.trans (hb8.mono BWa.size)
            obtain ⟨g0, g1, fz0, fz1⟩ := RRa.cell _ hma
            have XR := RRa.put _ hma (cutN 2 x y (sn j))
            have BX := (BWa.setCell (p := ⟨w.heap.size, a * 2, none⟩) (Nat.le_refl _) (.int .u64 (wlo (cutN 2 x y (sn j))))).setCell (p := ⟨w.heap.size, a * 2 + 1, none⟩) (Nat.le_refl _) (.int .u64 (whi (cutN 2 x y (sn j))))
            have E3 := Lib.hid (And.intro (hnext _ XR) BX)
            clear E2 RRa BWa hnext XR BX hb8
            go_wp2_with fail
            obtain ⟨hn1, BX⟩ := E3.out
            exact ⟨⟨j + 1, hjm, rfl, BX, hn1⟩, less60 j m hjm hm⟩
          · have hk1 : Int.tmod (kd j : Int) 12 = 3 := tmod_k hk
            have hk2 : (kd j : Int) % 12 = 3 := emod_k hk
            have ck := (blk_cell PSa 0).trans (show _ = some (.int .u8 (kd j : Int)) from rfl)
            have cn := (blk_cell PSa 3).trans (show _ = some (.int .u8 (sn j : Int)) from rfl)
            have cx0 := (blk_cell h6 0).trans (show _ = some (.int .u64 (wlo x)) from rfl)
            have cx1 := (blk_cell h6 1).trans (show _ = some (.int .u64 (whi x)) from rfl)
            have cy0 := (blk_cell h8 0).trans (show _ = some (.int .u64 (wlo y)) from rfl)
            have cy1 := (blk_cell h8 1).trans (show _ = some (.int .u64 (whi y)) from rfl)
            have hnew : stepN (kd j % 12) x y (sn j) a b rs = upd rs a (cutN 3 x y (sn j)) := by
              rw [hk]
              rfl
            rw [hnew] at hR1
            subst hR1
            have E2 := Lib.hid (And.intro RRa (And.intro BWa hnext))
            clear RRa BWa hnext PSa h6 h8
            go_wp2_with fail
            refine (uint128_Uint128_And.calls _ _ _ _ _ _ _ (pk_3 x y (sn j) hx hy)).mono ?_
            rintro e w8 ⟨rfl, hb8⟩
            obtain ⟨RRa, BWa, hnext⟩ := E2.out
            replace RRa := RRa.on hb8
            replace BWa := BWa.trans (hb8.mono BWa.size)
            obtain ⟨g0, g1, fz0, fz1⟩ := RRa.cell _ hma
            have XR := RRa.put _ hma (cutN 3 x y (sn j))
            have BX := (BWa.setCell (p := ⟨w.heap.size, a * 2, none⟩) (Nat.le_refl _) (.int .u64 (wlo (cutN 3 x y (sn j))))).setCell (p := ⟨w.heap.size, a * 2 + 1, none⟩) (Nat.le_refl _) (.int .u64 (whi (cutN 3 x y (sn j))))
            have E3 := Lib.hid (And.intro (hnext _ XR) BX)
            clear E2 RRa BWa hnext XR BX hb8
            go_wp2_with fail
            obtain ⟨hn1, BX⟩ := E3.out
            exact ⟨⟨j + 1, hjm, rfl, BX, hn1⟩, less60 j m hjm hm⟩
          · have hk1 : Int.tmod (kd j : Int) 12 = 4 := tmod_k hk
            have hk2 : (kd j : Int) % 12 = 4 := emod_k hk
            have ck := (blk_cell PSa 0).trans (show _ = some (.int .u8 (kd j : Int)) from rfl)
            have cn := (blk_cell PSa 3).trans (show _ = some (.int .u8 (sn j : Int)) from rfl)
            have cx0 := (blk_cell h6 0).trans (show _ = some (.int .u64 (wlo x)) from rfl)
            have cx1 := (blk_cell h6 1).trans (show _ = some (.int .u64 (whi x)) from rfl)
            have cy0 := (blk_cell h8 0).trans (show _ = some (.int .u64 (wlo y)) from rfl)
            have cy1 := (blk_cell h8 1).trans (show _ = some (.int .u64 (whi y)) from rfl)
            have hnew : stepN (kd j % 12) x y (sn j) a b rs = upd rs a (cutN 4 x y (sn j)) := by
              rw [hk]
              rfl
            rw [hnew] at hR1
            subst hR1
            have E2 := Lib.hid (And.intro RRa (And.intro BWa hnext))
            clear RRa BWa hnext PSa h6 h8
            go_wp2_with fail
            refine (uint128_Uint128_Or.calls _ _ _ _ _ _ _ (pk_4 x y (sn j) hx hy)).mono ?_
            rintro e w8 ⟨rfl, hb8⟩
            obtain ⟨RRa, BWa, hnext⟩ := E2.out
            replace RRa := RRa.on hb8
            replace BWa := BWa.trans (hb8.mono BWa.size)
            obtain ⟨g0, g1, fz0, fz1⟩ := RRa.cell _ hma
            have XR := RRa.put _ hma (cutN 4 x y (sn j))
            have BX := (BWa.setCell (p := ⟨w.heap.size, a * 2, none⟩) (Nat.le_refl _) (.int .u64 (wlo (cutN 4 x y (sn j))))).setCell (p := ⟨w.heap.size, a * 2 + 1, none⟩) (Nat.le_refl _) (.int .u64 (whi (cutN 4 x y (sn j))))
            have E3 := Lib.hid (And.intro (hnext _ XR) BX)
            clear E2 RRa BWa hnext XR BX hb8
            go_wp2_with fail
            obtain ⟨hn1, BX⟩ := E3.out
            exact ⟨⟨j + 1, hjm, rfl, BX, hn1⟩, less60 j m hjm hm⟩
          · have hk1 : Int.tmod (kd j : Int) 12 = 5 := tmod_k hk
            have hk2 : (kd j : Int) % 12 = 5 := emod_k hk
            have ck := (blk_cell PSa 0).trans (show _ = some (.int .u8 (kd j : Int)) from rfl)
            have cn := (blk_cell PSa 3).trans (show _ = some (.int .u8 (sn j : Int)) from rfl)
            have cx0 := (blk_cell h6 0).trans (show _ = some (.int .u64 (wlo x)) from rfl)
            have cx1 := (blk_cell h6 1).trans (show _ = some (.int .u64 (whi x)) from rfl)
            have cy0 := (blk_cell h8 0).trans (show _ = some (.int .u64 (wlo y)) from rfl)
            have cy1 := (blk_cell h8 1).trans (show _ = some (.int .u64 (whi y)) from rfl)
            have hnew : stepN (kd j % 12) x y (sn j) a b rs = upd rs a (cutN 5 x y (sn j)) := by
              rw [hk]
              rfl
            rw [hnew] at hR1
            subst hR1
            have E2 := Lib.hid (And.intro RRa (And.intro BWa hnext))
            clear RRa BWa hnext PSa h6 h8
            go_wp2_with fail
            refine (uint128_Uint128_Xor.calls _ _ _ _ _ _ _ (pk_5 x y (sn j) hx hy)).mono ?_
            rintro e w8 ⟨rfl, hb8⟩
            obtain ⟨RRa, BWa, hnext⟩ := E2.out
            replace RRa := RRa.on hb8
            replace BWa := BWa.trans (hb8.mono BWa.size)
            obtain ⟨g0, g1, fz0, fz1⟩ := RRa.cell _ hma
            have XR := RRa.put _ hma (cutN 5 x y (sn j))
            have BX := (BWa.setCell (p := ⟨w.heap.size, a * 2, none⟩) (Nat.le_refl _) (.int .u64 (wlo (cutN 5 x y (sn j))))).setCell (p := ⟨w.heap.size, a * 2 + 1, none⟩) (Nat.le_refl _) (.int .u64 (whi (cutN 5 x y (sn j))))
            have E3 := Lib.hid (And.intro (hnext _ XR) BX)
            clear E2 RRa BWa hnext XR BX hb8
            go_wp2_with fail
            obtain ⟨hn1, BX⟩ := E3.out
            exact ⟨⟨j + 1, hjm, rfl, BX, hn1⟩, less60 j m hjm hm⟩
          · have hk1 : Int.tmod (kd j : Int) 12 = 6 := tmod_k hk
            have hk2 : (kd j : Int) % 12 = 6 := emod_k hk
            have ck := (blk_cell PSa 0).trans (show _ = some (.int .u8 (kd j : Int)) from rfl)
            have cn := (blk_cell PSa 3).trans (show _ = some (.int .u8 (sn j : Int)) from rfl)
            have cx0 := (blk_cell h6 0).trans (show _ = some (.int .u64 (wlo x)) from rfl)
            have cx1 := (blk_cell h6 1).trans (show _ = some (.int .u64 (whi x)) from rfl)
            have cy0 := (blk_cell h8 0).trans (show _ = some (.int .u64 (wlo y)) from rfl)
            have cy1 := (blk_cell h8 1).trans (show _ = some (.int .u64 (whi y)) from rfl)
            have hnew : stepN (kd j % 12) x y (sn j) a b rs = upd rs a (cutN 6 x y (sn j)) := by
              rw [hk]
              rfl
            rw [hnew] at hR1
            subst hR1
            have E2 := Lib.hid (And.intro RRa (And.intro BWa hnext))
            clear RRa BWa hnext PSa h6 h8
            go_wp2_with fail
            refine (uint128_Uint128_Lsh.calls _ _ _ _ _ _ (pk_6 x y (sn j) hx lsn)).mono ?_
            rintro e w8 ⟨rfl, hb8⟩
            obtain ⟨RRa, BWa, hnext⟩ := E2.out
            replace RRa := RRa.on hb8
            replace BWa := BWa.trans (hb8.mono BWa.size)
            obtain ⟨g0, g1, fz0, fz1⟩ := RRa.cell _ hma
            have XR := RRa.put _ hma (cutN 6 x y (sn j))
            have BX := (BWa.setCell (p := ⟨w.heap.size, a * 2, none⟩) (Nat.le_refl _) (.int .u64 (wlo (cutN 6 x y (sn j))))).setCell (p := ⟨w.heap.size, a * 2 + 1, none⟩) (Nat.le_refl _) (.int .u64 (whi (cutN 6 x y (sn j))))
            have E3 := Lib.hid (And.intro (hnext _ XR) BX)
            clear E2 RRa BWa hnext XR BX hb8
            go_wp2_with fail
            obtain ⟨hn1, BX⟩ := E3.out
            exact ⟨⟨j + 1, hjm, rfl, BX, hn1⟩, less60 j m hjm hm⟩
          · have hk1 : Int.tmod (kd j : Int) 12 = 7 := tmod_k hk
            have hk2 : (kd j : Int) % 12 = 7 := emod_k hk
            have ck := (blk_cell PSa 0).trans (show _ = some (.int .u8 (kd j : Int)) from rfl)
            have cn := (blk_cell PSa 3).trans (show _ = some (.int .u8 (sn j : Int)) from rfl)
            have cx0 := (blk_cell h6 0).trans (show _ = some (.int .u64 (wlo x)) from rfl)
            have cx1 := (blk_cell h6 1).trans (show _ = some (.int .u64 (whi x)) from rfl)
            have cy0 := (blk_cell h8 0).trans (show _ = some (.int .u64 (wlo y)) from rfl)
            have cy1 := (blk_cell h8 1).trans (show _ = some (.int .u64 (whi y)) from rfl)
            have hnew : stepN (kd j % 12) x y (sn j) a b rs = upd rs a (cutN 7 x y (sn j)) := by
              rw [hk]
              rfl
            rw [hnew] at hR1
            subst hR1
            have E2 := Lib.hid (And.intro RRa (And.intro BWa hnext))
            clear RRa BWa hnext PSa h6 h8
            go_wp2_with fail
            refine (uint128_Uint128_Rsh.calls _ _ _ _ _ _ (pk_7 x y (sn j) hx lsn)).mono ?_
            rintro e w8 ⟨rfl, hb8⟩
            obtain ⟨RRa, BWa, hnext⟩ := E2.out
            replace RRa := RRa.on hb8
            replace BWa := BWa.trans (hb8.mono BWa.size)
            obtain ⟨g0, g1, fz0, fz1⟩ := RRa.cell _ hma
            have XR := RRa.put _ hma (cutN 7 x y (sn j))
            have BX := (BWa.setCell (p := ⟨w.heap.size, a * 2, none⟩) (Nat.le_refl _) (.int .u64 (wlo (cutN 7 x y (sn j))))).setCell (p := ⟨w.heap.size, a * 2 + 1, none⟩) (Nat.le_refl _) (.int .u64 (whi (cutN 7 x y (sn j))))
            have E3 := Lib.hid (And.intro (hnext _ XR) BX)
            clear E2 RRa BWa hnext XR BX hb8
            go_wp2_with fail
            obtain ⟨hn1, BX⟩ := E3.out
            exact ⟨⟨j + 1, hjm, rfl, BX, hn1⟩, less60 j m hjm hm⟩
          · have hk1 : Int.tmod (kd j : Int) 12 = 8 := tmod_k hk
            have hk2 : (kd j : Int) % 12 = 8 := emod_k hk
            have ck := (blk_cell PSa 0).trans (show _ = some (.int .u8 (kd j : Int)) from rfl)
            have cn := (blk_cell PSa 3).trans (show _ = some (.int .u8 (sn j : Int)) from rfl)
            have cx0 := (blk_cell h6 0).trans (show _ = some (.int .u64 (wlo x)) from rfl)
            have cx1 := (blk_cell h6 1).trans (show _ = some (.int .u64 (whi x)) from rfl)
            have cy0 := (blk_cell h8 0).trans (show _ = some (.int .u64 (wlo y)) from rfl)
            have cy1 := (blk_cell h8 1).trans (show _ = some (.int .u64 (whi y)) from rfl)
            have hnew : stepN (kd j % 12) x y (sn j) a b rs = upd rs a (cutN 8 x y (sn j)) := by
              rw [hk]
              rfl
            rw [hnew] at hR1
            subst hR1
            have E2 := Lib.hid (And.intro RRa (And.intro BWa hnext))
            clear RRa BWa hnext PSa h6 h8
            go_wp2_with fail
            refine (uint128_Uint128_RotateLeft.calls _ _ _ _ _ _ (pk_8 x y (sn j) hx lsn)).mono ?_
            rintro e w8 ⟨rfl, hb8⟩
            obtain ⟨RRa, BWa, hnext⟩ := E2.out
            replace RRa := RRa.on hb8
            replace BWa := BWa.trans (hb8.mono BWa.size)
            obtain ⟨g0, g1, fz0, fz1⟩ := RRa.cell _ hma
            have XR := RRa.put _ hma (cutN 8 x y (sn j))
            have BX := (BWa.setCell (p := ⟨w.heap.size, a * 2, none⟩) (Nat.le_refl _) (.int .u64 (wlo (cutN 8 x y (sn j))))).setCell (p := ⟨w.heap.size, a * 2 + 1, none⟩) (Nat.le_refl _) (.int .u64 (whi (cutN 8 x y (sn j))))
            have E3 := Lib.hid (And.intro (hnext _ XR) BX)
            clear E2 RRa BWa hnext XR BX hb8
            go_wp2_with fail
            obtain ⟨hn1, BX⟩ := E3.out
            exact ⟨⟨j + 1, hjm, rfl, BX, hn1⟩, less60 j m hjm hm⟩
          · have hk1 : Int.tmod (kd j : Int) 12 = 9 := tmod_k hk
            have hk2 : (kd j : Int) % 12 = 9 := emod_k hk
            have ck := (blk_cell PSa 0).trans (show _ = some (.int .u8 (kd j : Int)) from rfl)
            have cn := (blk_cell PSa 3).trans (show _ = some (.int .u8 (sn j : Int)) from rfl)
            have cx0 := (blk_cell h6 0).trans (show _ = some (.int .u64 (wlo x)) from rfl)
            have cx1 := (blk_cell h6 1).trans (show _ = some (.int .u64 (whi x)) from rfl)
            have cy0 := (blk_cell h8 0).trans (show _ = some (.int .u64 (wlo y)) from rfl)
            have cy1 := (blk_cell h8 1).trans (show _ = some (.int .u64 (whi y)) from rfl)
            have hnew : stepN (kd j % 12) x y (sn j) a b rs = upd rs a (cutN 9 x y (sn j)) := by
              rw [hk]
              rfl
            rw [hnew] at hR1
            subst hR1
            have E2 := Lib.hid (And.intro RRa (And.intro BWa hnext))
            clear RRa BWa hnext PSa h6 h8
            go_wp2_with fail
            refine (uint128_Uint128_Reverse.calls _ _ _ _ _ (pk_9 x y (sn j) hx)).mono ?_
            rintro e w8 ⟨rfl, hb8⟩
            obtain ⟨RRa, BWa, hnext⟩ := E2.out
            replace RRa := RRa.on hb8
            replace BWa := BWa.trans (hb8.mono BWa.size)
            obtain ⟨g0, g1, fz0, fz1⟩ := RRa.cell _ hma
            have XR := RRa.put _ hma (cutN 9 x y (sn j))
            have BX := (BWa.setCell (p := ⟨w.heap.size, a * 2, none⟩) (Nat.le_refl _) (.int .u64 (wlo (cutN 9 x y (sn j))))).setCell (p := ⟨w.heap.size, a * 2 + 1, none⟩) (Nat.le_refl _) (.int .u64 (whi (cutN 9 x y (sn j))))
            have E3 := Lib.hid (And.intro (hnext _ XR) BX)
            clear E2 RRa BWa hnext XR BX hb8
            go_wp2_with fail
            obtain ⟨hn1, BX⟩ := E3.out
            exact ⟨⟨j + 1, hjm, rfl, BX, hn1⟩, less60 j m hjm hm⟩
          · have hk1 : Int.tmod (kd j : Int) 12 = 10 := tmod_k hk
            have hk2 : (kd j : Int) % 12 = 10 := emod_k hk
            have ck := (blk_cell PSa 0).trans (show _ = some (.int .u8 (kd j : Int)) from rfl)
            have cn := (blk_cell PSa 3).trans (show _ = some (.int .u8 (sn j : Int)) from rfl)
            have cx0 := (blk_cell h6 0).trans (show _ = some (.int .u64 (wlo x)) from rfl)
            have cx1 := (blk_cell h6 1).trans (show _ = some (.int .u64 (whi x)) from rfl)
            have cy0 := (blk_cell h8 0).trans (show _ = some (.int .u64 (wlo y)) from rfl)
            have cy1 := (blk_cell h8 1).trans (show _ = some (.int .u64 (whi y)) from rfl)
            have hnew : stepN (kd j % 12) x y (sn j) a b rs = upd rs a (cutN 10 x y (sn j)) := by
              rw [hk]
              rfl
            rw [hnew] at hR1
            subst hR1
            have E2 := Lib.hid (And.intro RRa (And.intro BWa hnext))
            clear RRa BWa hnext PSa h6 h8
            go_wp2_with fail
            refine (uint128_Uint128_ReverseBytes.calls _ _ _ _ _ (pk_10 x y (sn j) hx)).mono ?_
            rintro e w8 ⟨rfl, hb8⟩
            obtain ⟨RRa, BWa, hnext⟩ := E2.out
            replace RRa := RRa.on hb8
            replace BWa := BWa.trans (hb8.mono BWa.size)
            obtain ⟨g0, g1, fz0, fz1⟩ := RRa.cell _ hma
            have XR := RRa.put _ hma (cutN 10 x y (sn j))
            have BX := (BWa.setCell (p := ⟨w.heap.size, a * 2, none⟩) (Nat.le_refl _) (.int .u64 (wlo (cutN 10 x y (sn j))))).setCell (p := ⟨w.heap.size, a * 2 + 1, none⟩) (Nat.le_refl _) (.int .u64 (whi (cutN 10 x y (sn j))))
            have E3 := Lib.hid (And.intro (hnext _ XR) BX)
            clear E2 RRa BWa hnext XR BX hb8
            go_wp2_with fail
            obtain ⟨hn1, BX⟩ := E3.out
            exact ⟨⟨j + 1, hjm, rfl, BX, hn1⟩, less60 j m hjm hm⟩
          · have hk1 : Int.tmod (kd j : Int) 12 = 11 := tmod_k hk
            have hk2 : (kd j : Int) % 12 = 11 := emod_k hk
            have ck := (blk_cell PSa 0).trans (show _ = some (.int .u8 (kd j : Int)) from rfl)
            have cn := (blk_cell PSa 3).trans (show _ = some (.int .u8 (sn j : Int)) from rfl)
            have cx0 := (blk_cell h6 0).trans (show _ = some (.int .u64 (wlo x)) from rfl)
            have cx1 := (blk_cell h6 1).trans (show _ = some (.int .u64 (whi x)) from rfl)
            have cy0 := (blk_cell h8 0).trans (show _ = some (.int .u64 (wlo y)) from rfl)
            have cy1 := (blk_cell h8 1).trans (show _ = some (.int .u64 (whi y)) from rfl)
            by_cases hy0 : y = 0
            · subst hy0
              have hnew : stepN (kd j % 12) x 0 (sn j) a b rs = rs := by
                rw [hk]
                exact step_zero x 0 (sn j) a b rs rfl hex hx
              rw [hnew] at hR1
              subst hR1
              have hz : uint128_Uint128_IsZero.f (wlo 0) (whi 0) = some true := by rw [pk_zero]; rfl
              have E2 := Lib.hid (And.intro RRa (And.intro BWa hnext))
              clear RRa BWa hnext PSa h6 h8
              go_wp2_with fail
              refine (uint128_Uint128_IsZero.calls _ _ _ _ hz).mono ?_
              rintro e w8 ⟨rfl, hb8⟩
              obtain ⟨RRa, BWa, hnext⟩ := E2.out
              replace RRa := RRa.on hb8
              replace BWa := BWa.trans (hb8.mono BWa.size)
              have E3 := Lib.hid (And.intro (hnext _ RRa) BWa)
              clear E2 RRa BWa hnext hb8
              go_wp2_with fail
              obtain ⟨hn1, BX⟩ := E3.out
              exact ⟨⟨j + 1, hjm, rfl, BX, hn1⟩, less60 j m hjm hm⟩
            · have hz : uint128_Uint128_IsZero.f (wlo y) (whi y) = some false := by rw [pk_zero, decide_eq_false hy0]
              have E2 := Lib.hid (And.intro RRa (And.intro BWa (And.intro hnext (And.intro h6 h8))))
              clear RRa BWa hnext PSa h6 h8
              go_wp2_with fail
              refine (uint128_Uint128_IsZero.calls _ _ _ _ hz).mono ?_
              rintro e w8 ⟨rfl, hb8⟩
              obtain ⟨RRa, BWa, hnext, h6, h8⟩ := E2.out
              clear cx0 cx1 cy0 cy1 ck cn
              replace h6 := rg_on h6 hb8
              replace h8 := rg_on h8 hb8
              replace RRa := RRa.on hb8
              replace BWa := BWa.trans (hb8.mono BWa.size)
              have cx0 := (blk_cell h6 0).trans (show _ = some (.int .u64 (wlo x)) from rfl)
              have cx1 := (blk_cell h6 1).trans (show _ = some (.int .u64 (whi x)) from rfl)
              have cy0 := (blk_cell h8 0).trans (show _ = some (.int .u64 (wlo y)) from rfl)
              have cy1 := (blk_cell h8 1).trans (show _ = some (.int .u64 (whi y)) from rfl)
              have E3 := Lib.hid (And.intro RRa (And.intro BWa hnext))
              clear E2 RRa BWa hnext hb8 h6 h8
              go_wp2_with fail
              refine (uint128_Uint128_QuoRem.calls 20 _ _ _ _ _ _ _ _ _ (pk_11 x y hx hy hy0)).mono ?_
              rintro e w9 ⟨rfl, hb9⟩
              obtain ⟨RRa, BWa, hnext⟩ := E3.out
              replace RRa := RRa.on hb9
              replace BWa := BWa.trans (hb9.mono BWa.size)
              clear E3 hb9 cx0 cx1 cy0 cy1
              have RR10 := (RRa.alloc (.cells #[.int .u64 (wlo (x / y)), .int .u64 (whi (x / y))] 65)).alloc (.cells #[.int .u64 (wlo (x % y)), .int .u64 (whi (x % y))] 65)
              have z10 : (w9.alloc (.cells #[.int .u64 (wlo (x / y)), .int .u64 (whi (x / y))] 65)).heap.size = w9.heap.size + 1 := (box1 w9 _).2.2
              have BW10 := (BWa.alloc BWa.size (.cells #[.int .u64 (wlo (x / y)), .int .u64 (whi (x / y))] 65)).alloc (by rw [z10]; exact Nat.le_succ_of_le BWa.size) (.cells #[.int .u64 (wlo (x % y)), .int .u64 (whi (x % y))] 65)
              obtain ⟨g0, g1, fz0, fz1⟩ := RR10.cell _ hma
              have RR11 := RR10.put _ hma (x / y)
              have BW11 := (BW10.setCell (p := ⟨w.heap.size, a * 2, none⟩) (Nat.le_refl _) (.int .u64 (wlo (x / y)))).setCell (p := ⟨w.heap.size, a * 2 + 1, none⟩) (Nat.le_refl _) (.int .u64 (whi (x / y)))
              by_cases hab : a = b
              · subst hab
                have hnew : stepN (kd j % 12) x y (sn j) a a rs = upd rs a (x / y) := by
                  rw [hk]
                  exact step_same x y (sn j) a a rs hy0 hx rfl
                rw [hnew] at hR1
                subst hR1
                have hb1 : ((a : Int) == (a : Int)) = true := beq_self_eq_true _
                have hb2 : ((a : Int) != (a : Int)) = false := bne_self_eq_false _
                have E4 := Lib.hid (And.intro (hnext _ RR11) BW11)
                clear RRa BWa RR10 BW10 RR11 BW11 hnext z10
                go_wp2_with fail
                obtain ⟨hn1, BX⟩ := E4.out
                exact ⟨⟨j + 1, hjm, rfl, BX, hn1⟩, less60 j m hjm hm⟩
              · have hnew : stepN (kd j % 12) x y (sn j) a b rs = upd (upd rs a (x / y)) b (x % y) := by
                  rw [hk]
                  exact step_two x y (sn j) a b rs hy0 hx hab
                rw [hnew] at hR1
                subst hR1
                have hb1 : ((b : Int) == (a : Int)) = false := beq_eq_false_iff_ne.2 fun h => hab (Int.ofNat.inj h).symm
                have hb2 : ((b : Int) != (a : Int)) = true := by unfold bne; rw [hb1]; rfl
                have hb3 : (b = a) = False := eq_false fun h => hab h.symm
                have hg9 : w.heap.size ≠ w9.heap.size + 1 := Nat.ne_of_lt (Nat.lt_succ_of_le BWa.size)
                have h15 := (MapKept.heap_alloc (w9.alloc (.cells #[.int .u64 (wlo (x / y)), .int .u64 (whi (x / y))] 65)) (.cells #[.int .u64 (wlo (x % y)), .int .u64 (whi (x % y))] 65)).1
                rw [z10] at h15
                have k15 := rg_far (rg_far h15 (p := ⟨w.heap.size, a * 2, none⟩) (Ne.symm hg9) (.int .u64 (wlo (x / y)))) (p := ⟨w.heap.size, a * 2 + 1, none⟩) (Ne.symm hg9) (.int .u64 (whi (x / y)))
                have c15 := (blk_cell k15 0).trans (show _ = some (.int .u64 (wlo (x % y))) from rfl)
                have d15 := (blk_cell k15 1).trans (show _ = some (.int .u64 (whi (x % y))) from rfl)
                obtain ⟨p0, p1, pz0, pz1⟩ := RR11.cell _ hmb
                have RR12 := RR11.put _ hmb (x % y)
                have BW12 := (BW11.setCell (p := ⟨w.heap.size, b * 2, none⟩) (Nat.le_refl _) (.int .u64 (wlo (x % y)))).setCell (p := ⟨w.heap.size, b * 2 + 1, none⟩) (Nat.le_refl _) (.int .u64 (whi (x % y)))
                have E4 := Lib.hid (And.intro (hnext _ RR12) BW12)
                clear RRa BWa RR10 BW10 RR11 BW11 hnext z10 RR12 BW12 h15 k15
                go_wp2_with fail
                obtain ⟨hn1, BX⟩ := E4.out
                exact ⟨⟨j + 1, hjm, rfl, BX, hn1⟩, less60 j m hjm hm⟩
        · have e : m = j := Nat.le_antisymm (Nat.not_lt.1 hjm) hj
          subst e
          have hlt2 := dec_nn m
          have E1 := Lib.hid (And.intro BW RR)
          clear BW RR
          go_wp2_with fail
          obtain ⟨BW, RR⟩ := E1.out
          clear E1 hlt2
          have hgo := RR.lt
          replace RR := RR.alloc (.cells (madeCells #[.int .u64 0, .int .u64 0] (n * 2)) 24)
          replace BW := BW.alloc BW.size (.cells (madeCells #[.int .u64 0, .int .u64 0] (n * 2)) 24)
          have HO := (MapKept.heap_alloc wr (.cells (madeCells #[.int .u64 0, .int .u64 0] (n * 2)) 24)).1
          generalize wr.alloc (.cells (madeCells #[.int .u64 0, .int .u64 0] (n * 2)) 24) = V3 at RR BW HO ⊢
          generalize wr.heap.size = ho at hgo HO ⊢
          obtain ⟨rs, hrs⟩ : ∃ r, r = runN kd sa sb sn n rs0 m := ⟨_, rfl⟩
          rw [← hrs] at RR
          have HR := Lib.hid hrs
          clear hrs
          go_loopw [186] (fun i wr => ∃ j : Nat, j ≤ n ∧ i = .int .i64 (j : Int) ∧ Below w.heap.size w wr ∧ Xr w.heap.size 65 n rs wr ∧ ∃ cs, wr.heap[ho]? = some (.cells cs 24 (0, 0)) ∧ cs.size = n * 2 ∧ ∀ i, i < j → cs[i * 2]? = some (.int .u64 (wlo (rs i))) ∧ cs[i * 2 + 1]? = some (.int .u64 (whi (rs i)))) (fun i _ => 9 - (intOf i).toNat)
          case atStart =>
            exact ⟨0, Nat.zero_le _, rfl, BW, RR, _, HO, size_madeCells _ _, fun i h => absurd h (Nat.not_lt_zero _)⟩
          case round =>
            clear RR BW HO
            obtain ⟨j, hj, rfl, BW, RR, cs, HO, hsz, hcs⟩ := hrel
            by_cases hjn : j < n
            · obtain ⟨e0, e1, _, _⟩ := RR.cell _ hjn
              have hlt := dec_lt hjn
              have E1 := Lib.hid (And.intro BW (And.intro RR (And.intro HO hcs)))
              clear BW RR HO hcs
              go_wp2_with fail
              refine (impl_wide.calls _ _ _ _ _ rfl).mono ?_
              rintro e w1 ⟨rfl, hb1⟩
              obtain ⟨BW, RR, HO, hcs⟩ := E1.out
              clear E1 e0 e1
              replace BW := (BW.alloc BW.size (.cells #[.int .u64 (wlo (rs j)), .int .u64 (whi (rs j))] 65)).trans (hb1.mono (BW.alloc BW.size (.cells #[.int .u64 (wlo (rs j)), .int .u64 (whi (rs j))] 65)).size)
              replace RR := (RR.alloc (.cells #[.int .u64 (wlo (rs j)), .int .u64 (whi (rs j))] 65)).on hb1
              replace HO := rg_on (blk_alloc HO (.cells #[.int .u64 (wlo (rs j)), .int .u64 (whi (rs j))] 65)) hb1
              obtain ⟨l0, l1⟩ := two_lt hjn hsz
              obtain ⟨v0, hv0⟩ : ∃ v, cs[j * 2]? = some v := ⟨_, Array.getElem?_eq_getElem l0⟩
              obtain ⟨v1, hv1⟩ : ∃ v, cs[j * 2 + 1]? = some v := ⟨_, Array.getElem?_eq_getElem l1⟩
              have c0 := (blk_cell HO (j * 2)).trans hv0
              have c1 := (blk_cell HO (j * 2 + 1)).trans hv1
              have f0 := blk_frozen HO (j * 2)
              have f1 := blk_frozen HO (j * 2 + 1)
              have k1 := rg_set (rg_set HO (j * 2) (.int .u64 (wlo (rs j)))) (j * 2 + 1) (.int .u64 (whi (rs j)))
              have BW2 := (BW.setCell (p := ⟨ho, j * 2, none⟩) (Nat.le_of_lt hgo) (.int .u64 (wlo (rs j)))).setCell (p := ⟨ho, j * 2 + 1, none⟩) (Nat.le_of_lt hgo) (.int .u64 (whi (rs j)))
              have RR2 := (RR.far (p := ⟨ho, j * 2, none⟩) (Nat.ne_of_lt hgo) (.int .u64 (wlo (rs j)))).far (p := ⟨ho, j * 2 + 1, none⟩) (Nat.ne_of_lt hgo) (.int .u64 (whi (rs j)))
              have hcs2 := pair_in cs n j (.int .u64 (wlo (rs j))) (.int .u64 (whi (rs j))) (fun i => .int .u64 (wlo (rs i))) (fun i => .int .u64 (whi (rs i))) rfl rfl hjn hsz hcs
              have E1 := Lib.hid (And.intro k1 (And.intro BW2 (And.intro RR2 hcs2)))
              clear HO BW RR hb1 k1 BW2 RR2 hcs hcs2 hv0 hv1
              go_wp2_with fail
              obtain ⟨k1, BW2, RR2, hcs2⟩ := E1.out
              exact ⟨⟨j + 1, hjn, rfl, BW2, RR2, _, k1, hcs2.1, hcs2.2⟩, less9 j n hjn hn9⟩
            · have e : n = j := Nat.le_antisymm (Nat.not_lt.1 hjn) hj
              subst e
              have hlt := dec_nn n
              have E1 := Lib.hid (And.intro BW (And.intro HO hcs))
              clear BW HO hcs
              go_wp2_with fail
              go_ret
              obtain ⟨BW, HO, hcs⟩ := E1.out
              refine ⟨ho, rfl, Nat.le_of_lt hgo, BW, ?_⟩
              rw [← HR.out]
              exact ⟨cs, HO, Nat.le_of_eq (hsz.trans (Nat.mul_comm _ _)).symm, hcs⟩
end Go.Proofs.YtiifnofghicnaaaDoor.PAll
namespace Go.Proofs.YtiifnofghicnaaaDoor.PAll
open Go.RowKit Go.Proofs.YtiifnofghicnaaaDoorW.PrintWords Go.Proofs.YtiifnofghicnaaaDoorW.PrintLast Go.Proofs.YtiifnofghicnaaaDoorW.PrintMore
set_option linter.unusedVariables false
/-- A list of whole numbers of 65536. -/
abbrev KB : Kd (List Int) := Kd.slice 3 (Kd.int .i64)
theorem infoBig : (Tryd.prog.info? 30).map (fun i => (i.zero, i.size, i.bytes)) = some (some (.slice none 0 0), 1, 24) := by kernel_rfl
theorem want_step (rs0 : Nat → Nat) (j : Nat) : ((List.range j).map fun i => Dig.dg (rs0 i)) ++ [Dig.dg (rs0 j)] = (List.range (j + 1)).map fun i => Dig.dg (rs0 i) := by
  rw [List.range_succ, List.map_append]
  rfl
theorem fk_of_V {W : World} {base : Nat} {ok : Nat → Prop} {v : Value} {l : List Int} (h : Kd.V (Kd.int .i64) 3 W base ok v l) : Kd.FK KB W ok l [v] := by
  obtain ⟨A, c, rfl, hl, hf⟩ := h
  exact Kd.FK_slice_mk hl hf
theorem rg_of_N {W : World} {base n : Nat} {rs0 : Nat → Nat} {v : Value} (hn : 0 < n) (h : Kd.N KB 30 W base (fun k => base ≤ k) v ((List.range n).map fun i => Dig.dg (rs0 i))) :
    ∃ g c, v = .slice (some ⟨g, 0, none⟩) n c ∧ base ≤ g ∧ g < W.heap.size ∧ Rg g W.heap.size n rs0 W := by
  obtain ⟨h0, rows, hl, ⟨_, inner, ho, hr⟩, hf⟩ := h
  rw [List.length_map, List.length_range] at hl
  rw [hl] at ho
  obtain ⟨hil, ho | ⟨g, cap, cur, rfl, hbg, hg, hnc, hcm, hcs, htake⟩⟩ := ho
  · exact absurd ho.2 (by omega)
  have hgs : (Value.slice (some ⟨g, 0, none⟩) n cap).ownBlock = some g := rfl
  refine ⟨g, cap, rfl, hbg, blk_lt hg, cur, hg, ?_, fun i hi => ?_⟩
  · have hsz : (Kd.raw KB.sz).sz = 1 := rfl
    rw [hsz] at hcs
    omega
  · have hrow : rows[i]? = some (rows[i]'(by omega)) := List.getElem?_eq_getElem (by omega)
    have hx : ((List.range n).map fun i => Dig.dg (rs0 i))[i]? = some (Dig.dg (rs0 i)) := by
      rw [List.getElem?_map, List.getElem?_range hi]
      rfl
    obtain ⟨e1, e2, _⟩ := hr.2 i _ hrow
    have fk := hf i _ _ hx hrow
    obtain ⟨A, c, e, hle, hF⟩ := Kd.FK_slice_open fk
    rw [e] at e1
    refine ⟨.slice A (Dig.dg (rs0 i)).length c, ?_, A, c, rfl, hle, fun W' hW => ?_⟩
    · have h3 : inner[i]? = some (.slice A (Dig.dg (rs0 i)).length c) := by
        have h4 := congrArg (fun l => l[0]?) e1
        simp only [List.getElem?_cons_zero] at h4
        rw [List.getElem?_take, List.getElem?_drop] at h4
        rw [show (Kd.raw KB.sz).sz = 1 from rfl] at h4
        simpa using h4
      rw [← htake, List.getElem?_take] at h3
      split at h3
      · simpa using h3
      · cases h3
    · exact hF W' (fun k hk hlt => hW k ⟨fun he => hk.2 (by rw [hgs, he]), hlt⟩ hlt)

/-- A slice of pairs of words, to be read. -/
def Pairs (w : World) (a : Option Addr) (n : Nat) (rs0 : Nat → Nat) : Prop :=
  0 < n → ∃ b o, a = some ⟨b, o, none⟩ ∧ ∀ W, Below w.heap.size w W → ∀ i, i < n → W.cell? ⟨b, o + i * 2, none⟩ = some (.int .u64 (wlo (rs0 i))) ∧ W.cell? ⟨b, o + i * 2 + 1, none⟩ = some (.int .u64 (whi (rs0 i)))
/-- A slice of steps, to be read. -/
def Quads (w : World) (a : Option Addr) (m : Nat) (kd sa sb sn : Nat → Nat) : Prop :=
  0 < m → ∃ b o, a = some ⟨b, o, none⟩ ∧ ∀ W, Below w.heap.size w W → ∀ i, i < m → W.cell? ⟨b, o + i * 4, none⟩ = some (.int .u8 (kd i : Int)) ∧ W.cell? ⟨b, o + i * 4 + 1, none⟩ = some (.int .u8 (sa i : Int)) ∧ W.cell? ⟨b, o + i * 4 + 2, none⟩ = some (.int .u8 (sb i : Int)) ∧ W.cell? ⟨b, o + i * 4 + 3, none⟩ = some (.int .u8 (sn i : Int))
theorem dec_gt {n k : Nat} (h : k < n) : decide ((n : Int) > (k : Int)) = true := decide_eq_true (by omega)
theorem dec_ngt {n k : Nat} (h : ¬ k < n) : decide ((n : Int) > (k : Int)) = false := decide_eq_false (by omega)
theorem whole_w (x : Nat) (hx : x < 340282366920938463463374607431768211456) : laws_wideWhole.f (wlo x) (whi x) = some (Dig.dg x) := by
  have h := whole_law (u64_wlo x) (u64_whi hx)
  rw [n128_w] at h
  exact h
theorem is_w (x : Nat) (hx : x < 340282366920938463463374607431768211456) : laws_wideIs.f 100 (wlo x) (whi x) (Dig.dg x) = some true := by
  have h := is_self x 100 (by decide)
  rw [halves_w, Nat.mod_eq_of_lt hx] at h
  exact h
end Go.Proofs.YtiifnofghicnaaaDoor.PAll
namespace Go.Proofs.YtiifnofghicnaaaDoor.PAll
open Go.RowKit Go.Proofs.YtiifnofghicnaaaDoorW.PrintWords Go.Proofs.YtiifnofghicnaaaDoorW.PrintLast Go.Proofs.YtiifnofghicnaaaDoorW.PrintMore
set_option linter.unusedVariables false
set_option linter.unusedSimpArgs false
set_option maxHeartbeats 4000000 in
set_option maxRecDepth 100000 in
theorem FnWideRun_long (a0 : Option Addr) (n c0 : Nat) (a1 : Option Addr) (m c1 : Nat) (w : World) (h : n > 2147483647 ∨ m > 2147483647 ∨ n < 1 ∨ n > 9 ∨ m > 60) :
    Calls Tryd.prog 10 #[.slice a0 n c0, .slice a1 m c1] w fun e w' => e = .returned (.bool true) ∧ Below w.heap.size w w' := by
  by_cases h1 : 2147483647 < n
  · have e1 : decide ((n : Int) > 2147483647) = true := decide_eq_true (by omega)
    clear h h1
    go_enter Tryd.func10, Tryd.ntmps10
    go_wp2_with fail
    go_ret
    exact ⟨rfl, Below.refl _ _⟩
  have e1 : decide ((n : Int) > 2147483647) = false := decide_eq_false (by omega)
  by_cases h2 : 2147483647 < m
  · have e2 : decide ((m : Int) > 2147483647) = true := decide_eq_true (by omega)
    clear h h1 h2
    go_enter Tryd.func10, Tryd.ntmps10
    go_wp2_with fail
    go_ret
    exact ⟨rfl, Below.refl _ _⟩
  have e2 : decide ((m : Int) > 2147483647) = false := decide_eq_false (by omega)
  by_cases h3 : n < 1
  · have e3 : decide ((n : Int) < 1) = true := decide_eq_true (by omega)
    clear h h1 h2 h3
    go_enter Tryd.func10, Tryd.ntmps10
    go_wp2_with fail
    go_ret
    exact ⟨rfl, Below.refl _ _⟩
  have e3 : decide ((n : Int) < 1) = false := decide_eq_false (by omega)
  by_cases h4 : 9 < n
  · have e4 : decide ((n : Int) > 9) = true := decide_eq_true (by omega)
    clear h h1 h2 h3 h4
    go_enter Tryd.func10, Tryd.ntmps10
    go_wp2_with fail
    go_ret
    exact ⟨rfl, Below.refl _ _⟩
  have e4 : decide ((n : Int) > 9) = false := decide_eq_false (by omega)
  have e5 : decide ((m : Int) > 60) = true := decide_eq_true (by omega)
  clear h h1 h2 h3 h4
  go_enter Tryd.func10, Tryd.ntmps10
  go_wp2_with fail
  go_ret
  exact ⟨rfl, Below.refl _ _⟩
theorem eight9 (j n : Nat) (h : j < n) (hn : n ≤ 9) : (j + 1) * 24 ≤ 140737488355328 := by omega
set_option maxHeartbeats 4000000 in
set_option maxRecDepth 100000 in
theorem FnWideRun_main (pb po n c0 : Nat) (rs0 kd sa sb sn : Nat → Nat) (a1 : Option Addr) (m c1 : Nat) (qb qo : Nat) (hA1 : 0 < m → a1 = some ⟨qb, qo, none⟩) (hn0 : 0 < n) (hn9 : n ≤ 9) (hm : m ≤ 60) (w : World)
    (hrs0 : ∀ i, rs0 i < 340282366920938463463374607431768211456) (hlt4 : ∀ j, j < m → kd j < 256 ∧ sa j < 256 ∧ sb j < 256 ∧ sn j < 256)
    (hreg : ∀ W, Below w.heap.size w W → ∀ i, i < n → W.cell? ⟨pb, po + i * 2, none⟩ = some (.int .u64 (wlo (rs0 i))) ∧ W.cell? ⟨pb, po + i * 2 + 1, none⟩ = some (.int .u64 (whi (rs0 i))))
    (hst : ∀ W, Below w.heap.size w W → ∀ i, i < m → W.cell? ⟨qb, qo + i * 4, none⟩ = some (.int .u8 (kd i : Int)) ∧ W.cell? ⟨qb, qo + i * 4 + 1, none⟩ = some (.int .u8 (sa i : Int)) ∧ W.cell? ⟨qb, qo + i * 4 + 2, none⟩ = some (.int .u8 (sb i : Int)) ∧ W.cell? ⟨qb, qo + i * 4 + 3, none⟩ = some (.int .u8 (sn i : Int))) :
    Calls Tryd.prog 10 #[.slice (some ⟨pb, po, none⟩) n c0, .slice a1 m c1] w fun e w' => e = .returned (.bool true) ∧ Below w.heap.size w w' := by
  have e1 : decide ((n : Int) > 2147483647) = false := decide_eq_false (by omega)
  have e2 : decide ((m : Int) > 2147483647) = false := decide_eq_false (by omega)
  have e3 : decide ((n : Int) < 1) = false := decide_eq_false (by omega)
  have e4 : decide ((n : Int) > 9) = false := decide_eq_false (by omega)
  have e5 : decide ((m : Int) > 60) = false := decide_eq_false (by omega)
  have HST := Lib.hid hst
  have HREG := Lib.hid hreg
  clear hst hreg
  go_enter Tryd.func10, Tryd.ntmps10
  go_wp2_with fail
  clear e1 e2 e3 e4 e5
  go_loopw [5, 35] (fun v i wr => ∃ j : Nat, j ≤ n ∧ i = .int .i64 (j : Int) ∧ Below w.heap.size w wr ∧ Kd.N KB 30 wr w.heap.size (fun k => w.heap.size ≤ k) v ((List.range j).map fun i => Dig.dg (rs0 i))) (fun _ i _ => 9 - (intOf i).toNat)
  case atStart =>
    exact ⟨0, Nat.zero_le _, rfl, Below.refl _ _, Kd.N_nil _ _ _ _ _⟩
  case round =>
    obtain ⟨j, hj, rfl, BW, HN⟩ := hrel
    by_cases hjn : j < n
    · obtain ⟨x0, x1⟩ := HREG.out wr BW j hjn
      have hlt := dec_lt hjn
      have E1 := Lib.hid (And.intro BW HN)
      clear BW HN
      go_wp2_with fail
      refine (laws_wideWhole.calls _ _ _ _ (whole_w (rs0 j) (hrs0 j))).mono ?_
      rintro e w1 ⟨u, rfl, hu, hb1⟩
      obtain ⟨BW, HN⟩ := E1.out
      clear E1 x0 x1
      have BWr := BW.size
      have hsz := ((Below.refl wr.heap.size wr).alloc (Nat.le_refl _) (.cells #[.int .u64 (wlo (rs0 j)), .int .u64 (whi (rs0 j))] 24)).size
      replace BW := (BW.alloc BW.size (.cells #[.int .u64 (wlo (rs0 j)), .int .u64 (whi (rs0 j))] 24)).trans (hb1.mono (BW.alloc BW.size (.cells #[.int .u64 (wlo (rs0 j)), .int .u64 (whi (rs0 j))] 24)).size)
      have HN1 := Kd.N_below (Kd.N_alloc HN (.cells #[.int .u64 (wlo (rs0 j)), .int .u64 (whi (rs0 j))] 24)) hb1
      obtain ⟨Au, cu, rfl, _, _⟩ := V_at hu
      have hfk := fk_of_V hu
      have hba := BW.size
      have hokp : ∀ k, (wr.alloc (.cells #[.int .u64 (wlo (rs0 j)), .int .u64 (whi (rs0 j))] 24)).heap.size ≤ k → w.heap.size ≤ k ∧ some k ≠ u5.ownBlock := fun k hk => ⟨Nat.le_trans (Nat.le_trans BWr hsz) hk, fun he => Nat.lt_irrefl k (Nat.lt_of_lt_of_le (Kd.N_lt HN k he.symm) (Nat.le_trans hsz hk))⟩
      have hl : (((List.range j).map fun i => Dig.dg (rs0 i)).length + 1) * 24 ≤ 140737488355328 := by rw [List.length_map, List.length_range]; exact eight9 j n hjn hn9
      have E1 := Lib.hid (And.intro BW (And.intro HN1 (And.intro hfk (And.intro hba (And.intro hokp hl)))))
      clear BW HN1 hfk hba hokp hl HN hu hb1 hsz BWr
      go_wp2_with (first | ((with_reducible refine gate_builtin (b := .append) (xs := #[.tmp 39, .tmp 42]) rfl ?_); at_builtin; refine Kd.N_append KB (w0 := w) w.heap.size rfl (.tmp 39) (.tmp 42) 58 30 (.slice none 0 0) 24 rfl Tryd.underlying58 infoBig rfl (by decide) (by decide) u5 _ (Dig.dg (rs0 j)) [.slice Au (Dig.dg (rs0 j)).length cu] (fun k => w.heap.size ≤ k) _ rfl rfl E1.out.2.2.1 E1.out.2.2.2.2.1 (fun k hk => Nat.le_trans E1.out.2.2.2.1 hk) E1.out.2.1 E1.out.1 E1.out.2.2.2.1 E1.out.2.2.2.2.2 ?_; intro v1 w2 ho hb hg hat; rw [want_step] at ho; have E2 := Lib.hid (And.intro ho hb); clear E1 ho hb hg hat))
      obtain ⟨ho, hb⟩ := E2.out
      exact ⟨⟨j + 1, hjn, rfl, hb, ho⟩, less9 j n hjn hn9⟩
    · have e : n = j := Nat.le_antisymm (Nat.not_lt.1 hjn) hj
      subst e
      have hlt := dec_nn n
      obtain ⟨g, c, rfl, hbg, hgl, RR⟩ := rg_of_N hn0 HN
      have E1 := Lib.hid (And.intro BW RR)
      clear BW HN RR
      go_wp2_with fail
      obtain ⟨BW, RR⟩ := E1.out
      clear E1
      go_loopw [47] (fun i wr => ∃ j : Nat, j ≤ m ∧ i = .int .i64 (j : Int) ∧ Below w.heap.size w wr ∧ ∃ b', b' ≤ wr.heap.size ∧ Rg g b' n (runN kd sa sb sn n rs0 j) wr) (fun i _ => 60 - (intOf i).toNat)
      case atStart =>
        exact ⟨0, Nat.zero_le _, rfl, BW, _, Nat.le_refl _, RR⟩
      case round =>
        clear BW RR
        obtain ⟨j, hj2, rfl, BW, b', hb', RR⟩ := hrel
        by_cases hjm : j < m
        · obtain rfl := hA1 (Nat.lt_of_le_of_lt (Nat.zero_le j) hjm)
          obtain ⟨s0, s1, s2, s3⟩ := HST.out wr BW j hjm
          have hlt2 := dec_lt hjm
          obtain ⟨lkd, lsa, lsb, lsn⟩ := hlt4 j hjm
          have E1 := Lib.hid (And.intro BW (And.intro hb' RR))
          clear BW RR hb'
          go_wp2_with fail
          obtain ⟨BW, hb', RR⟩ := E1.out
          have hbig := runN_lt kd sa sb sn n rs0 hrs0 j
          have ha1 := Nat.le_of_lt (show wr.heap.size < (wr.alloc (.cells #[.int .u8 (kd j : Int), .int .u8 (sa j : Int), .int .u8 (sb j : Int), .int .u8 (sn j : Int)] 60)).heap.size from by rw [(box1 wr _).2.2]; exact Nat.lt_succ_self _)
          refine (step_walk g c n (runN kd sa sb sn n rs0 j) (kd j) (sa j) (sb j) (sn j) _ _ rfl rfl _ _ rfl rfl lkd lsa lsb lsn hn0 hn9 (hbig _) (hbig _) (nd_128 (hbig _)) (nd_128 (hbig _)) _ b' (Nat.le_trans hb' ha1) (RR.alloc _)).mono ?_
          rintro e w1 ⟨rfl, ⟨b2, hb2, RR2⟩, B2, O2⟩
          have BW2 := (BW.alloc BW.size (.cells #[.int .u8 (kd j : Int), .int .u8 (sa j : Int), .int .u8 (sb j : Int), .int .u8 (sn j : Int)] 60)).trans (B2.mono hbg)
          clear E1 BW hb' RR hbig ha1 s0 s1 s2 s3 B2 O2
          have E1 := Lib.hid (And.intro BW2 (And.intro hb2 RR2))
          clear BW2 hb2 RR2
          go_wp2_with fail
          obtain ⟨BW2, hb2, RR2⟩ := E1.out
          exact ⟨⟨j + 1, hjm, rfl, BW2, b2, hb2, RR2⟩, less60 j m hjm hm⟩
        · have e : m = j := Nat.le_antisymm (Nat.not_lt.1 hjm) hj2
          subst e
          have hlt2 := dec_nn m
          have hne1 : ((n : Int) != (n : Int)) = false := bne_self_eq_false _
          have hne2 : ((n : Int) == (n : Int)) = true := beq_self_eq_true _
          have E1 := Lib.hid (And.intro BW (And.intro hb' RR))
          clear BW RR hb'
          go_wp2_with fail
          obtain ⟨BW, hb', RR⟩ := E1.out
          refine (run_walk n m pb po qb qo a1 hA1 c0 c1 rs0 kd sa sb sn hn0 hn9 hm hrs0 hlt4 wr (fun W hW => HREG.out W (BW.trans (hW.mono BW.size))) (fun W hW => HST.out W (BW.trans (hW.mono BW.size)))).mono ?_
          rintro e w1 ⟨g2, rfl, hg2, B1, XR⟩
          replace RR := RR.on B1
          replace BW := BW.trans (B1.mono BW.size)
          replace hb' := Nat.le_trans hb' B1.size
          have hbig := runN_lt kd sa sb sn n rs0 hrs0 m
          clear E1 B1
          have E1 := Lib.hid (And.intro BW (And.intro hb' (And.intro RR (And.intro XR hbig))))
          clear BW RR hb' XR hbig
          go_wp2_with fail
          obtain ⟨BW, hb', RR, XR, hbig⟩ := E1.out
          clear E1 hlt2 hlt hlt4
          generalize runN kd sa sb sn n rs0 m = rs at BW hb' RR XR hbig
          go_loopw [65] (fun i wr => ∃ j : Nat, j ≤ n ∧ i = .int .i64 (j : Int) ∧ Below w.heap.size w wr ∧ b' ≤ wr.heap.size ∧ Rg g b' n rs wr ∧ Xr g2 24 n rs wr) (fun i _ => 9 - (intOf i).toNat)
          case atStart =>
            exact ⟨0, Nat.zero_le _, rfl, BW, hb', RR, XR⟩
          case round =>
            clear BW RR hb' XR
            obtain ⟨j, hj3, rfl, BW, hb', RR, XR⟩ := hrel
            by_cases hjn3 : j < n
            · have hlt := dec_lt hjn3
              obtain ⟨g0, g1, _, _⟩ := XR.cell _ hjn3
              obtain ⟨vr, cr, _, rvr⟩ := RR.cell _ hjn3
              obtain ⟨Ar, lr, rfl, hlr, hrr⟩ := rvr.read
              have his := is_w (rs j) (hbig j)
              generalize hrj : rs j = r at g0 g1 cr hlr hrr his
              clear rvr
              have E1 := Lib.hid (And.intro BW (And.intro hb' (And.intro RR (And.intro XR (And.intro g0 (And.intro g1 (And.intro cr hrr)))))))
              clear BW hb' RR XR g0 g1 cr hrr
              go_wp2_with fail
              obtain ⟨BW, hb', RR, XR, g0, g1, cr, hrr⟩ := E1.out
              refine start_ (n := 10) (S := fun w' => w'.cell? ⟨g2, j * 2, none⟩ = some (.int .u64 (wlo r)) ∧ w'.cell? ⟨g2, j * 2 + 1, none⟩ = some (.int .u64 (whi r)) ∧ w'.cell? ⟨g, j, none⟩ = some (.slice Ar (Dig.dg r).length lr)) (ds := []) #[false, false, false, false, false, false, false, false, false, false] (by kernel_rfl) rfl rfl ⟨g0, g1, cr⟩ (fun hHeld => ?_)
              replace BW := BW.drew
              replace RR := RR.drew
              replace XR := XR.drew
              replace hb' : b' ≤ wr.drew.heap.size := hb'
              replace g0 : wr.drew.cell? _ = _ := g0
              replace g1 : wr.drew.cell? _ = _ := g1
              replace cr : wr.drew.cell? _ = _ := cr
              replace hrr : ∀ W', Below wr.drew.heap.size wr.drew W' → _ := fun W' h => hrr W' ((drew_b _ wr).trans h)
              generalize wr.drew = V1 at BW RR XR hb' g0 g1 cr hrr hHeld ⊢
              refine pure_ (i := 0) (N := some 68) (v := ?_) (a' := ?_) #[true, false, false, false, false, false, false, false, false, false] rfl rfl (by kernel_rfl) (fun _ _ _ h => h) (Or.inl ⟨by rfl, ?_⟩) ?_ ?_
              rotate_left
              · intro w'
                go_simp
                with_reducible rfl
              rotate_left
              · simp only [Act.put, List.setIfInBounds_toArray, List.set_cons_zero, List.set_cons_succ, i64_w, i32_w]
                rfl
              refine pure_ (i := 1) (N := some 69) (v := ?_) (a' := ?_) #[true, true, false, false, false, false, false, false, false, false] rfl rfl (by kernel_rfl) (fun _ _ _ h => h) (Or.inl ⟨by rfl, ?_⟩) ?_ ?_
              rotate_left
              · intro w'
                go_simp
                with_reducible rfl
              rotate_left
              · simp only [Act.put, List.setIfInBounds_toArray, List.set_cons_zero, List.set_cons_succ, i64_w, i32_w]
                rfl
              refine pure_ (i := 2) (N := some 70) (v := ?_) (a' := ?_) #[true, true, true, false, false, false, false, false, false, false] rfl rfl (by kernel_rfl) (fun _ _ _ h => h) (Or.inl ⟨by rfl, ?_⟩) ?_ ?_
              rotate_left
              · intro w'
                go_simp
                with_reducible rfl
              rotate_left
              · simp only [Act.put, List.setIfInBounds_toArray, List.set_cons_zero, List.set_cons_succ, i64_w, i32_w]
                rfl
              refine pure_ (i := 4) (N := some 72) (v := ?_) (a' := ?_) #[true, true, true, false, true, false, false, false, false, false] rfl rfl (by kernel_rfl) (fun _ _ _ h => h) (Or.inl ⟨by rfl, ?_⟩) ?_ ?_
              rotate_left
              · intro w'
                go_simp
                with_reducible rfl
              rotate_left
              · simp only [Act.put, List.setIfInBounds_toArray, List.set_cons_zero, List.set_cons_succ, i64_w, i32_w]
                rfl
              refine pure_ (i := 5) (N := some 73) (v := ?_) (a' := ?_) #[true, true, true, false, true, true, false, false, false, false] rfl rfl (by kernel_rfl) (fun _ _ _ h => h) (Or.inl ⟨by rfl, ?_⟩) ?_ ?_
              rotate_left
              · intro w'
                go_simp
                with_reducible rfl
              rotate_left
              · simp only [Act.put, List.setIfInBounds_toArray, List.set_cons_zero, List.set_cons_succ, i64_w, i32_w]
                rfl
              refine pure_ (i := 6) (N := some 74) (v := ?_) (a' := ?_) #[true, true, true, false, true, true, true, false, false, false] rfl rfl (by kernel_rfl) (fun _ _ _ h => h) (Or.inl ⟨by rfl, ?_⟩) ?_ ?_
              rotate_left
              · intro w'
                go_simp
                with_reducible rfl
              rotate_left
              · simp only [Act.put, List.setIfInBounds_toArray, List.set_cons_zero, List.set_cons_succ, i64_w, i32_w]
                rfl
              refine take_ (i := 3) (N := some 71) (v := ?_) (a' := ?_) #[true, true, true, true, true, true, true, false, false, false] rfl rfl (by kernel_rfl) (fun _ _ _ h => h) (Or.inl ⟨by rfl, ?_⟩) hHeld ?_ ?_
              rotate_left
              · rintro w' ⟨s0, s1, s2⟩
                go_simp
                with_reducible rfl
              rotate_left
              · simp only [Act.put, List.setIfInBounds_toArray, List.set_cons_zero, List.set_cons_succ, i64_w, i32_w]
                rfl
              refine take_ (i := 7) (N := some 75) (v := ?_) (a' := ?_) #[true, true, true, true, true, true, true, true, false, false] rfl rfl (by kernel_rfl) (fun _ _ _ h => h) (Or.inl ⟨by rfl, ?_⟩) hHeld ?_ ?_
              rotate_left
              · rintro w' ⟨s0, s1, s2⟩
                go_simp
                with_reducible rfl
              rotate_left
              · simp only [Act.put, List.setIfInBounds_toArray, List.set_cons_zero, List.set_cons_succ, i64_w, i32_w]
                rfl
              refine one_ (i := 8) (N := some 76) #[true, true, true, true, true, true, true, true, true, false] rfl rfl (by kernel_rfl) (by decide) (fun K hK => ?_)
              refine goes_ Tryd.func14 (by kernel_rfl) rfl #[.agg #[.int .u64 (wlo r), .int .u64 (whi r)], .slice Ar (Dig.dg r).length lr] (by rfl) rfl rfl (by simp only [List.map_toArray, List.map_cons, List.map_nil]; rfl) ?_
              with_reducible refine (laws_wideIs.calls 100 _ _ Ar lr (Dig.dg r) true _ (hrr _ (Below.refl _ _)) hlr his).mono ?_
              rintro e w9 ⟨rfl, hb9⟩
              refine ⟨_, rfl, ?_⟩
              refine hK.out _ _ ⟨((hb9.cell (World.block_lt_of_cell? V1 _ g0)).trans g0), ((hb9.cell (World.block_lt_of_cell? V1 _ g1)).trans g1), ((hb9.cell (World.block_lt_of_cell? V1 _ cr)).trans cr)⟩ (fun hHeld => ?_)
              clear hK K
              refine norm_ (a' := ?_) ?_ ?_
              rotate_left
              · show Act.put _ (some 76) _ = _
                simp only [Act.put, List.setIfInBounds_toArray, List.set_cons_zero, List.set_cons_succ, i64_w, i32_w]
                rfl
              refine pure_ (i := 9) (N := some 77) (v := ?_) (a' := ?_) #[true, true, true, true, true, true, true, true, true, true] rfl rfl (by kernel_rfl) (fun _ _ _ h => h) (Or.inl ⟨by rfl, ?_⟩) ?_ ?_
              rotate_left
              · intro w'
                go_simp
                with_reducible rfl
              rotate_left
              · simp only [Act.put, List.setIfInBounds_toArray, List.set_cons_zero, List.set_cons_succ, i64_w, i32_w]
                rfl
              refine done_ (by kernel_rfl) ?_
              replace BW := BW.trans (hb9.mono BW.size)
              replace RR := RR.on hb9
              replace XR := XR.on hb9
              replace hb' := Nat.le_trans hb' hb9.size
              clear E1 g0 g1 cr hrr hHeld hb9
              have E1 := Lib.hid (And.intro BW (And.intro hb' (And.intro RR XR)))
              clear BW hb' RR XR
              go_wp2_with fail
              obtain ⟨BW, hb', RR, XR⟩ := E1.out
              exact ⟨⟨j + 1, hjn3, rfl, BW, hb', RR, XR⟩, less9 j n hjn3 hn9⟩
            · have hlt := dec_nn n
              have e : n = j := Nat.le_antisymm (Nat.not_lt.1 hjn3) hj3
              subst e
              have E1 := Lib.hid BW
              clear BW
              go_wp2_with fail
              go_ret
              exact ⟨rfl, E1.out⟩
/-- The law's function, whatever it is given. -/
theorem FnWideRun_walk (a0 : Option Addr) (n c0 : Nat) (rs0 : Nat → Nat) (a1 : Option Addr) (m c1 : Nat) (kd sa sb sn : Nat → Nat) (w : World) (hrs0 : ∀ i, rs0 i < 340282366920938463463374607431768211456) (hp : Pairs w a0 n rs0)
    (hlt4 : ∀ j, kd j < 256 ∧ sa j < 256 ∧ sb j < 256 ∧ sn j < 256) (hq : Quads w a1 m kd sa sb sn) :
    Calls Tryd.prog 10 #[.slice a0 n c0, .slice a1 m c1] w fun e w' => e = .returned (.bool true) ∧ Below w.heap.size w w' := by
  by_cases h : n > 2147483647 ∨ m > 2147483647 ∨ n < 1 ∨ n > 9 ∨ m > 60
  · exact FnWideRun_long a0 n c0 a1 m c1 w h
  · have hn0 : 0 < n := by omega
    obtain ⟨pb, po, rfl, hreg⟩ := hp hn0
    by_cases hm0 : 0 < m
    · obtain ⟨qb, qo, rfl, hst⟩ := hq hm0
      exact FnWideRun_main pb po n c0 rs0 kd sa sb sn _ m c1 qb qo (fun _ => rfl) hn0 (by omega) (by omega) w hrs0 (fun j _ => hlt4 j) hreg hst
    · exact FnWideRun_main pb po n c0 rs0 kd sa sb sn a1 m c1 0 0 (fun hh => absurd hh hm0) hn0 (by omega) (by omega) w hrs0 (fun j _ => hlt4 j) hreg (fun W _ i hi => absurd hi (by omega))
end Go.Proofs.YtiifnofghicnaaaDoor.PAll
namespace Go.Proofs.YtiifnofghicnaaaDoor.PAll
open Go.RowKit Go.Proofs.YtiifnofghicnaaaDoorW.PrintWords Go.Proofs.YtiifnofghicnaaaDoorW.PrintLast Go.Proofs.YtiifnofghicnaaaDoorW.PrintMore
open Go.ChangeShapes Go.WideShapes Go.Deep
set_option linter.unusedVariables false
theorem spot_of {w : World} {x : Addr} {v : Value} (h : w.cell? x = some v) : x.spot = none := by
  unfold World.cell? at h
  split at h
  · split at h
    · cases h
    · next hs => simpa using hs
  · cases h
theorem addr_of {x : Addr} (h : x.spot = none) (k : Nat) : x.add k = ⟨x.block, x.off + k, none⟩ := by
  obtain ⟨b, o, s⟩ := x
  obtain rfl : s = none := h
  unfold Addr.add
  split
  · next h0 => subst h0; rfl
  · rfl
section
variable {H : Type} {enc : TypeId × Value → H} {P : Program} {W : World} {base : Nat} {spare : Nat → Bool} {held : Bool}
theorem nat_word {n : Int} (h : (Lit.int .u64 n).wf = true) : U64 n := by
  simp only [Lit.wf, Bool.and_eq_true, decide_eq_true_eq] at h
  exact U64.of h
theorem nat_oct {n : Int} (h : (Lit.int .u8 n).wf = true) : ∃ k : Nat, n = (k : Int) ∧ k < 256 := by
  simp only [Lit.wf, Bool.and_eq_true, decide_eq_true_eq] at h
  obtain ⟨h1, h2⟩ : 0 ≤ n ∧ n ≤ 255 := h
  exact ⟨n.toNat, by omega, by omega⟩
theorem n128_low {a b : Int} (ha : U64 a) (hb : U64 b) : wlo (N128 a b) = a ∧ whi (N128 a b) = b := by
  obtain ⟨x, rfl, hx⟩ := ha.nat
  obtain ⟨y, rfl, hy⟩ := hb.nat
  unfold wlo whi
  rw [n128]
  constructor <;> omega
theorem pairs_of {t e : TypeId} {f0 f1 : Field} {a : Option Addr} {len cap : Nat} {d : DataW H} {ps : List MemPlace} (ht : P.underlying t = some (.slice e)) (he : P.underlying e = some (.struct #[f0, f1]))
    (ce : P.cellsOf e = 2) (o0 : f0.offset = 0) (o1 : f1.offset = 1) (c0 : P.cellsOf f0.type = 1) (c1 : P.cellsOf f1.type = 1) (k0 : P.underlying f0.type = some (.int .u64)) (k1 : P.underlying f1.type = some (.int .u64))
    (h : DataW.Trod enc P W base spare held t (.slice a len cap) d ps) : ∃ rs0 : Nat → Nat, (∀ i, rs0 i < 340282366920938463463374607431768211456) ∧ Pairs W a len rs0 := by
  obtain ⟨fuel, hf⟩ := h
  rcases open_slice_pairs ht he ce o0 o1 c0 c1 hf with ⟨hcs, _⟩ | ⟨x, l, c, m, n, V0, V1, D0, D1, P0, P1, hcs, _, hl, hm, hmm, _, hx⟩
  · simp [Value.cells] at hcs
    obtain ⟨rfl, rfl, rfl⟩ := hcs
    exact ⟨fun _ => 0, fun _ => show 0 < _ by decide, fun h => absurd h (by omega)⟩
  · simp [Value.cells] at hcs
    obtain ⟨rfl, rfl, rfl⟩ := hcs
    have hlm : len ≤ m := by rw [hmm]; split <;> omega
    have each : ∀ i, i < len → ∃ q : Nat, q < 340282366920938463463374607431768211456 ∧ W.cell? (x.add (i * 2)) = some (.int .u64 (wlo q)) ∧ W.cell? (x.add (i * 2 + 1)) = some (.int .u64 (whi q)) := by
      intro i hi
      obtain ⟨h0, h1, t0, t1⟩ := hx i (by omega)
      obtain ⟨n0, e0, _, w0⟩ := DataW.trod_int k0 t0
      obtain ⟨n1, e1, _, w1⟩ := DataW.trod_int k1 t1
      simp at e0 e1
      obtain ⟨g0, g1⟩ := n128_low (nat_word w0) (nat_word w1)
      exact ⟨N128 n0 n1, N128_lt (nat_word w0) (nat_word w1), by rw [h0, e0, g0], by rw [h1, e1, g1]⟩
    have hc : ∀ i, ∃ q : Nat, q < 340282366920938463463374607431768211456 ∧ (i < len → W.cell? (x.add (i * 2)) = some (.int .u64 (wlo q)) ∧ W.cell? (x.add (i * 2 + 1)) = some (.int .u64 (whi q))) := fun i => by
      by_cases hi : i < len
      · obtain ⟨q, h1, h2⟩ := each i hi
        exact ⟨q, h1, fun _ => h2⟩
      · exact ⟨0, by decide, fun hh => absurd hh hi⟩
    obtain ⟨F, hF⟩ := Classical.axiomOfChoice hc
    refine ⟨F, fun i => (hF i).1, fun hp => ?_⟩
    have hs : x.spot = none := by
      have h0 := ((hF 0).2 hp).1
      rw [show x.add (0 * 2) = x from rfl] at h0
      exact spot_of h0
    refine ⟨x.block, x.off, by cases x; simp_all, fun W' hW i hi => ?_⟩
    obtain ⟨h1, h2⟩ := (hF i).2 hi
    rw [addr_of hs] at h1 h2
    exact ⟨(hW.cell (World.block_lt_of_cell? W _ h1)).trans h1, (hW.cell (World.block_lt_of_cell? W _ h2)).trans h2⟩
theorem quads_of {t e : TypeId} {f0 f1 f2 f3 : Field} {a : Option Addr} {len cap : Nat} {d : DataW H} {ps : List MemPlace} (ht : P.underlying t = some (.slice e)) (he : P.underlying e = some (.struct #[f0, f1, f2, f3]))
    (ce : P.cellsOf e = 4) (o0 : f0.offset = 0) (o1 : f1.offset = 1) (o2 : f2.offset = 2) (o3 : f3.offset = 3) (c0 : P.cellsOf f0.type = 1) (c1 : P.cellsOf f1.type = 1) (c2 : P.cellsOf f2.type = 1) (c3 : P.cellsOf f3.type = 1)
    (k0 : P.underlying f0.type = some (.int .u8)) (k1 : P.underlying f1.type = some (.int .u8)) (k2 : P.underlying f2.type = some (.int .u8)) (k3 : P.underlying f3.type = some (.int .u8))
    (h : DataW.Trod enc P W base spare held t (.slice a len cap) d ps) : ∃ kd sa sb sn : Nat → Nat, (∀ i, kd i < 256 ∧ sa i < 256 ∧ sb i < 256 ∧ sn i < 256) ∧ Quads W a len kd sa sb sn := by
  obtain ⟨fuel, hf⟩ := h
  rcases open_slice ht hf with ⟨hcs, _⟩ | ⟨x, l, c, m, n, D, Pl, hcs, _, hl, hm, hmm, _, hx⟩
  · simp [Value.cells] at hcs
    obtain ⟨rfl, rfl, rfl⟩ := hcs
    exact ⟨fun _ => 0, fun _ => 0, fun _ => 0, fun _ => 0, fun _ => ⟨show 0 < 256 by decide, show 0 < 256 by decide, show 0 < 256 by decide, show 0 < 256 by decide⟩, fun h => absurd h (by omega)⟩
  · simp [Value.cells] at hcs
    obtain ⟨rfl, rfl, rfl⟩ := hcs
    have hlm : len ≤ m := by rw [hmm]; split <;> omega
    have each : ∀ i, i < len → ∃ q : Nat × Nat × Nat × Nat, (q.1 < 256 ∧ q.2.1 < 256 ∧ q.2.2.1 < 256 ∧ q.2.2.2 < 256) ∧ W.cell? (x.add (i * 4)) = some (.int .u8 (q.1 : Int)) ∧ W.cell? (x.add (i * 4 + 1)) = some (.int .u8 (q.2.1 : Int)) ∧ W.cell? (x.add (i * 4 + 2)) = some (.int .u8 (q.2.2.1 : Int)) ∧ W.cell? (x.add (i * 4 + 3)) = some (.int .u8 (q.2.2.2 : Int)) := by
      intro i hi
      obtain ⟨cs', h1, h2⟩ := hx i (by omega)
      rw [ce] at h1
      obtain ⟨_, hlen, hcell⟩ := World.cells?_some h1
      obtain ⟨xs, k, hk, hxy, _, hxl, hf⟩ := DataW.trod_struct he h2
      match xs, hxl, cs', hlen with
      | [y0, y1, y2, y3], _, [v0, v1, v2, v3], _ =>
        have g0 := hf 0 f0 rfl
        have g1 := hf 1 f1 rfl
        have g2 := hf 2 f2 rfl
        have g3 := hf 3 f3 rfl
        simp [o0, o1, o2, o3, c0, c1, c2, c3] at g0 g1 g2 g3
        have e0 := hcell 0 (by omega)
        have e1 := hcell 1 (by omega)
        have e2 := hcell 2 (by omega)
        have e3 := hcell 3 (by omega)
        rw [Deep.add_add] at e0 e1 e2 e3
        obtain ⟨n0, r0, _, w0⟩ := DataW.trod_int k0 g0
        obtain ⟨n1, r1, _, w1⟩ := DataW.trod_int k1 g1
        obtain ⟨n2, r2, _, w2⟩ := DataW.trod_int k2 g2
        obtain ⟨n3, r3, _, w3⟩ := DataW.trod_int k3 g3
        simp at r0 r1 r2 r3
        obtain ⟨b0, rfl, l0⟩ := nat_oct w0
        obtain ⟨b1, rfl, l1⟩ := nat_oct w1
        obtain ⟨b2, rfl, l2⟩ := nat_oct w2
        obtain ⟨b3, rfl, l3⟩ := nat_oct w3
        subst r0 r1 r2 r3
        exact ⟨(b0, b1, b2, b3), ⟨l0, l1, l2, l3⟩, by simpa using e0, by simpa using e1, by simpa using e2, by simpa using e3⟩
    have hc : ∀ i, ∃ q : Nat × Nat × Nat × Nat, (q.1 < 256 ∧ q.2.1 < 256 ∧ q.2.2.1 < 256 ∧ q.2.2.2 < 256) ∧ (i < len → W.cell? (x.add (i * 4)) = some (.int .u8 (q.1 : Int)) ∧ W.cell? (x.add (i * 4 + 1)) = some (.int .u8 (q.2.1 : Int)) ∧ W.cell? (x.add (i * 4 + 2)) = some (.int .u8 (q.2.2.1 : Int)) ∧ W.cell? (x.add (i * 4 + 3)) = some (.int .u8 (q.2.2.2 : Int))) := fun i => by
      by_cases hi : i < len
      · obtain ⟨q, h1, h2⟩ := each i hi
        exact ⟨q, h1, fun _ => h2⟩
      · exact ⟨(0, 0, 0, 0), by decide, fun hh => absurd hh hi⟩
    obtain ⟨F, hF⟩ := Classical.axiomOfChoice hc
    refine ⟨fun i => (F i).1, fun i => (F i).2.1, fun i => (F i).2.2.1, fun i => (F i).2.2.2, fun i => (hF i).1, fun hp => ?_⟩
    have hs : x.spot = none := by
      have h0 := ((hF 0).2 hp).1
      rw [show x.add (0 * 4) = x from rfl] at h0
      exact spot_of h0
    refine ⟨x.block, x.off, by cases x; simp_all, fun W' hW i hi => ?_⟩
    obtain ⟨h1, h2, h3, h4⟩ := (hF i).2 hi
    rw [addr_of hs] at h1 h2 h3 h4
    exact ⟨(hW.cell (World.block_lt_of_cell? W _ h1)).trans h1, (hW.cell (World.block_lt_of_cell? W _ h2)).trans h2, (hW.cell (World.block_lt_of_cell? W _ h3)).trans h3, (hW.cell (World.block_lt_of_cell? W _ h4)).trans h4⟩
end
end Go.Proofs.YtiifnofghicnaaaDoor.PAll
