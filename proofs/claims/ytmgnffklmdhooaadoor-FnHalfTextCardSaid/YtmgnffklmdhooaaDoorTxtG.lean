/- TxtG: HtHs, HtHalf, HtChk, HtText, HtNaT. -/
import Derived.Test.YtmgnffklmdhooaaDoorTxtA
import Derived.Test.YtmgnffklmdhooaaDoorTxtF
import Derived.Test.YtmgnffklmdhooaaDoorPAllx4
import Derived.Test.YtmgnffklmdhooaaDoorPAllx1
import Derived.Test.YtmgnffklmdhooaaDoorTxtD
namespace Go.Proofs.YtmgnffklmdhooaaDoor.PAll
open Go.RowKit Go.Proofs.YtmgnffklmdhooaaDoorW.PrintWords Go.Proofs.YtmgnffklmdhooaaDoorW.PrintLast Go.Proofs.YtmgnffklmdhooaaDoorW.PrintMore
set_option linter.unusedVariables false
set_option linter.unusedSimpArgs false
theorem dg_add_len (a b : Nat) : (dg (a + b)).length ≤ (dg a).length + (dg b).length + 1 := by
  refine dg_len_le ?_
  have h1 := dg_lt a
  have h2 := dg_lt b
  have h3 : 10 ^ (dg a).length ≤ 10 ^ ((dg a).length + (dg b).length) := Nat.pow_le_pow_right (by decide) (by omega)
  have h4 : 10 ^ (dg b).length ≤ 10 ^ ((dg a).length + (dg b).length) := Nat.pow_le_pow_right (by decide) (by omega)
  rw [Nat.pow_succ]
  omega
theorem dg_two_len (a : Nat) : (dg (a * 2)).length ≤ (dg a).length + 1 := by
  refine dg_len_le ?_
  have h1 := dg_lt a
  rw [Nat.pow_succ]
  omega
theorem dg_ten_len (n : Nat) : (dg (10 ^ n)).length ≤ n + 1 := dg_len_le (Nat.pow_lt_pow_right (by decide) (by omega))
theorem a_2m (m : Nat) (h1 : 1 ≤ m) (h : m < 100000000) : IntKind.i64.wrap ((IntKind.i64.wrap (2 * ((m : Nat) : Int))) - 1) = ((2 * m - 1 : Nat) : Int) := by
  rw [IntKind.wrap_i64, IntKind.wrap_i64]
  omega
theorem a_2p (m : Nat) (h : m < 100000000) : IntKind.i64.wrap ((IntKind.i64.wrap (2 * ((m : Nat) : Int))) + 1) = ((2 * m + 1 : Nat) : Int) := by
  rw [IntKind.wrap_i64, IntKind.wrap_i64]
  omega
theorem a_4m (m : Nat) (h1 : 1 ≤ m) (h : m < 100000000) : IntKind.i64.wrap ((IntKind.i64.wrap (4 * ((m : Nat) : Int))) - 1) = ((4 * m - 1 : Nat) : Int) := by
  rw [IntKind.wrap_i64, IntKind.wrap_i64]
  omega
theorem a_e1 (E : Nat) (h : E ≤ 100) : IntKind.i64.wrap ((-((E : Nat) : Int)) - 1) = (-((E + 1 : Nat) : Int)) := by
  rw [IntKind.wrap_i64]
  omega
theorem a_e2 (E : Nat) (h : E ≤ 100) : IntKind.i64.wrap ((-((E : Nat) : Int)) - 2) = (-((E + 2 : Nat) : Int)) := by
  rw [IntKind.wrap_i64]
  omega
theorem a_gt (E : Nat) (h : E ≤ 100) : decide ((-((E : Nat) : Int)) > (-149)) = true := decide_eq_true (by omega)
theorem a_eq (m : Nat) (h : m = 8388608) : (((m : Nat) : Int) == 8388608) = true := beq_iff_eq.mpr (by omega)
theorem a_ne (m : Nat) (h : m ≠ 8388608) : (((m : Nat) : Int) == 8388608) = false := beq_eq_false_iff_ne.mpr (by omega)
theorem a_lt (n : Nat) (m : Nat) (h : m < 100000000) (hn : n ≤ 4) : n * m - 1 < 1000000000000 := by
  have : n * m ≤ 4 * m := Nat.mul_le_mul_right _ hn
  omega
theorem a_E (E k : Nat) (h : E ≤ 100) (hk : k ≤ 2) : E + k ≤ 200 := by omega
noncomputable def hsT : Code := match Tryd.f10.body with
  | some (.seq _ (.seq _ (.seq _ z))) => z
  | _ => .skip
noncomputable def hsL6 : Code := match hsT with
  | .seq _ (.seq _ (.seq (.block _ (.loop c)) _)) => c
  | _ => .skip
theorem hsF0 : hsOps[0]? = some (hsO 0) ∧ (hsO 0).guard = none ∧ (hsO 0).dst = some 15 ∧ (hsO 0).op = .load 2 (.tmp 4) := ⟨by kernel_rfl, by kernel_rfl, by kernel_rfl, by kernel_rfl⟩
theorem hsF6 : hsOps[6]? = some (hsO 6) ∧ (hsO 6).guard = none ∧ (hsO 6).dst = some 21 ∧ (hsO 6).op = .load 2 (.tmp 4) := ⟨by kernel_rfl, by kernel_rfl, by kernel_rfl, by kernel_rfl⟩
set_option maxHeartbeats 8000000 in
set_option maxRecDepth 100000 in
theorem hs6 {Q : Exit → Act → World → Prop} (bm b7 b8 E x last : Nat) (A : Option Addr) (c : Nat) (ok : Nat → Prop) (W : World) (hx : DV ok W (.slice A (dg x).length c) x) (hlt : last < (dg x).length) (hlen : (dg x).length < 900) (h0s : ∀ i, i < last → rd (dg x) (i : Int) = 0) (hne : rd (dg x) (last : Int) ≠ 0) : ∀ rem i, i + rem = last → ∀ (a0 : Act), Has 102 (bn []) [(0, .v (.slice A (dg x).length c)), (2, vi (-((E : Nat) : Int))), (4, vp bm), (9, .v (.func (.func 17) #[] #[.pointer (some ⟨b7, 0, none⟩), .pointer (some ⟨b8, 0, none⟩), .pointer (some ⟨bm, 0, none⟩)])), (10, vi ↑i)] a0 → a0.defers = [] →
    (∀ (a' : Act), Has 102 (bn []) [(0, .v (.slice A (dg x).length c)), (2, vi (-((E : Nat) : Int))), (4, vp bm), (9, .v (.func (.func 17) #[] #[.pointer (some ⟨b7, 0, none⟩), .pointer (some ⟨b8, 0, none⟩), .pointer (some ⟨bm, 0, none⟩)])), (10, vi ↑last)] a' → a'.defers = [] → Q (.exit 0) a' W) → Code.rounds Tryd.prog hsL6 Q (rem + 1) a0 W := by
  intro rem
  induction rem with
  | zero =>
    intro i hi a0 h0 d0 hex
    obtain rfl : i = last := by omega
    obtain ⟨ad, hA, hcell⟩ := hx.digit hlt
    subst hA
    have ht : ((rd (dg x) (i : Int) : Int) == 0) = false := beq_eq_false_iff_ne.mpr hne
    rw [rounds_succ]
    refine wp_seq ?_
    refine wp_seq (wp_region ?_)
    refine oP 102 [2, 3, 4, 5, 6, 7, 8, 9, 10] [0, 1] [(0, .v (.slice (some ad) (dg x).length c)), (2, vi (-((E : Nat) : Int))), (4, vp bm), (9, .v (.func (.func 17) #[] #[.pointer (some ⟨b7, 0, none⟩), .pointer (some ⟨b8, 0, none⟩), .pointer (some ⟨bm, 0, none⟩)])), (10, vi ↑i), (40, vi ↑i), (41, .v (.slice (some ad) (dg x).length c))] h0 d0 (fun a1 h1 d1 => ?_)
    clear h0 d0
    refine gW (s := vi (((dg x).length : Nat) : Int)) 102 [3, 4, 5, 6, 7, 8, 9, 10] h1 d1 rfl (want_ rfl) rfl (by decide) (op_len rfl Tryd.underlying29 (h1.2 41 _ rfl)) (fun a2 h2 d2 => ?_)
    clear h1 d1
    refine oP 102 [4, 5, 6, 7, 8, 9, 10] [3] [(0, .v (.slice (some ad) (dg x).length c)), (2, vi (-((E : Nat) : Int))), (4, vp bm), (9, .v (.func (.func 17) #[] #[.pointer (some ⟨b7, 0, none⟩), .pointer (some ⟨b8, 0, none⟩), .pointer (some ⟨bm, 0, none⟩)])), (10, vi ↑i), (40, vi ↑i), (41, .v (.slice (some ad) (dg x).length c)), (42, vi (((dg x).length : Nat) : Int)), (43, vb (decide ((((i : Nat) : Int) : Int) < (((dg x).length : Nat) : Int))))] h2 d2 (fun a3 h3 d3 => ?_)
    clear h2 d2
    rw [show (decide ((((i : Nat) : Int) : Int) < (((dg x).length : Nat) : Int))) = true from decide_eq_true (by omega)] at h3
    refine oP 102 [5, 6, 7, 8, 9, 10] [4] [(0, .v (.slice (some ad) (dg x).length c)), (2, vi (-((E : Nat) : Int))), (4, vp bm), (9, .v (.func (.func 17) #[] #[.pointer (some ⟨b7, 0, none⟩), .pointer (some ⟨b8, 0, none⟩), .pointer (some ⟨bm, 0, none⟩)])), (10, vi ↑i), (40, vi ↑i), (41, .v (.slice (some ad) (dg x).length c)), (42, vi (((dg x).length : Nat) : Int)), (43, vb true), (44, vb true)] h3 d3 (fun a4 h4 d4 => ?_)
    clear h3 d3
    refine guard_ops (N := 102) (T := TT) (M := (fun _ _ => none)) tabOk (i := 5) (d := 45) (j := 4) (dj := 44) (b := true) (s := .v (.slice (some ad) (dg x).length c)) (l := [6, 7, 8, 9, 10]) (fun _ _ _ h => by cases h) rfl rfl rfl rfl rfl (by decide) h4 (by kernel_rfl) (fun a5 h5 d5 => ?_)
    replace d5 := d5.trans d4
    clear h4 d4
    refine guard_ops (N := 102) (T := TT) (M := (fun _ _ => none)) tabOk (i := 6) (d := 46) (j := 4) (dj := 44) (b := true) (s := vi ↑i) (l := [7, 8, 9, 10]) (fun _ _ _ h => by cases h) rfl rfl rfl rfl rfl (by decide) h5 (by kernel_rfl) (fun a6 h6 d6 => ?_)
    replace d6 := d6.trans d5
    clear h5 d5
    refine gW (s := .v (.pointer (some (ad.add i)))) 102 [8, 9, 10] h6 d6 rfl (want_g h6 (j := 4) (d := 44) (b := true) rfl rfl rfl) rfl (by decide) (op_indexA rfl (h6.2 45 _ rfl) (h6.2 46 _ rfl) Tryd.underlying29 Tryd.sizeOf3 (by omega)) (fun a7 h7 d7 => ?_)
    clear h6 d6
    refine gW (s := vi (rd (dg x) (i : Int))) 102 [9, 10] h7 d7 rfl (want_g h7 (j := 4) (d := 44) (b := true) rfl rfl rfl) rfl (by decide) (op_load rfl (h7.2 47 _ rfl) Tryd.isAgg3 hcell) (fun a8 h8 d8 => ?_)
    clear h7 d7
    refine guard_ops (N := 102) (T := TT) (M := (fun _ _ => none)) tabOk (i := 9) (d := 49) (j := 4) (dj := 44) (b := true) (s := vb (((rd (dg x) (i : Int)) : Int) == 0)) (l := [10]) (fun _ _ _ h => by cases h) rfl rfl rfl rfl rfl (by decide) h8 (by kernel_rfl) (fun a9 h9 d9 => ?_)
    replace d9 := d9.trans d8
    clear h8 d8
    rw [show (((rd (dg x) (i : Int)) : Int) == 0) = false from ht] at h9
    refine gW (s := vb false) 102 [] h9 d9 rfl (want_ rfl) rfl (by decide) (op_pickT rfl (h9.2 44 _ rfl) (h9.2 49 _ rfl)) (fun a10 h10 d10 => ?_)
    clear h9 d9
    show Code.wp _ _ _ _ _
    refine wp_cond_false (h10.2 50 _ rfl) ?_
    refine wp_exit ?_
    refine then_exit (then_exit ?_)
    exact hex a10 (sub_ok h10 sE) d10
  | succ rem ih =>
    intro i hi a0 h0 d0 hex
    obtain ⟨ad, hA, hcell⟩ := hx.digit (i := i) (by omega)
    subst hA
    have ht : ((rd (dg x) (i : Int) : Int) == 0) = true := beq_iff_eq.mpr (h0s i (by omega))
    rw [rounds_succ]
    refine wp_seq ?_
    refine wp_seq (wp_region ?_)
    refine oP 102 [2, 3, 4, 5, 6, 7, 8, 9, 10] [0, 1] [(0, .v (.slice (some ad) (dg x).length c)), (2, vi (-((E : Nat) : Int))), (4, vp bm), (9, .v (.func (.func 17) #[] #[.pointer (some ⟨b7, 0, none⟩), .pointer (some ⟨b8, 0, none⟩), .pointer (some ⟨bm, 0, none⟩)])), (10, vi ↑i), (40, vi ↑i), (41, .v (.slice (some ad) (dg x).length c))] h0 d0 (fun a1 h1 d1 => ?_)
    clear h0 d0
    refine gW (s := vi (((dg x).length : Nat) : Int)) 102 [3, 4, 5, 6, 7, 8, 9, 10] h1 d1 rfl (want_ rfl) rfl (by decide) (op_len rfl Tryd.underlying29 (h1.2 41 _ rfl)) (fun a2 h2 d2 => ?_)
    clear h1 d1
    refine oP 102 [4, 5, 6, 7, 8, 9, 10] [3] [(0, .v (.slice (some ad) (dg x).length c)), (2, vi (-((E : Nat) : Int))), (4, vp bm), (9, .v (.func (.func 17) #[] #[.pointer (some ⟨b7, 0, none⟩), .pointer (some ⟨b8, 0, none⟩), .pointer (some ⟨bm, 0, none⟩)])), (10, vi ↑i), (40, vi ↑i), (41, .v (.slice (some ad) (dg x).length c)), (42, vi (((dg x).length : Nat) : Int)), (43, vb (decide ((((i : Nat) : Int) : Int) < (((dg x).length : Nat) : Int))))] h2 d2 (fun a3 h3 d3 => ?_)
    clear h2 d2
    rw [show (decide ((((i : Nat) : Int) : Int) < (((dg x).length : Nat) : Int))) = true from decide_eq_true (by omega)] at h3
    refine oP 102 [5, 6, 7, 8, 9, 10] [4] [(0, .v (.slice (some ad) (dg x).length c)), (2, vi (-((E : Nat) : Int))), (4, vp bm), (9, .v (.func (.func 17) #[] #[.pointer (some ⟨b7, 0, none⟩), .pointer (some ⟨b8, 0, none⟩), .pointer (some ⟨bm, 0, none⟩)])), (10, vi ↑i), (40, vi ↑i), (41, .v (.slice (some ad) (dg x).length c)), (42, vi (((dg x).length : Nat) : Int)), (43, vb true), (44, vb true)] h3 d3 (fun a4 h4 d4 => ?_)
    clear h3 d3
    refine guard_ops (N := 102) (T := TT) (M := (fun _ _ => none)) tabOk (i := 5) (d := 45) (j := 4) (dj := 44) (b := true) (s := .v (.slice (some ad) (dg x).length c)) (l := [6, 7, 8, 9, 10]) (fun _ _ _ h => by cases h) rfl rfl rfl rfl rfl (by decide) h4 (by kernel_rfl) (fun a5 h5 d5 => ?_)
    replace d5 := d5.trans d4
    clear h4 d4
    refine guard_ops (N := 102) (T := TT) (M := (fun _ _ => none)) tabOk (i := 6) (d := 46) (j := 4) (dj := 44) (b := true) (s := vi ↑i) (l := [7, 8, 9, 10]) (fun _ _ _ h => by cases h) rfl rfl rfl rfl rfl (by decide) h5 (by kernel_rfl) (fun a6 h6 d6 => ?_)
    replace d6 := d6.trans d5
    clear h5 d5
    refine gW (s := .v (.pointer (some (ad.add i)))) 102 [8, 9, 10] h6 d6 rfl (want_g h6 (j := 4) (d := 44) (b := true) rfl rfl rfl) rfl (by decide) (op_indexA rfl (h6.2 45 _ rfl) (h6.2 46 _ rfl) Tryd.underlying29 Tryd.sizeOf3 (by omega)) (fun a7 h7 d7 => ?_)
    clear h6 d6
    refine gW (s := vi (rd (dg x) (i : Int))) 102 [9, 10] h7 d7 rfl (want_g h7 (j := 4) (d := 44) (b := true) rfl rfl rfl) rfl (by decide) (op_load rfl (h7.2 47 _ rfl) Tryd.isAgg3 hcell) (fun a8 h8 d8 => ?_)
    clear h7 d7
    refine guard_ops (N := 102) (T := TT) (M := (fun _ _ => none)) tabOk (i := 9) (d := 49) (j := 4) (dj := 44) (b := true) (s := vb (((rd (dg x) (i : Int)) : Int) == 0)) (l := [10]) (fun _ _ _ h => by cases h) rfl rfl rfl rfl rfl (by decide) h8 (by kernel_rfl) (fun a9 h9 d9 => ?_)
    replace d9 := d9.trans d8
    clear h8 d8
    rw [show (((rd (dg x) (i : Int)) : Int) == 0) = true from ht] at h9
    refine gW (s := vb true) 102 [] h9 d9 rfl (want_ rfl) rfl (by decide) (op_pickT rfl (h9.2 44 _ rfl) (h9.2 49 _ rfl)) (fun a10 h10 d10 => ?_)
    clear h9 d9
    show Code.wp _ _ _ _ _
    refine wp_cond_true (h10.2 50 _ rfl) ?_
    refine wp_skip ?_
    show Code.wp _ _ _ _ _
    refine wp_block ?_
    refine wp_region ?_
    refine oP 102 [2] [0, 1] [(0, .v (.slice (some ad) (dg x).length c)), (2, vi (-((E : Nat) : Int))), (4, vp bm), (9, .v (.func (.func 17) #[] #[.pointer (some ⟨b7, 0, none⟩), .pointer (some ⟨b8, 0, none⟩), .pointer (some ⟨bm, 0, none⟩)])), (10, vi ↑i), (50, vb true), (51, vi ↑i), (52, vi (IntKind.i64.wrap (((i : Nat) : Int) + 1)))] h10 d10 (fun a11 h11 d11 => ?_)
    clear h10 d10
    rw [show (IntKind.i64.wrap (((i : Nat) : Int) + 1)) = ((i + 1 : Nat) : Int) from i_succ i (by omega)] at h11
    refine oP 102 [] [2] [(0, .v (.slice (some ad) (dg x).length c)), (2, vi (-((E : Nat) : Int))), (4, vp bm), (9, .v (.func (.func 17) #[] #[.pointer (some ⟨b7, 0, none⟩), .pointer (some ⟨b8, 0, none⟩), .pointer (some ⟨bm, 0, none⟩)])), (10, vi ((i + 1 : Nat) : Int)), (50, vb true)] h11 d11 (fun a12 h12 d12 => ?_)
    clear h11 d11
    show Code.rounds _ _ _ _ _ _
    exact ih (i + 1) (by omega) a12 (sub_ok h12 sE) d12 hex
set_option maxHeartbeats 8000000 in
set_option maxRecDepth 100000 in
theorem hs_tail {Q : Exit → Act → World → Prop} (w1 : World) (bm b7 b8 m E x last lo HI : Nat) (A : Option Addr) (c : Nat) (vl vh : Value) (vs : List (Value × Nat)) (hE : E ≤ 100) (hm : m < 100000000) (hlol : (dg lo).length < 900) (hHl : (dg HI).length < 900) (hxl : (dg x).length < 900) (hVl : (dg (m * 10 ^ (200 - E) * 5 ^ E)).length < 900) (hlt : last < (dg x).length) (h0s : ∀ i, i < last → rd (dg x) (i : Int) = 0) (hne : rd (dg x) (last : Int) ≠ 0)
    (hin : inB lo HI m x = true) (hs1 : inB lo HI m (x / 10 ^ (last + 1) * 10 ^ (last + 1)) = false) (hs2 : inB lo HI m (x / 10 ^ (last + 1) * 10 ^ (last + 1) + 10 ^ (last + 1)) = false) (hc1 : cmpI (m * 10 ^ (200 - E) * 5 ^ E * 2) (x * 2 + 10 ^ last) ≤ 0) (hc2 : cmpI (x * 2) (m * 10 ^ (200 - E) * 5 ^ E * 2 + 10 ^ last) ≤ 0)
    (a0 : Act) (W0 : World) (h0 : Has 102 (bn []) [(0, .v (.slice A (dg x).length c)), (2, vi (-((E : Nat) : Int))), (4, vp bm), (7, vp b7), (8, vp b8)] a0) (d0 : a0.defers = []) (hI0 : Iv w1 bm m [b7, b8] ((vl, lo) :: (vh, HI) :: ((.slice A (dg x).length c), x) :: vs) W0) (c70 : W0.cell? ⟨b7, 0, none⟩ = some vl) (c80 : W0.cell? ⟨b8, 0, none⟩ = some vh)
    (hret : ∀ (a : Act) (W : World), Has 102 (bn []) [(6, vb true)] a → a.defers = [] → Below w1.heap.size w1 W → Code.wp Tryd.prog .ret Q a W) : Code.wp Tryd.prog hsT Q a0 W0 := by
  have hcl : (dg (x / 10 ^ (last + 1) * 10 ^ (last + 1))).length < 900 := by
    have := dg_mono (Nat.div_mul_le_self x (10 ^ (last + 1)))
    omega
  have hpl := dg_add_len (x / 10 ^ (last + 1) * 10 ^ (last + 1)) (10 ^ (last + 1))
  have htl := dg_ten_len (last + 1)
  have htl2 := dg_ten_len last
  have hx2 := dg_two_len x
  have hV2 := dg_two_len (m * 10 ^ (200 - E) * 5 ^ E)
  have hp1 := dg_add_len (x * 2) (10 ^ last)
  have hp2 := dg_add_len (m * 10 ^ (200 - E) * 5 ^ E * 2) (10 ^ last)
  refine wp_seq (wp_region ?_)
  refine gW (s := .v (.func (.func 17) #[] #[.pointer (some ⟨b7, 0, none⟩), .pointer (some ⟨b8, 0, none⟩), .pointer (some ⟨bm, 0, none⟩)])) 102 [1] h0 d0 rfl (want_ rfl) rfl (by decide) (op_clo rfl (h0.2 7 _ rfl) (h0.2 8 _ rfl) (h0.2 4 _ rfl)) (fun a1 h1 d1 => ?_)
  clear h0 d0
  refine oP 102 [] [1] [(0, .v (.slice A (dg x).length c)), (2, vi (-((E : Nat) : Int))), (4, vp bm), (7, vp b7), (8, vp b8), (9, .v (.func (.func 17) #[] #[.pointer (some ⟨b7, 0, none⟩), .pointer (some ⟨b8, 0, none⟩), .pointer (some ⟨bm, 0, none⟩)]))] h1 d1 (fun a2 h2 d2 => ?_)
  clear h1 d1
  show Code.wp _ _ _ _ _
  refine wp_seq (wp_region ?_)
  refine oP 102 [] [0] [(0, .v (.slice A (dg x).length c)), (2, vi (-((E : Nat) : Int))), (4, vp bm), (7, vp b7), (8, vp b8), (9, .v (.func (.func 17) #[] #[.pointer (some ⟨b7, 0, none⟩), .pointer (some ⟨b8, 0, none⟩), .pointer (some ⟨bm, 0, none⟩)])), (10, vi 0)] h2 d2 (fun a3 h3 d3 => ?_)
  clear h2 d2
  show Code.wp _ _ _ _ _
  refine wp_seq ?_
  refine wp_block ?_
  refine wp_loop_rounds (last + 1) ?_
  refine hs6 bm b7 b8 E x last A c _ W0 (hI0.val ((.slice A (dg x).length c), x) (by simp)) hlt hxl h0s hne last 0 (by omega) a3 (sub_ok (E := [(0, .v (.slice A (dg x).length c)), (2, vi (-((E : Nat) : Int))), (4, vp bm), (9, .v (.func (.func 17) #[] #[.pointer (some ⟨b7, 0, none⟩), .pointer (some ⟨b8, 0, none⟩), .pointer (some ⟨bm, 0, none⟩)])), (10, vi ((0 : Nat) : Int))]) h3 sE) d3 (fun a4 h4 d4 => ?_)
  refine exit_in ?_
  show Code.wp _ _ _ _ _
  refine wp_seq ?_
  refine wp_seq (wp_region ?_)
  refine oP 102 [2, 3, 4, 5, 6, 7, 8, 9] [0, 1] [(0, .v (.slice A (dg x).length c)), (2, vi (-((E : Nat) : Int))), (4, vp bm), (9, .v (.func (.func 17) #[] #[.pointer (some ⟨b7, 0, none⟩), .pointer (some ⟨b8, 0, none⟩), .pointer (some ⟨bm, 0, none⟩)])), (10, vi ↑last), (53, .v (.func (.func 17) #[] #[.pointer (some ⟨b7, 0, none⟩), .pointer (some ⟨b8, 0, none⟩), .pointer (some ⟨bm, 0, none⟩)])), (54, .v (.slice A (dg x).length c))] h4 d4 (fun a5 h5 d5 => ?_)
  clear h4 d4
  refine cloW_ops (N := 102) (i := 2) (d := 55) (f := 17) (t := 53) (v := (.slice A (dg x).length c)) (caps := #[.pointer (some ⟨b7, 0, none⟩), .pointer (some ⟨b8, 0, none⟩), .pointer (some ⟨bm, 0, none⟩)]) (l := [3, 4, 5, 6, 7, 8, 9]) rfl (want_ rfl) rfl (by decide) h5 Tryd.func17 rfl rfl rfl (h5.2 53 _ rfl) (h5.2 54 _ rfl) (fun v W' => v = .bool true ∧ Below (W0).heap.size W0 W') ((clo_walk lo HI m (x) (by omega) (by omega) (by omega) b7 b8 bm W0 _ _ _ (hI0.val ((.slice A (dg x).length c), x) (by simp)) (hI0.val (vl, lo) (by simp)) (hI0.val (vh, HI) (by simp)) c70 c80 hI0.mm).mono fun e w' hh => ⟨_, hh.1, by rw [hin], hh.2⟩) (fun v6 W6 a6 hR6 h6 d6 => ?_)
  replace d6 := d6.trans d5
  clear h5 d5
  obtain ⟨rfl, B6⟩ := hR6
  have hI6 := hI0.step B6
  have c76 : W6.cell? _ = some _ := (B6.cell (World.block_lt_of_cell? _ _ c70)).trans c70
  have c86 : W6.cell? _ = some _ := (B6.cell (World.block_lt_of_cell? _ _ c80)).trans c80
  clear hI0 c70 c80
  refine oP 102 [5, 6, 7, 8, 9] [3, 4] [(0, .v (.slice A (dg x).length c)), (2, vi (-((E : Nat) : Int))), (4, vp bm), (9, .v (.func (.func 17) #[] #[.pointer (some ⟨b7, 0, none⟩), .pointer (some ⟨b8, 0, none⟩), .pointer (some ⟨bm, 0, none⟩)])), (10, vi ↑last), (53, .v (.func (.func 17) #[] #[.pointer (some ⟨b7, 0, none⟩), .pointer (some ⟨b8, 0, none⟩), .pointer (some ⟨bm, 0, none⟩)])), (54, .v (.slice A (dg x).length c)), (55, vb true), (56, vb false), (57, vb false)] h6 d6 (fun a7 h7 d7 => ?_)
  clear h6 d6
  refine guard_ops (N := 102) (T := TT) (M := (fun _ _ => none)) tabOk (i := 5) (d := 58) (j := 4) (dj := 57) (b := false) (s := vi ↑last) (l := [6, 7, 8, 9]) (fun _ _ _ h => by cases h) rfl rfl rfl rfl rfl (by decide) h7 (by kernel_rfl) (fun a8 h8 d8 => ?_)
  replace d8 := d8.trans d7
  clear h7 d7
  refine guard_ops (N := 102) (T := TT) (M := (fun _ _ => none)) tabOk (i := 6) (d := 59) (j := 4) (dj := 57) (b := false) (s := .v (.slice A (dg x).length c)) (l := [7, 8, 9]) (fun _ _ _ h => by cases h) rfl rfl rfl rfl rfl (by decide) h8 (by kernel_rfl) (fun a9 h9 d9 => ?_)
  replace d9 := d9.trans d8
  clear h8 d8
  refine gW (s := vi (((dg x).length : Nat) : Int)) 102 [8, 9] h9 d9 rfl (want_g h9 (j := 4) (d := 57) (b := false) rfl rfl rfl) rfl (by decide) (op_len rfl Tryd.underlying29 (h9.2 59 _ rfl)) (fun a10 h10 d10 => ?_)
  clear h9 d9
  refine guard_ops (N := 102) (T := TT) (M := (fun _ _ => none)) tabOk (i := 8) (d := 61) (j := 4) (dj := 57) (b := false) (s := vb ((((last : Nat) : Int) : Int) == (((dg x).length : Nat) : Int))) (l := [9]) (fun _ _ _ h => by cases h) rfl rfl rfl rfl rfl (by decide) h10 (by kernel_rfl) (fun a11 h11 d11 => ?_)
  replace d11 := d11.trans d10
  clear h10 d10
  rw [show ((((last : Nat) : Int) : Int) == (((dg x).length : Nat) : Int)) = false from beq_eq_false_iff_ne.mpr (by omega)] at h11
  refine gW (s := vb false) 102 [] h11 d11 rfl (want_ rfl) rfl (by decide) (op_pickF rfl (h11.2 57 _ rfl) (h11.2 61 _ rfl)) (fun a12 h12 d12 => ?_)
  clear h11 d11
  show Code.wp _ _ _ _ _
  refine wp_cond_false (h12.2 62 _ rfl) ?_
  refine wp_skip ?_
  show Code.wp _ _ _ _ _
  refine wp_seq (wp_region ?_)
  refine oP 102 [3, 4] [0, 1, 2] [(0, .v (.slice A (dg x).length c)), (2, vi (-((E : Nat) : Int))), (4, vp bm), (9, .v (.func (.func 17) #[] #[.pointer (some ⟨b7, 0, none⟩), .pointer (some ⟨b8, 0, none⟩), .pointer (some ⟨bm, 0, none⟩)])), (10, vi ↑last), (62, vb false), (63, .v (.slice A (dg x).length c)), (64, vi ↑last), (65, vi (IntKind.i64.wrap (((last : Nat) : Int) + 1)))] h12 d12 (fun a13 h13 d13 => ?_)
  clear h12 d12
  rw [show (IntKind.i64.wrap (((last : Nat) : Int) + 1)) = ((last + 1 : Nat) : Int) from i_succ last (by omega)] at h13
  refine callW_ops (N := 102) (i := 3) (d := 66) (f := 19) (args := [.v (.slice A (dg x).length c), vi ((last + 1 : Nat) : Int)]) (l := [4]) rfl (want_ rfl) rfl (by decide) h13 Tryd.func19 rfl rfl rfl (by kernel_rfl) (Ans W6 (x / 10 ^ (last + 1) * 10 ^ (last + 1))) (cut_walk x (last + 1) (by omega) (by omega) W6 _ (hI6.val ((.slice A (dg x).length c), x) (by simp))) (fun v14 W14 a14 hR14 h14 d14 => ?_)
  replace d14 := d14.trans d13
  clear h13 d13
  have hI14 := hI6.add hR14
  have c714 : W14.cell? _ = some _ := (hR14.2.cell (World.block_lt_of_cell? _ _ c76)).trans c76
  have c814 : W14.cell? _ = some _ := (hR14.2.cell (World.block_lt_of_cell? _ _ c86)).trans c86
  clear hI6 c76 c86
  refine oP 102 [] [4] [(0, .v (.slice A (dg x).length c)), (2, vi (-((E : Nat) : Int))), (4, vp bm), (9, .v (.func (.func 17) #[] #[.pointer (some ⟨b7, 0, none⟩), .pointer (some ⟨b8, 0, none⟩), .pointer (some ⟨bm, 0, none⟩)])), (10, vi ↑last), (11, .v v14), (62, vb false)] h14 d14 (fun a15 h15 d15 => ?_)
  clear h14 d14
  show Code.wp _ _ _ _ _
  refine wp_seq ?_
  refine wp_seq (wp_region ?_)
  refine oP 102 [2, 3, 4, 5, 6, 7, 8, 9, 10, 11] [0, 1] [(0, .v (.slice A (dg x).length c)), (2, vi (-((E : Nat) : Int))), (4, vp bm), (9, .v (.func (.func 17) #[] #[.pointer (some ⟨b7, 0, none⟩), .pointer (some ⟨b8, 0, none⟩), .pointer (some ⟨bm, 0, none⟩)])), (10, vi ↑last), (11, .v v14), (62, vb false), (67, .v (.func (.func 17) #[] #[.pointer (some ⟨b7, 0, none⟩), .pointer (some ⟨b8, 0, none⟩), .pointer (some ⟨bm, 0, none⟩)])), (68, .v v14)] h15 d15 (fun a16 h16 d16 => ?_)
  clear h15 d15
  refine cloW_ops (N := 102) (i := 2) (d := 69) (f := 17) (t := 67) (v := v14) (caps := #[.pointer (some ⟨b7, 0, none⟩), .pointer (some ⟨b8, 0, none⟩), .pointer (some ⟨bm, 0, none⟩)]) (l := [3, 4, 5, 6, 7, 8, 9, 10, 11]) rfl (want_ rfl) rfl (by decide) h16 Tryd.func17 rfl rfl rfl (h16.2 67 _ rfl) (h16.2 68 _ rfl) (fun v W' => v = .bool false ∧ Below (W14).heap.size W14 W') ((clo_walk lo HI m (x / 10 ^ (last + 1) * 10 ^ (last + 1)) (by omega) (by omega) (by omega) b7 b8 bm W14 _ _ _ (hI14.val (v14, x / 10 ^ (last + 1) * 10 ^ (last + 1)) (by simp)) (hI14.val (vl, lo) (by simp)) (hI14.val (vh, HI) (by simp)) c714 c814 hI14.mm).mono fun e w' hh => ⟨_, hh.1, by rw [hs1], hh.2⟩) (fun v17 W17 a17 hR17 h17 d17 => ?_)
  replace d17 := d17.trans d16
  clear h16 d16
  obtain ⟨rfl, B17⟩ := hR17
  have hI17 := hI14.step B17
  have c717 : W17.cell? _ = some _ := (B17.cell (World.block_lt_of_cell? _ _ c714)).trans c714
  have c817 : W17.cell? _ = some _ := (B17.cell (World.block_lt_of_cell? _ _ c814)).trans c814
  clear hI14 c714 c814
  refine oP 102 [4, 5, 6, 7, 8, 9, 10, 11] [3] [(0, .v (.slice A (dg x).length c)), (2, vi (-((E : Nat) : Int))), (4, vp bm), (9, .v (.func (.func 17) #[] #[.pointer (some ⟨b7, 0, none⟩), .pointer (some ⟨b8, 0, none⟩), .pointer (some ⟨bm, 0, none⟩)])), (10, vi ↑last), (11, .v v14), (62, vb false), (67, .v (.func (.func 17) #[] #[.pointer (some ⟨b7, 0, none⟩), .pointer (some ⟨b8, 0, none⟩), .pointer (some ⟨bm, 0, none⟩)])), (68, .v v14), (69, vb false), (70, vb false)] h17 d17 (fun a18 h18 d18 => ?_)
  clear h17 d17
  refine guard_ops (N := 102) (T := TT) (M := (fun _ _ => none)) tabOk (i := 4) (d := 71) (j := 3) (dj := 70) (b := false) (s := .v (.func (.func 17) #[] #[.pointer (some ⟨b7, 0, none⟩), .pointer (some ⟨b8, 0, none⟩), .pointer (some ⟨bm, 0, none⟩)])) (l := [5, 6, 7, 8, 9, 10, 11]) (fun _ _ _ h => by cases h) rfl rfl rfl rfl rfl (by decide) h18 (by kernel_rfl) (fun a19 h19 d19 => ?_)
  replace d19 := d19.trans d18
  clear h18 d18
  refine guard_ops (N := 102) (T := TT) (M := (fun _ _ => none)) tabOk (i := 5) (d := 72) (j := 3) (dj := 70) (b := false) (s := .v v14) (l := [6, 7, 8, 9, 10, 11]) (fun _ _ _ h => by cases h) rfl rfl rfl rfl rfl (by decide) h19 (by kernel_rfl) (fun a20 h20 d20 => ?_)
  replace d20 := d20.trans d19
  clear h19 d19
  refine guard_ops (N := 102) (T := TT) (M := (fun _ _ => none)) tabOk (i := 6) (d := 73) (j := 3) (dj := 70) (b := false) (s := vi ↑last) (l := [7, 8, 9, 10, 11]) (fun _ _ _ h => by cases h) rfl rfl rfl rfl rfl (by decide) h20 (by kernel_rfl) (fun a21 h21 d21 => ?_)
  replace d21 := d21.trans d20
  clear h20 d20
  refine guard_ops (N := 102) (T := TT) (M := (fun _ _ => none)) tabOk (i := 7) (d := 74) (j := 3) (dj := 70) (b := false) (s := vi (IntKind.i64.wrap (((last : Nat) : Int) + 1))) (l := [8, 9, 10, 11]) (fun _ _ _ h => by cases h) rfl rfl rfl rfl rfl (by decide) h21 (by kernel_rfl) (fun a22 h22 d22 => ?_)
  replace d22 := d22.trans d21
  clear h21 d21
  rw [show (IntKind.i64.wrap (((last : Nat) : Int) + 1)) = ((last + 1 : Nat) : Int) from i_succ last (by omega)] at h22
  refine callW_ops (N := 102) (i := 8) (d := 75) (f := 21) (args := [(vi ((last + 1 : Nat) : Int))]) (l := [9, 10, 11]) rfl (want_g h22 (j := 3) (d := 70) (b := false) rfl rfl rfl) rfl (by decide) h22 Tryd.func21 rfl rfl rfl (by kernel_rfl) (Ans W17 (10 ^ (last + 1))) (ten_walk (last + 1) (by omega) W17) (fun v23 W23 a23 hR23 h23 d23 => ?_)
  replace d23 := d23.trans d22
  clear h22 d22
  have hI23 := hI17.add hR23
  have c723 : W23.cell? _ = some _ := (hR23.2.cell (World.block_lt_of_cell? _ _ c717)).trans c717
  have c823 : W23.cell? _ = some _ := (hR23.2.cell (World.block_lt_of_cell? _ _ c817)).trans c817
  clear hI17 c717 c817
  refine callW_ops (N := 102) (i := 9) (d := 76) (f := 20) (args := [.v v14, .v v23]) (l := [10, 11]) rfl (want_g h23 (j := 3) (d := 70) (b := false) rfl rfl rfl) rfl (by decide) h23 Tryd.func20 rfl rfl rfl (by kernel_rfl) (Ans W23 (x / 10 ^ (last + 1) * 10 ^ (last + 1) + 10 ^ (last + 1))) (plus_walk _ _ (by omega) (by omega) W23 _ _ (hI23.val (v14, x / 10 ^ (last + 1) * 10 ^ (last + 1)) (by simp)) (hI23.val (v23, 10 ^ (last + 1)) (by simp))) (fun v24 W24 a24 hR24 h24 d24 => ?_)
  replace d24 := d24.trans d23
  clear h23 d23
  have hI24 := hI23.add hR24
  have c724 : W24.cell? _ = some _ := (hR24.2.cell (World.block_lt_of_cell? _ _ c723)).trans c723
  have c824 : W24.cell? _ = some _ := (hR24.2.cell (World.block_lt_of_cell? _ _ c823)).trans c823
  clear hI23 c723 c823
  refine cloW_ops (N := 102) (i := 10) (d := 77) (f := 17) (t := 71) (v := v24) (caps := #[.pointer (some ⟨b7, 0, none⟩), .pointer (some ⟨b8, 0, none⟩), .pointer (some ⟨bm, 0, none⟩)]) (l := [11]) rfl (want_g h24 (j := 3) (d := 70) (b := false) rfl rfl rfl) rfl (by decide) h24 Tryd.func17 rfl rfl rfl (h24.2 71 _ rfl) (h24.2 76 _ rfl) (fun v W' => v = .bool false ∧ Below (W24).heap.size W24 W') ((clo_walk lo HI m (x / 10 ^ (last + 1) * 10 ^ (last + 1) + 10 ^ (last + 1)) (by omega) (by omega) (by omega) b7 b8 bm W24 _ _ _ (hI24.val (v24, x / 10 ^ (last + 1) * 10 ^ (last + 1) + 10 ^ (last + 1)) (by simp)) (hI24.val (vl, lo) (by simp)) (hI24.val (vh, HI) (by simp)) c724 c824 hI24.mm).mono fun e w' hh => ⟨_, hh.1, by rw [hs2], hh.2⟩) (fun v25 W25 a25 hR25 h25 d25 => ?_)
  replace d25 := d25.trans d24
  clear h24 d24
  obtain ⟨rfl, B25⟩ := hR25
  have hI25 := hI24.step B25
  have c725 : W25.cell? _ = some _ := (B25.cell (World.block_lt_of_cell? _ _ c724)).trans c724
  have c825 : W25.cell? _ = some _ := (B25.cell (World.block_lt_of_cell? _ _ c824)).trans c824
  clear hI24 c724 c824
  refine gW (s := vb false) 102 [] h25 d25 rfl (want_ rfl) rfl (by decide) (op_pickF rfl (h25.2 70 _ rfl) (h25.2 77 _ rfl)) (fun a26 h26 d26 => ?_)
  clear h25 d25
  show Code.wp _ _ _ _ _
  refine wp_cond_false (h26.2 78 _ rfl) ?_
  refine wp_skip ?_
  show Code.wp _ _ _ _ _
  refine wp_seq (wp_region ?_)
  refine gW (s := vi ↑m) 102 [1, 2, 3] h26 d26 rfl (want_ rfl) rfl (by decide) (op_load rfl (h26.2 4 _ rfl) Tryd.isAgg2 hI25.mm) (fun a27 h27 d27 => ?_)
  clear h26 d26
  refine oP 102 [2, 3] [1] [(0, .v (.slice A (dg x).length c)), (2, vi (-((E : Nat) : Int))), (4, vp bm), (9, .v (.func (.func 17) #[] #[.pointer (some ⟨b7, 0, none⟩), .pointer (some ⟨b8, 0, none⟩), .pointer (some ⟨bm, 0, none⟩)])), (10, vi ↑last), (11, .v v14), (62, vb false), (78, vb false), (79, vi ↑m), (80, vi (-((E : Nat) : Int)))] h27 d27 (fun a28 h28 d28 => ?_)
  clear h27 d27
  refine callW_ops (N := 102) (i := 2) (d := 81) (f := 16) (args := [(vi ↑m), vi (-((E : Nat) : Int))]) (l := [3]) rfl (want_ rfl) rfl (by decide) h28 Tryd.func16 rfl rfl rfl (by kernel_rfl) (Ans W25 (m * 10 ^ (200 - E) * 5 ^ E)) (hdo_walk m E (by omega) (by omega) hVl W25) (fun v29 W29 a29 hR29 h29 d29 => ?_)
  replace d29 := d29.trans d28
  clear h28 d28
  have hI29 := hI25.add hR29
  have c729 : W29.cell? _ = some _ := (hR29.2.cell (World.block_lt_of_cell? _ _ c725)).trans c725
  have c829 : W29.cell? _ = some _ := (hR29.2.cell (World.block_lt_of_cell? _ _ c825)).trans c825
  clear hI25 c725 c825
  refine oP 102 [] [3] [(0, .v (.slice A (dg x).length c)), (2, vi (-((E : Nat) : Int))), (4, vp bm), (9, .v (.func (.func 17) #[] #[.pointer (some ⟨b7, 0, none⟩), .pointer (some ⟨b8, 0, none⟩), .pointer (some ⟨bm, 0, none⟩)])), (10, vi ↑last), (11, .v v14), (12, .v v29), (62, vb false), (78, vb false)] h29 d29 (fun a30 h30 d30 => ?_)
  clear h29 d29
  show Code.wp _ _ _ _ _
  refine wp_seq (wp_region ?_)
  refine oP 102 [1, 2, 3, 4, 5] [0] [(0, .v (.slice A (dg x).length c)), (2, vi (-((E : Nat) : Int))), (4, vp bm), (9, .v (.func (.func 17) #[] #[.pointer (some ⟨b7, 0, none⟩), .pointer (some ⟨b8, 0, none⟩), .pointer (some ⟨bm, 0, none⟩)])), (10, vi ↑last), (11, .v v14), (12, .v v29), (62, vb false), (78, vb false), (82, .v (.slice A (dg x).length c))] h30 d30 (fun a31 h31 d31 => ?_)
  clear h30 d30
  refine callW_ops (N := 102) (i := 1) (d := 83) (f := 22) (args := [.v (.slice A (dg x).length c), vi 2]) (l := [2, 3, 4, 5]) rfl (want_ rfl) rfl (by decide) h31 Tryd.func22 rfl rfl rfl (by kernel_rfl) (Ans W29 (x * 2)) (times_walk x 2 (by decide) (by omega) W29 _ (hI29.val ((.slice A (dg x).length c), x) (by simp))) (fun v32 W32 a32 hR32 h32 d32 => ?_)
  replace d32 := d32.trans d31
  clear h31 d31
  have hI32 := hI29.add hR32
  have c732 : W32.cell? _ = some _ := (hR32.2.cell (World.block_lt_of_cell? _ _ c729)).trans c729
  have c832 : W32.cell? _ = some _ := (hR32.2.cell (World.block_lt_of_cell? _ _ c829)).trans c829
  clear hI29 c729 c829
  refine oP 102 [3, 4, 5] [2] [(0, .v (.slice A (dg x).length c)), (2, vi (-((E : Nat) : Int))), (4, vp bm), (9, .v (.func (.func 17) #[] #[.pointer (some ⟨b7, 0, none⟩), .pointer (some ⟨b8, 0, none⟩), .pointer (some ⟨bm, 0, none⟩)])), (10, vi ↑last), (11, .v v14), (12, .v v29), (62, vb false), (78, vb false), (82, .v (.slice A (dg x).length c)), (83, .v v32), (84, vi ↑last)] h32 d32 (fun a33 h33 d33 => ?_)
  clear h32 d32
  refine callW_ops (N := 102) (i := 3) (d := 85) (f := 21) (args := [(vi ↑last)]) (l := [4, 5]) rfl (want_ rfl) rfl (by decide) h33 Tryd.func21 rfl rfl rfl (by kernel_rfl) (Ans W32 (10 ^ last)) (ten_walk last (by omega) W32) (fun v34 W34 a34 hR34 h34 d34 => ?_)
  replace d34 := d34.trans d33
  clear h33 d33
  have hI34 := hI32.add hR34
  have c734 : W34.cell? _ = some _ := (hR34.2.cell (World.block_lt_of_cell? _ _ c732)).trans c732
  have c834 : W34.cell? _ = some _ := (hR34.2.cell (World.block_lt_of_cell? _ _ c832)).trans c832
  clear hI32 c732 c832
  refine oP 102 [] [4, 5] [(0, .v (.slice A (dg x).length c)), (2, vi (-((E : Nat) : Int))), (4, vp bm), (9, .v (.func (.func 17) #[] #[.pointer (some ⟨b7, 0, none⟩), .pointer (some ⟨b8, 0, none⟩), .pointer (some ⟨bm, 0, none⟩)])), (10, vi ↑last), (11, .v v14), (12, .v v29), (13, .v v32), (14, .v v34), (62, vb false), (78, vb false)] h34 d34 (fun a35 h35 d35 => ?_)
  clear h34 d34
  show Code.wp _ _ _ _ _
  refine wp_seq (wp_region ?_)
  refine oP 102 [1, 2, 3, 4, 5, 6, 7, 8, 9, 10, 11, 12, 13, 14, 15, 16] [0] [(0, .v (.slice A (dg x).length c)), (2, vi (-((E : Nat) : Int))), (4, vp bm), (9, .v (.func (.func 17) #[] #[.pointer (some ⟨b7, 0, none⟩), .pointer (some ⟨b8, 0, none⟩), .pointer (some ⟨bm, 0, none⟩)])), (10, vi ↑last), (11, .v v14), (12, .v v29), (13, .v v32), (14, .v v34), (62, vb false), (78, vb false), (86, .v v29)] h35 d35 (fun a36 h36 d36 => ?_)
  clear h35 d35
  refine callW_ops (N := 102) (i := 1) (d := 87) (f := 22) (args := [.v v29, vi 2]) (l := [2, 3, 4, 5, 6, 7, 8, 9, 10, 11, 12, 13, 14, 15, 16]) rfl (want_ rfl) rfl (by decide) h36 Tryd.func22 rfl rfl rfl (by kernel_rfl) (Ans W34 (m * 10 ^ (200 - E) * 5 ^ E * 2)) (times_walk _ 2 (by decide) (by omega) W34 _ (hI34.val (v29, m * 10 ^ (200 - E) * 5 ^ E) (by simp))) (fun v37 W37 a37 hR37 h37 d37 => ?_)
  replace d37 := d37.trans d36
  clear h36 d36
  have hI37 := hI34.add hR37
  have c737 : W37.cell? _ = some _ := (hR37.2.cell (World.block_lt_of_cell? _ _ c734)).trans c734
  have c837 : W37.cell? _ = some _ := (hR37.2.cell (World.block_lt_of_cell? _ _ c834)).trans c834
  clear hI34 c734 c834
  refine oP 102 [4, 5, 6, 7, 8, 9, 10, 11, 12, 13, 14, 15, 16] [2, 3] [(0, .v (.slice A (dg x).length c)), (2, vi (-((E : Nat) : Int))), (4, vp bm), (9, .v (.func (.func 17) #[] #[.pointer (some ⟨b7, 0, none⟩), .pointer (some ⟨b8, 0, none⟩), .pointer (some ⟨bm, 0, none⟩)])), (10, vi ↑last), (11, .v v14), (12, .v v29), (13, .v v32), (14, .v v34), (62, vb false), (78, vb false), (86, .v v29), (87, .v v37), (88, .v v32), (89, .v v34)] h37 d37 (fun a38 h38 d38 => ?_)
  clear h37 d37
  refine callW_ops (N := 102) (i := 4) (d := 90) (f := 20) (args := [.v v32, .v v34]) (l := [5, 6, 7, 8, 9, 10, 11, 12, 13, 14, 15, 16]) rfl (want_ rfl) rfl (by decide) h38 Tryd.func20 rfl rfl rfl (by kernel_rfl) (Ans W37 (x * 2 + 10 ^ last)) (plus_walk _ _ (by omega) (by omega) W37 _ _ (hI37.val (v32, x * 2) (by simp)) (hI37.val (v34, 10 ^ last) (by simp))) (fun v39 W39 a39 hR39 h39 d39 => ?_)
  replace d39 := d39.trans d38
  clear h38 d38
  have hI39 := hI37.add hR39
  have c739 : W39.cell? _ = some _ := (hR39.2.cell (World.block_lt_of_cell? _ _ c737)).trans c737
  have c839 : W39.cell? _ = some _ := (hR39.2.cell (World.block_lt_of_cell? _ _ c837)).trans c837
  clear hI37 c737 c837
  refine callW_ops (N := 102) (i := 5) (d := 91) (f := 18) (args := [.v v37, .v v39]) (l := [6, 7, 8, 9, 10, 11, 12, 13, 14, 15, 16]) rfl (want_ rfl) rfl (by decide) h39 Tryd.func18 rfl rfl rfl (by kernel_rfl) (fun v W' => v = .int .i64 (cmpI (m * 10 ^ (200 - E) * 5 ^ E * 2) (x * 2 + 10 ^ last)) ∧ Below (W39).heap.size W39 W') ((cmp_walk (m * 10 ^ (200 - E) * 5 ^ E * 2) (x * 2 + 10 ^ last) (by omega) (by omega) W39 _ _ (hI39.val (v37, m * 10 ^ (200 - E) * 5 ^ E * 2) (by simp)) (hI39.val (v39, x * 2 + 10 ^ last) (by simp))).mono fun e w' hh => ⟨_, hh.1, rfl, hh.2⟩) (fun v40 W40 a40 hR40 h40 d40 => ?_)
  replace d40 := d40.trans d39
  clear h39 d39
  obtain ⟨rfl, B40⟩ := hR40
  have hI40 := hI39.step B40
  have c740 : W40.cell? _ = some _ := (B40.cell (World.block_lt_of_cell? _ _ c739)).trans c739
  have c840 : W40.cell? _ = some _ := (B40.cell (World.block_lt_of_cell? _ _ c839)).trans c839
  clear hI39 c739 c839
  refine oP 102 [7, 8, 9, 10, 11, 12, 13, 14, 15, 16] [6] [(0, .v (.slice A (dg x).length c)), (2, vi (-((E : Nat) : Int))), (4, vp bm), (9, .v (.func (.func 17) #[] #[.pointer (some ⟨b7, 0, none⟩), .pointer (some ⟨b8, 0, none⟩), .pointer (some ⟨bm, 0, none⟩)])), (10, vi ↑last), (11, .v v14), (12, .v v29), (13, .v v32), (14, .v v34), (62, vb false), (78, vb false), (86, .v v29), (87, .v v37), (88, .v v32), (89, .v v34), (90, .v v39), (91, vi (cmpI (m * 10 ^ (200 - E) * 5 ^ E * 2) (x * 2 + 10 ^ last))), (92, vb (decide (((cmpI (m * 10 ^ (200 - E) * 5 ^ E * 2) (x * 2 + 10 ^ last)) : Int) ≤ 0)))] h40 d40 (fun a41 h41 d41 => ?_)
  clear h40 d40
  rw [show (decide (((cmpI (m * 10 ^ (200 - E) * 5 ^ E * 2) (x * 2 + 10 ^ last)) : Int) ≤ 0)) = true from decide_eq_true hc1] at h41
  refine oP 102 [8, 9, 10, 11, 12, 13, 14, 15, 16] [7] [(0, .v (.slice A (dg x).length c)), (2, vi (-((E : Nat) : Int))), (4, vp bm), (9, .v (.func (.func 17) #[] #[.pointer (some ⟨b7, 0, none⟩), .pointer (some ⟨b8, 0, none⟩), .pointer (some ⟨bm, 0, none⟩)])), (10, vi ↑last), (11, .v v14), (12, .v v29), (13, .v v32), (14, .v v34), (62, vb false), (78, vb false), (86, .v v29), (87, .v v37), (88, .v v32), (89, .v v34), (90, .v v39), (91, vi (cmpI (m * 10 ^ (200 - E) * 5 ^ E * 2) (x * 2 + 10 ^ last))), (92, vb true), (93, vb true)] h41 d41 (fun a42 h42 d42 => ?_)
  clear h41 d41
  refine guard_ops (N := 102) (T := TT) (M := (fun _ _ => none)) tabOk (i := 8) (d := 94) (j := 7) (dj := 93) (b := true) (s := .v v32) (l := [9, 10, 11, 12, 13, 14, 15, 16]) (fun _ _ _ h => by cases h) rfl rfl rfl rfl rfl (by decide) h42 (by kernel_rfl) (fun a43 h43 d43 => ?_)
  replace d43 := d43.trans d42
  clear h42 d42
  refine guard_ops (N := 102) (T := TT) (M := (fun _ _ => none)) tabOk (i := 9) (d := 95) (j := 7) (dj := 93) (b := true) (s := .v v29) (l := [10, 11, 12, 13, 14, 15, 16]) (fun _ _ _ h => by cases h) rfl rfl rfl rfl rfl (by decide) h43 (by kernel_rfl) (fun a44 h44 d44 => ?_)
  replace d44 := d44.trans d43
  clear h43 d43
  refine callW_ops (N := 102) (i := 10) (d := 96) (f := 22) (args := [.v v29, vi 2]) (l := [11, 12, 13, 14, 15, 16]) rfl (want_g h44 (j := 7) (d := 93) (b := true) rfl rfl rfl) rfl (by decide) h44 Tryd.func22 rfl rfl rfl (by kernel_rfl) (Ans W40 (m * 10 ^ (200 - E) * 5 ^ E * 2)) (times_walk _ 2 (by decide) (by omega) W40 _ (hI40.val (v29, m * 10 ^ (200 - E) * 5 ^ E) (by simp))) (fun v45 W45 a45 hR45 h45 d45 => ?_)
  replace d45 := d45.trans d44
  clear h44 d44
  have hI45 := hI40.add hR45
  have c745 : W45.cell? _ = some _ := (hR45.2.cell (World.block_lt_of_cell? _ _ c740)).trans c740
  have c845 : W45.cell? _ = some _ := (hR45.2.cell (World.block_lt_of_cell? _ _ c840)).trans c840
  clear hI40 c740 c840
  refine guard_ops (N := 102) (T := TT) (M := (fun _ _ => none)) tabOk (i := 11) (d := 97) (j := 7) (dj := 93) (b := true) (s := .v v34) (l := [12, 13, 14, 15, 16]) (fun _ _ _ h => by cases h) rfl rfl rfl rfl rfl (by decide) h45 (by kernel_rfl) (fun a46 h46 d46 => ?_)
  replace d46 := d46.trans d45
  clear h45 d45
  refine callW_ops (N := 102) (i := 12) (d := 98) (f := 20) (args := [.v v45, .v v34]) (l := [13, 14, 15, 16]) rfl (want_g h46 (j := 7) (d := 93) (b := true) rfl rfl rfl) rfl (by decide) h46 Tryd.func20 rfl rfl rfl (by kernel_rfl) (Ans W45 (m * 10 ^ (200 - E) * 5 ^ E * 2 + 10 ^ last)) (plus_walk _ _ (by omega) (by omega) W45 _ _ (hI45.val (v45, m * 10 ^ (200 - E) * 5 ^ E * 2) (by simp)) (hI45.val (v34, 10 ^ last) (by simp))) (fun v47 W47 a47 hR47 h47 d47 => ?_)
  replace d47 := d47.trans d46
  clear h46 d46
  have hI47 := hI45.add hR47
  have c747 : W47.cell? _ = some _ := (hR47.2.cell (World.block_lt_of_cell? _ _ c745)).trans c745
  have c847 : W47.cell? _ = some _ := (hR47.2.cell (World.block_lt_of_cell? _ _ c845)).trans c845
  clear hI45 c745 c845
  refine callW_ops (N := 102) (i := 13) (d := 99) (f := 18) (args := [.v v32, .v v47]) (l := [14, 15, 16]) rfl (want_g h47 (j := 7) (d := 93) (b := true) rfl rfl rfl) rfl (by decide) h47 Tryd.func18 rfl rfl rfl (by kernel_rfl) (fun v W' => v = .int .i64 (cmpI (x * 2) (m * 10 ^ (200 - E) * 5 ^ E * 2 + 10 ^ last)) ∧ Below (W47).heap.size W47 W') ((cmp_walk (x * 2) (m * 10 ^ (200 - E) * 5 ^ E * 2 + 10 ^ last) (by omega) (by omega) W47 _ _ (hI47.val (v32, x * 2) (by simp)) (hI47.val (v47, m * 10 ^ (200 - E) * 5 ^ E * 2 + 10 ^ last) (by simp))).mono fun e w' hh => ⟨_, hh.1, rfl, hh.2⟩) (fun v48 W48 a48 hR48 h48 d48 => ?_)
  replace d48 := d48.trans d47
  clear h47 d47
  obtain ⟨rfl, B48⟩ := hR48
  have hI48 := hI47.step B48
  have c748 : W48.cell? _ = some _ := (B48.cell (World.block_lt_of_cell? _ _ c747)).trans c747
  have c848 : W48.cell? _ = some _ := (B48.cell (World.block_lt_of_cell? _ _ c847)).trans c847
  clear hI47 c747 c847
  refine guard_ops (N := 102) (T := TT) (M := (fun _ _ => none)) tabOk (i := 14) (d := 100) (j := 7) (dj := 93) (b := true) (s := vb (decide (((cmpI (x * 2) (m * 10 ^ (200 - E) * 5 ^ E * 2 + 10 ^ last)) : Int) ≤ 0))) (l := [15, 16]) (fun _ _ _ h => by cases h) rfl rfl rfl rfl rfl (by decide) h48 (by kernel_rfl) (fun a49 h49 d49 => ?_)
  replace d49 := d49.trans d48
  clear h48 d48
  rw [show (decide (((cmpI (x * 2) (m * 10 ^ (200 - E) * 5 ^ E * 2 + 10 ^ last)) : Int) ≤ 0)) = true from decide_eq_true hc2] at h49
  refine gW (s := vb true) 102 [16] h49 d49 rfl (want_ rfl) rfl (by decide) (op_pickT rfl (h49.2 93 _ rfl) (h49.2 100 _ rfl)) (fun a50 h50 d50 => ?_)
  clear h49 d49
  refine oP 102 [] [16] [(0, .v (.slice A (dg x).length c)), (2, vi (-((E : Nat) : Int))), (4, vp bm), (6, vb true), (9, .v (.func (.func 17) #[] #[.pointer (some ⟨b7, 0, none⟩), .pointer (some ⟨b8, 0, none⟩), .pointer (some ⟨bm, 0, none⟩)])), (10, vi ↑last), (11, .v v14), (62, vb false), (78, vb false)] h50 d50 (fun a51 h51 d51 => ?_)
  clear h50 d50
  show Code.wp _ _ _ _ _
  exact hret a51 W48 (sub_ok (E := [(6, vb true)]) h51 sE) d51 hI48.bel
set_option maxHeartbeats 8000000 in
set_option maxRecDepth 100000 in
theorem hs_walk_even (m E x last LO HI lo : Nat) (hmb : m = 8388608) (hE1 : 1 ≤ E) (hE : E ≤ 100) (hm1 : 1 ≤ m) (hm : m < 100000000) (hLO : (2 * m - 1) * 10 ^ (200 - (E + 1)) * 5 ^ (E + 1) = LO) (hHI : (2 * m + 1) * 10 ^ (200 - (E + 1)) * 5 ^ (E + 1) = HI) (hlo : (4 * m - 1) * 10 ^ (200 - (E + 2)) * 5 ^ (E + 2) = lo) (hLl : (dg LO).length < 900) (hlol : (dg lo).length < 900) (hHl : (dg HI).length < 900) (hxl : (dg x).length < 900) (hVl : (dg (m * 10 ^ (200 - E) * 5 ^ E)).length < 900) (hlt : last < (dg x).length) (h0s : ∀ i, i < last → rd (dg x) (i : Int) = 0) (hne : rd (dg x) (last : Int) ≠ 0)
    (hin : inB lo HI m x = true) (hs1 : inB lo HI m (x / 10 ^ (last + 1) * 10 ^ (last + 1)) = false) (hs2 : inB lo HI m (x / 10 ^ (last + 1) * 10 ^ (last + 1) + 10 ^ (last + 1)) = false) (hc1 : cmpI (m * 10 ^ (200 - E) * 5 ^ E * 2) (x * 2 + 10 ^ last) ≤ 0) (hc2 : cmpI (x * 2) (m * 10 ^ (200 - E) * 5 ^ E * 2 + 10 ^ last) ≤ 0)
    {ok : Nat → Prop} (w : World) (vd : Value) (hd : DV ok w vd x) :
    Calls Tryd.prog 10 #[vd, .int .i64 ↑m, .int .i64 (-((E : Nat) : Int))] w fun e w' => e = .returned (.bool true) ∧ Below w.heap.size w w' := by
  obtain ⟨A, c, rfl⟩ := Kd.V_slice hd
  refine calls_of_wp Tryd.func10 rfl ?_
  have h0 := has_three (β := bn []) (.v (.slice A (dg x).length c)) (vi ↑m) (vi (-((E : Nat) : Int))) 99
  have d0 : (⟨#[.slice A (dg x).length c, .int .i64 ↑m, .int .i64 (-((E : Nat) : Int))] ++ Array.replicate 99 undef, []⟩ : Act).defers = [] := rfl
  refine wp_seq (wp_region ?_)
  refine new_ops (N := 102) (i := 0) (d := 4) (l := [1]) rfl rfl rfl (by decide) h0 (op_box1 rfl (h0.2 1 _ rfl)) (fun a1 h1 d1 => ?_)
  replace d1 := d1.trans d0
  clear h0 d0
  refine oP 102 [] [1] [(0, .v (.slice A (dg x).length c)), (2, vi (-((E : Nat) : Int))), (4, .v (.pointer (some ⟨w.heap.size, 0, none⟩))), (6, vb false)] h1 d1 (fun a2 h2 d2 => ?_)
  clear h1 d1
  show Code.wp _ _ _ _ _
  have hI0 := Iv.box1 m hd
  have hB1 := (Below.refl w.heap.size w).alloc (Nat.le_refl _) (.cells #[.int .i64 ↑m] 2)
  generalize w.heap.size = bm at h2 hI0 hB1 ⊢
  generalize w.alloc (.cells #[.int .i64 ↑m] 2) = w1 at hI0 hB1 ⊢
  refine wp_seq ?_
  refine wp_region_last (ops := hsOps) (S := (fun W : World => W.cell? ⟨bm, 0, none⟩ = some (.int .i64 ↑m))) (ds := []) (by kernel_rfl) ?_
  have hI1 := hI0.drew
  have hS0 : (fun W : World => W.cell? ⟨bm, 0, none⟩ = some (.int .i64 ↑m)) w1.drew := hI1.mm
  show wpAnyLast Tryd.prog .any hsOps _ _ [] 16 (Array.replicate 16 false) _ w1.drew
  show wpAnyLast Tryd.prog .any hsOps _ _ [] 16 #[false, false, false, false, false, false, false, false, false, false, false, false, false, false, false, false] _ w1.drew
  refine segV (N := 102) (β := bn []) (fuel := 15) (i := 0) (d := 15) (s := vi ↑m) (fun _ _ _ _ hd h => And.intro (hd.trans (And.left h)) (And.right h)) hS0 h2 hsF0.1 hsF0.2.1 hsF0.2.2.1 (by decide) (by kernel_rfl) (fun W' hW => op_load hsF0.2.2.2 (h2.2 4 _ rfl) Tryd.isAgg2 hW) (fun a3 h3 d3 => ?_)
  replace d3 := d3.trans d2
  clear h2 d2
  show wpAnyLast Tryd.prog .any hsOps _ _ [] 15 #[true, false, false, false, false, false, false, false, false, false, false, false, false, false, false, false] _ w1.drew
  refine segP (ops := hsOps) (N := 102) (β := bn []) (M := fun _ _ => none) (T := TT) tabOk (fun _ _ _ _ _ h => by cases h) (fun _ _ _ _ hd h => And.intro (hd.trans (And.left h)) (And.right h)) hS0 [1, 2, 3, 4] 11 [(0, .v (.slice A (dg x).length c)), (2, vi (-((E : Nat) : Int))), (4, vp bm), (15, vi ↑m), (16, vi (IntKind.i64.wrap (2 * ((m : Nat) : Int)))), (17, vi (IntKind.i64.wrap ((IntKind.i64.wrap (2 * ((m : Nat) : Int))) - 1))), (18, vi (-((E : Nat) : Int))), (19, vi (IntKind.i64.wrap ((-((E : Nat) : Int)) - 1)))] h3 (by kernel_rfl) (by kernel_rfl) sE (fun a4 h4 d4 => ?_)
  replace d4 := d4.trans d3
  clear h3 d3
  show wpAnyLast Tryd.prog .any hsOps _ _ [] 11 #[true, true, true, true, true, false, false, false, false, false, false, false, false, false, false, false] _ w1.drew
  rw [show (IntKind.i64.wrap ((IntKind.i64.wrap (2 * ((m : Nat) : Int))) - 1)) = ((2 * m - 1 : Nat) : Int) from a_2m m hm1 hm] at h4
  rw [show (IntKind.i64.wrap ((-((E : Nat) : Int)) - 1)) = (-((E + 1 : Nat) : Int)) from a_e1 E hE] at h4
  refine segV (N := 102) (β := bn []) (fuel := 10) (i := 6) (d := 21) (s := vi ↑m) (fun _ _ _ _ hd h => And.intro (hd.trans (And.left h)) (And.right h)) hS0 h4 hsF6.1 hsF6.2.1 hsF6.2.2.1 (by decide) (by kernel_rfl) (fun W' hW => op_load hsF6.2.2.2 (h4.2 4 _ rfl) Tryd.isAgg2 hW) (fun a5 h5 d5 => ?_)
  replace d5 := d5.trans d4
  clear h4 d4
  show wpAnyLast Tryd.prog .any hsOps _ _ [] 10 #[true, true, true, true, true, false, true, false, false, false, false, false, false, false, false, false] _ w1.drew
  refine segP (ops := hsOps) (N := 102) (β := bn []) (M := fun _ _ => none) (T := TT) tabOk (fun _ _ _ _ _ h => by cases h) (fun _ _ _ _ hd h => And.intro (hd.trans (And.left h)) (And.right h)) hS0 [7, 8, 9, 10] 6 [(0, .v (.slice A (dg x).length c)), (2, vi (-((E : Nat) : Int))), (4, vp bm), (17, vi ((2 * m - 1 : Nat) : Int)), (19, vi (-((E + 1 : Nat) : Int))), (21, vi ↑m), (22, vi (IntKind.i64.wrap (2 * ((m : Nat) : Int)))), (23, vi (IntKind.i64.wrap ((IntKind.i64.wrap (2 * ((m : Nat) : Int))) + 1))), (24, vi (-((E : Nat) : Int))), (25, vi (IntKind.i64.wrap ((-((E : Nat) : Int)) - 1)))] h5 (by kernel_rfl) (by kernel_rfl) sE (fun a6 h6 d6 => ?_)
  replace d6 := d6.trans d5
  clear h5 d5
  show wpAnyLast Tryd.prog .any hsOps _ _ [] 6 #[true, true, true, true, true, false, true, true, true, true, true, false, false, false, false, false] _ w1.drew
  rw [show (IntKind.i64.wrap ((IntKind.i64.wrap (2 * ((m : Nat) : Int))) + 1)) = ((2 * m + 1 : Nat) : Int) from a_2p m hm] at h6
  rw [show (IntKind.i64.wrap ((-((E : Nat) : Int)) - 1)) = (-((E + 1 : Nat) : Int)) from a_e1 E hE] at h6
  refine hsA_000 w1 bm m E LO HI (.slice A (dg x).length c) [((.slice A (dg x).length c), x)] hLO hHI hLl hHl hE hm (fun a7 W7 v5 v11 b7 b8 h7 d7 hI2 c7 c8 => ?_) a6 w1.drew (sub_ok (E := [(0, .v (.slice A (dg x).length c)), (2, vi (-((E : Nat) : Int))), (4, vp bm), (17, vi ((2 * m - 1 : Nat) : Int)), (19, vi (-((E + 1 : Nat) : Int))), (23, vi ((2 * m + 1 : Nat) : Int)), (25, vi (-((E + 1 : Nat) : Int)))]) h6 sE) d6 hI1
  show Code.wp _ _ _ _ _
  refine wp_seq ?_
  refine wp_seq (wp_region ?_)
  refine gW (s := vi ↑m) 102 [1, 2, 3, 4, 5] h7 d7 rfl (want_ rfl) rfl (by decide) (op_load rfl (h7.2 4 _ rfl) Tryd.isAgg2 hI2.mm) (fun a8 h8 d8 => ?_)
  clear h7 d7
  refine oP 102 [2, 3, 4, 5] [1] [(0, .v (.slice A (dg x).length c)), (2, vi (-((E : Nat) : Int))), (4, vp bm), (7, vp b7), (8, vp b8), (27, vi ↑m), (28, vb ((((m : Nat) : Int) : Int) == 8388608))] h8 d8 (fun a9 h9 d9 => ?_)
  clear h8 d8
  rw [show ((((m : Nat) : Int) : Int) == 8388608) = true from a_eq m hmb] at h9
  refine oP 102 [3, 4, 5] [2] [(0, .v (.slice A (dg x).length c)), (2, vi (-((E : Nat) : Int))), (4, vp bm), (7, vp b7), (8, vp b8), (27, vi ↑m), (28, vb true), (29, vb true)] h9 d9 (fun a10 h10 d10 => ?_)
  clear h9 d9
  refine guard_ops (N := 102) (T := TT) (M := (fun _ _ => none)) tabOk (i := 3) (d := 30) (j := 2) (dj := 29) (b := true) (s := vi (-((E : Nat) : Int))) (l := [4, 5]) (fun _ _ _ h => by cases h) rfl rfl rfl rfl rfl (by decide) h10 (by kernel_rfl) (fun a11 h11 d11 => ?_)
  replace d11 := d11.trans d10
  clear h10 d10
  refine guard_ops (N := 102) (T := TT) (M := (fun _ _ => none)) tabOk (i := 4) (d := 31) (j := 2) (dj := 29) (b := true) (s := vb (decide (((-((E : Nat) : Int)) : Int) > (-149)))) (l := [5]) (fun _ _ _ h => by cases h) rfl rfl rfl rfl rfl (by decide) h11 (by kernel_rfl) (fun a12 h12 d12 => ?_)
  replace d12 := d12.trans d11
  clear h11 d11
  rw [show (decide (((-((E : Nat) : Int)) : Int) > (-149))) = true from a_gt E hE] at h12
  refine gW (s := vb true) 102 [] h12 d12 rfl (want_ rfl) rfl (by decide) (op_pickT rfl (h12.2 29 _ rfl) (h12.2 31 _ rfl)) (fun a13 h13 d13 => ?_)
  clear h12 d12
  show Code.wp _ _ _ _ _
  refine wp_cond_true (h13.2 32 _ rfl) ?_
  refine wp_region ?_
  refine gW (s := vi ↑m) 102 [1, 2, 3, 4, 5, 6] h13 d13 rfl (want_ rfl) rfl (by decide) (op_load rfl (h13.2 4 _ rfl) Tryd.isAgg2 hI2.mm) (fun a14 h14 d14 => ?_)
  clear h13 d13
  refine oP 102 [3, 4, 5, 6] [1, 2] [(0, .v (.slice A (dg x).length c)), (2, vi (-((E : Nat) : Int))), (4, vp bm), (7, vp b7), (8, vp b8), (32, vb true), (33, vi ↑m), (34, vi (IntKind.i64.wrap (4 * ((m : Nat) : Int)))), (35, vi (IntKind.i64.wrap ((IntKind.i64.wrap (4 * ((m : Nat) : Int))) - 1)))] h14 d14 (fun a15 h15 d15 => ?_)
  clear h14 d14
  rw [show (IntKind.i64.wrap ((IntKind.i64.wrap (4 * ((m : Nat) : Int))) - 1)) = ((4 * m - 1 : Nat) : Int) from a_4m m hm1 hm] at h15
  refine oP 102 [5, 6] [3, 4] [(0, .v (.slice A (dg x).length c)), (2, vi (-((E : Nat) : Int))), (4, vp bm), (7, vp b7), (8, vp b8), (32, vb true), (33, vi ↑m), (34, vi (IntKind.i64.wrap (4 * ((m : Nat) : Int)))), (35, vi ((4 * m - 1 : Nat) : Int)), (36, vi (-((E : Nat) : Int))), (37, vi (IntKind.i64.wrap ((-((E : Nat) : Int)) - 2)))] h15 d15 (fun a16 h16 d16 => ?_)
  clear h15 d15
  rw [show (IntKind.i64.wrap ((-((E : Nat) : Int)) - 2)) = (-((E + 2 : Nat) : Int)) from a_e2 E hE] at h16
  refine callW_ops (N := 102) (i := 5) (d := 38) (f := 16) (args := [(vi ((4 * m - 1 : Nat) : Int)), vi (-((E + 2 : Nat) : Int))]) (l := [6]) rfl (want_ rfl) rfl (by decide) h16 Tryd.func16 rfl rfl rfl (by kernel_rfl) (Ans W7 lo) (hdoL hlo (a_E E 2 hE (by decide)) (a_lt 4 m hm (by decide)) hlol W7) (fun v17 W17 a17 hR17 h17 d17 => ?_)
  replace d17 := d17.trans d16
  clear h16 d16
  have hI3 := hI2.add hR17
  obtain ⟨A9, n9, rfl⟩ : ∃ A c, v17 = .slice A (dg lo).length c := Kd.V_slice (hI3.val (v17, lo) (by simp))
  replace c8 := (hR17.2.cell (World.block_lt_of_cell? _ _ c8)).trans c8
  obtain ⟨f1, ⟨u1, e1⟩, hI4, c7', k7⟩ := hI3.set (b := b7) (A := A9) (n := (dg lo).length) (c := n9) (x := lo) (by simp) (by simp)
  have hne87 : b8 ≠ b7 := fun e => by
    have := hI2.nd
    rw [e] at this
    simp at this
  refine st_ops (i := 6) (l := []) rfl rfl rfl (store_cell rfl (h17.2 7 _ rfl) (h17.2 38 _ rfl) Tryd.sizeOf29 f1 e1) ?_
  have hI5 := hI4.perm (vs' := ((.slice A9 (dg lo).length n9), lo) :: (v11, HI) :: [((.slice A (dg x).length c), x)]) (fun p hp => by simp only [List.mem_cons, List.not_mem_nil, or_false] at hp ⊢; rcases hp with h | h | h <;> simp [h])
  show Code.wp Tryd.prog hsT _ _ _
  refine hs_tail w1 bm b7 b8 m E x last lo HI A c (.slice A9 (dg lo).length n9) v11 [] hE hm hlol hHl hxl hVl hlt h0s hne hin hs1 hs2 hc1 hc2 a17 _ (sub_ok h17 sE) d17 hI5 c7' (k7 b8 _ hne87 c8) (fun a W hA hD hB => ?_)
  refine wp_ret ?_
  exact ⟨hD, _, results_tmp rfl _ _ _, congrArg Ending.returned (hA.2 6 _ rfl), hB1.trans (hB.mono (Nat.le_of_lt hI0.lt))⟩
set_option maxHeartbeats 8000000 in
set_option maxRecDepth 100000 in
theorem hs_walk_odd (m E x last LO HI lo : Nat) (hmb : m ≠ 8388608) (hE1 : 1 ≤ E) (hE : E ≤ 100) (hm1 : 1 ≤ m) (hm : m < 100000000) (hLO : (2 * m - 1) * 10 ^ (200 - (E + 1)) * 5 ^ (E + 1) = LO) (hHI : (2 * m + 1) * 10 ^ (200 - (E + 1)) * 5 ^ (E + 1) = HI) (hlo : lo = LO) (hLl : (dg LO).length < 900) (hlol : (dg lo).length < 900) (hHl : (dg HI).length < 900) (hxl : (dg x).length < 900) (hVl : (dg (m * 10 ^ (200 - E) * 5 ^ E)).length < 900) (hlt : last < (dg x).length) (h0s : ∀ i, i < last → rd (dg x) (i : Int) = 0) (hne : rd (dg x) (last : Int) ≠ 0)
    (hin : inB LO HI m x = true) (hs1 : inB LO HI m (x / 10 ^ (last + 1) * 10 ^ (last + 1)) = false) (hs2 : inB LO HI m (x / 10 ^ (last + 1) * 10 ^ (last + 1) + 10 ^ (last + 1)) = false) (hc1 : cmpI (m * 10 ^ (200 - E) * 5 ^ E * 2) (x * 2 + 10 ^ last) ≤ 0) (hc2 : cmpI (x * 2) (m * 10 ^ (200 - E) * 5 ^ E * 2 + 10 ^ last) ≤ 0)
    {ok : Nat → Prop} (w : World) (vd : Value) (hd : DV ok w vd x) :
    Calls Tryd.prog 10 #[vd, .int .i64 ↑m, .int .i64 (-((E : Nat) : Int))] w fun e w' => e = .returned (.bool true) ∧ Below w.heap.size w w' := by
  obtain ⟨A, c, rfl⟩ := Kd.V_slice hd
  refine calls_of_wp Tryd.func10 rfl ?_
  have h0 := has_three (β := bn []) (.v (.slice A (dg x).length c)) (vi ↑m) (vi (-((E : Nat) : Int))) 99
  have d0 : (⟨#[.slice A (dg x).length c, .int .i64 ↑m, .int .i64 (-((E : Nat) : Int))] ++ Array.replicate 99 undef, []⟩ : Act).defers = [] := rfl
  refine wp_seq (wp_region ?_)
  refine new_ops (N := 102) (i := 0) (d := 4) (l := [1]) rfl rfl rfl (by decide) h0 (op_box1 rfl (h0.2 1 _ rfl)) (fun a1 h1 d1 => ?_)
  replace d1 := d1.trans d0
  clear h0 d0
  refine oP 102 [] [1] [(0, .v (.slice A (dg x).length c)), (2, vi (-((E : Nat) : Int))), (4, .v (.pointer (some ⟨w.heap.size, 0, none⟩))), (6, vb false)] h1 d1 (fun a2 h2 d2 => ?_)
  clear h1 d1
  show Code.wp _ _ _ _ _
  have hI0 := Iv.box1 m hd
  have hB1 := (Below.refl w.heap.size w).alloc (Nat.le_refl _) (.cells #[.int .i64 ↑m] 2)
  generalize w.heap.size = bm at h2 hI0 hB1 ⊢
  generalize w.alloc (.cells #[.int .i64 ↑m] 2) = w1 at hI0 hB1 ⊢
  refine wp_seq ?_
  refine wp_region_last (ops := hsOps) (S := (fun W : World => W.cell? ⟨bm, 0, none⟩ = some (.int .i64 ↑m))) (ds := []) (by kernel_rfl) ?_
  have hI1 := hI0.drew
  have hS0 : (fun W : World => W.cell? ⟨bm, 0, none⟩ = some (.int .i64 ↑m)) w1.drew := hI1.mm
  show wpAnyLast Tryd.prog .any hsOps _ _ [] 16 (Array.replicate 16 false) _ w1.drew
  show wpAnyLast Tryd.prog .any hsOps _ _ [] 16 #[false, false, false, false, false, false, false, false, false, false, false, false, false, false, false, false] _ w1.drew
  refine segV (N := 102) (β := bn []) (fuel := 15) (i := 0) (d := 15) (s := vi ↑m) (fun _ _ _ _ hd h => And.intro (hd.trans (And.left h)) (And.right h)) hS0 h2 hsF0.1 hsF0.2.1 hsF0.2.2.1 (by decide) (by kernel_rfl) (fun W' hW => op_load hsF0.2.2.2 (h2.2 4 _ rfl) Tryd.isAgg2 hW) (fun a3 h3 d3 => ?_)
  replace d3 := d3.trans d2
  clear h2 d2
  show wpAnyLast Tryd.prog .any hsOps _ _ [] 15 #[true, false, false, false, false, false, false, false, false, false, false, false, false, false, false, false] _ w1.drew
  refine segP (ops := hsOps) (N := 102) (β := bn []) (M := fun _ _ => none) (T := TT) tabOk (fun _ _ _ _ _ h => by cases h) (fun _ _ _ _ hd h => And.intro (hd.trans (And.left h)) (And.right h)) hS0 [1, 2, 3, 4] 11 [(0, .v (.slice A (dg x).length c)), (2, vi (-((E : Nat) : Int))), (4, vp bm), (15, vi ↑m), (16, vi (IntKind.i64.wrap (2 * ((m : Nat) : Int)))), (17, vi (IntKind.i64.wrap ((IntKind.i64.wrap (2 * ((m : Nat) : Int))) - 1))), (18, vi (-((E : Nat) : Int))), (19, vi (IntKind.i64.wrap ((-((E : Nat) : Int)) - 1)))] h3 (by kernel_rfl) (by kernel_rfl) sE (fun a4 h4 d4 => ?_)
  replace d4 := d4.trans d3
  clear h3 d3
  show wpAnyLast Tryd.prog .any hsOps _ _ [] 11 #[true, true, true, true, true, false, false, false, false, false, false, false, false, false, false, false] _ w1.drew
  rw [show (IntKind.i64.wrap ((IntKind.i64.wrap (2 * ((m : Nat) : Int))) - 1)) = ((2 * m - 1 : Nat) : Int) from a_2m m hm1 hm] at h4
  rw [show (IntKind.i64.wrap ((-((E : Nat) : Int)) - 1)) = (-((E + 1 : Nat) : Int)) from a_e1 E hE] at h4
  refine segV (N := 102) (β := bn []) (fuel := 10) (i := 6) (d := 21) (s := vi ↑m) (fun _ _ _ _ hd h => And.intro (hd.trans (And.left h)) (And.right h)) hS0 h4 hsF6.1 hsF6.2.1 hsF6.2.2.1 (by decide) (by kernel_rfl) (fun W' hW => op_load hsF6.2.2.2 (h4.2 4 _ rfl) Tryd.isAgg2 hW) (fun a5 h5 d5 => ?_)
  replace d5 := d5.trans d4
  clear h4 d4
  show wpAnyLast Tryd.prog .any hsOps _ _ [] 10 #[true, true, true, true, true, false, true, false, false, false, false, false, false, false, false, false] _ w1.drew
  refine segP (ops := hsOps) (N := 102) (β := bn []) (M := fun _ _ => none) (T := TT) tabOk (fun _ _ _ _ _ h => by cases h) (fun _ _ _ _ hd h => And.intro (hd.trans (And.left h)) (And.right h)) hS0 [7, 8, 9, 10] 6 [(0, .v (.slice A (dg x).length c)), (2, vi (-((E : Nat) : Int))), (4, vp bm), (17, vi ((2 * m - 1 : Nat) : Int)), (19, vi (-((E + 1 : Nat) : Int))), (21, vi ↑m), (22, vi (IntKind.i64.wrap (2 * ((m : Nat) : Int)))), (23, vi (IntKind.i64.wrap ((IntKind.i64.wrap (2 * ((m : Nat) : Int))) + 1))), (24, vi (-((E : Nat) : Int))), (25, vi (IntKind.i64.wrap ((-((E : Nat) : Int)) - 1)))] h5 (by kernel_rfl) (by kernel_rfl) sE (fun a6 h6 d6 => ?_)
  replace d6 := d6.trans d5
  clear h5 d5
  show wpAnyLast Tryd.prog .any hsOps _ _ [] 6 #[true, true, true, true, true, false, true, true, true, true, true, false, false, false, false, false] _ w1.drew
  rw [show (IntKind.i64.wrap ((IntKind.i64.wrap (2 * ((m : Nat) : Int))) + 1)) = ((2 * m + 1 : Nat) : Int) from a_2p m hm] at h6
  rw [show (IntKind.i64.wrap ((-((E : Nat) : Int)) - 1)) = (-((E + 1 : Nat) : Int)) from a_e1 E hE] at h6
  refine hsA_000 w1 bm m E LO HI (.slice A (dg x).length c) [((.slice A (dg x).length c), x)] hLO hHI hLl hHl hE hm (fun a7 W7 v5 v11 b7 b8 h7 d7 hI2 c7 c8 => ?_) a6 w1.drew (sub_ok (E := [(0, .v (.slice A (dg x).length c)), (2, vi (-((E : Nat) : Int))), (4, vp bm), (17, vi ((2 * m - 1 : Nat) : Int)), (19, vi (-((E + 1 : Nat) : Int))), (23, vi ((2 * m + 1 : Nat) : Int)), (25, vi (-((E + 1 : Nat) : Int)))]) h6 sE) d6 hI1
  show Code.wp _ _ _ _ _
  refine wp_seq ?_
  refine wp_seq (wp_region ?_)
  refine gW (s := vi ↑m) 102 [1, 2, 3, 4, 5] h7 d7 rfl (want_ rfl) rfl (by decide) (op_load rfl (h7.2 4 _ rfl) Tryd.isAgg2 hI2.mm) (fun a8 h8 d8 => ?_)
  clear h7 d7
  refine oP 102 [2, 3, 4, 5] [1] [(0, .v (.slice A (dg x).length c)), (2, vi (-((E : Nat) : Int))), (4, vp bm), (7, vp b7), (8, vp b8), (27, vi ↑m), (28, vb ((((m : Nat) : Int) : Int) == 8388608))] h8 d8 (fun a9 h9 d9 => ?_)
  clear h8 d8
  rw [show ((((m : Nat) : Int) : Int) == 8388608) = false from a_ne m hmb] at h9
  refine oP 102 [3, 4, 5] [2] [(0, .v (.slice A (dg x).length c)), (2, vi (-((E : Nat) : Int))), (4, vp bm), (7, vp b7), (8, vp b8), (27, vi ↑m), (28, vb false), (29, vb false)] h9 d9 (fun a10 h10 d10 => ?_)
  clear h9 d9
  refine skip_ops (N := 102) (i := 3) (d := 30) (j := 2) (dj := 29) (b := true) (b' := false) (l := [4, 5]) rfl rfl rfl rfl (by decide) rfl (by decide) h10 (fun a11 h11 d11 => ?_)
  replace d11 := d11.trans d10
  clear h10 d10
  refine skip_ops (N := 102) (i := 4) (d := 31) (j := 2) (dj := 29) (b := true) (b' := false) (l := [5]) rfl rfl rfl rfl (by decide) rfl (by decide) h11 (fun a12 h12 d12 => ?_)
  replace d12 := d12.trans d11
  clear h11 d11
  refine gW (s := .v (Value.bool false)) 102 [] h12 d12 rfl (want_ rfl) rfl (by decide) (op_pickF rfl (h12.2 29 _ rfl) rfl) (fun a13 h13 d13 => ?_)
  clear h12 d12
  show Code.wp _ _ _ _ _
  refine wp_cond_false (h13.2 32 _ rfl) ?_
  refine wp_skip ?_
  show Code.wp _ _ _ _ _
  have hI3 := hI2.perm (vs' := (v5, LO) :: (v11, HI) :: [((.slice A (dg x).length c), x)]) (fun p hp => by simp only [List.mem_cons, List.not_mem_nil, or_false] at hp ⊢; rcases hp with h | h | h <;> simp [h])
  show Code.wp Tryd.prog hsT _ _ _
  refine hs_tail w1 bm b7 b8 m E x last LO HI A c v5 v11 [] hE hm hLl hHl hxl hVl hlt h0s hne hin hs1 hs2 hc1 hc2 a13 W7 (sub_ok h13 sE) d13 hI3 c7 c8 (fun a W hA hD hB => ?_)
  refine wp_ret ?_
  exact ⟨hD, _, results_tmp rfl _ _ _, congrArg Ending.returned (hA.2 6 _ rfl), hB1.trans (hB.mono (Nat.le_of_lt hI0.lt))⟩
end Go.Proofs.YtmgnffklmdhooaaDoor.PAll
namespace Go.Proofs.YtmgnffklmdhooaaDoor.HN
theorem or_add {a b k : Nat} (h : b < 2 ^ k) (q : Nat) (ha : a = 2 ^ k * q) : a ||| b = a + b := by
  subst ha
  exact (Nat.two_pow_add_eq_or_of_lt h q).symm
/-- A float32's bits without the sign, of a half's without the sign. -/
def tf (y : Nat) : Nat :=
  if y / 1024 = 31 then 2139095040 + (if y % 1024 = 0 then 0 else 4194304 ||| y % 1024 * 8192)
  else if y / 1024 = 0 then if y % 1024 = 0 then 0 else (103 + Nat.log2 y) * 8388608 + (y * 2 ^ (23 - Nat.log2 y) - 8388608)
  else (y / 1024 + 112) * 8388608 + y % 1024 * 8192
def t32 (h : Nat) : Nat := h / 32768 * 2147483648 + tf (h % 32768)
end Go.Proofs.YtmgnffklmdhooaaDoor.HN
namespace Go.Proofs.YtmgnffklmdhooaaDoor.PAll
open Go.RowKit Go.Proofs.YtmgnffklmdhooaaDoorW.PrintWords Go.Proofs.YtmgnffklmdhooaaDoorW.PrintLast Go.Proofs.YtmgnffklmdhooaaDoorW.PrintMore Go.Proofs.YtmgnffklmdhooaaDoor.HN
theorem u32_and (a b : Nat) (ha : a < 4294967296) (hb : b < 4294967296) : Go.bits .and .u32 (a : Int) (b : Int) = ((a &&& b : Nat) : Int) := u32_and_nat a b ha hb
theorem and_exp (n : Nat) (hn : n < 4294967296) : Go.bits .and .u32 (n : Int) 2139095040 = ((n / 8388608 % 256 * 8388608 : Nat) : Int) := by
  have e := u32_and n 2139095040 hn (by decide)
  rw [show ((2139095040 : Nat) : Int) = 2139095040 from rfl] at e
  rw [e]
  congr 1
  apply Nat.eq_of_testBit_eq
  intro i
  rw [Nat.testBit_and, show (2139095040 : Nat) = 2 ^ 23 * (2 ^ 8 - 1) from rfl, Nat.testBit_two_pow_mul, Nat.testBit_two_pow_sub_one, Nat.mul_comm (n / 8388608 % 256), show (8388608 : Nat) = 2 ^ 23 from rfl, Nat.testBit_two_pow_mul, show (256 : Nat) = 2 ^ 8 from rfl, Nat.testBit_mod_two_pow, Nat.testBit_div_two_pow]
  by_cases h : 23 ≤ i
  · rw [Nat.sub_add_cancel h]
    simp [h, Bool.and_comm]
  · simp [h]
theorem and16 (a b : Nat) (ha : a < 65536) (hb : b < 65536) : Go.bits .and .u16 (a : Int) (b : Int) = ((a &&& b : Nat) : Int) := u16_and_nat a b ha hb
theorem low16 (a k : Nat) (ha : a < 65536) (hk : k ≤ 15) : Go.bits .and .u16 (a : Int) ((2 ^ k - 1 : Nat) : Int) = ((a % 2 ^ k : Nat) : Int) := by
  have h : 2 ^ k ≤ 2 ^ 15 := Nat.pow_le_pow_right (by decide) hk
  rw [and16 a _ ha (by omega), Nat.and_two_pow_sub_one_eq_mod]
theorem low32 (a k : Nat) (ha : a < 4294967296) (hk : k ≤ 31) : Go.bits .and .u32 (a : Int) ((2 ^ k - 1 : Nat) : Int) = ((a % 2 ^ k : Nat) : Int) := by
  have h : 2 ^ k ≤ 2 ^ 31 := Nat.pow_le_pow_right (by decide) hk
  rw [u32_and_nat a _ ha (by omega), Nat.and_two_pow_sub_one_eq_mod]
theorem l16_1023 (a : Nat) (ha : a < 65536) : Go.bits .and .u16 (a : Int) 1023 = ((a % 1024 : Nat) : Int) := low16 a 10 ha (by decide)
theorem l16_32767 (a : Nat) (ha : a < 65536) : Go.bits .and .u16 (a : Int) 32767 = ((a % 32768 : Nat) : Int) := low16 a 15 ha (by decide)
theorem l16_exp (a : Nat) (ha : a < 65536) : Go.bits .and .u16 ((a : Int) / 1024) 31 = ((a / 1024 % 32 : Nat) : Int) := by
  have e : ((a : Int) / 1024) = ((a / 1024 : Nat) : Int) := by omega
  rw [e]
  exact low16 (a / 1024) 5 (by omega) (by decide)
theorem l32_frac (a : Nat) (ha : a < 4294967296) : Go.bits .and .u32 (a : Int) 8388607 = ((a % 8388608 : Nat) : Int) := low32 a 23 ha (by decide)
theorem l32_exp (a : Nat) (ha : a < 4294967296) : Go.bits .and .u32 ((a : Int) / 8388608) 255 = ((a / 8388608 % 256 : Nat) : Int) := by
  have e : ((a : Int) / 8388608) = ((a / 8388608 : Nat) : Int) := by omega
  rw [e]
  exact low32 (a / 8388608) 8 (by omega) (by decide)
theorem w64_small (n : Int) (h : -9223372036854775808 ≤ n ∧ n < 9223372036854775808) : wrap64 n = n := by
  unfold wrap64
  omega
theorem kindH (a : Nat) (ha : a < 65536) : spec_HalfKind.f (a : Int) = some (if a / 1024 % 32 = 31 then (if a % 1024 = 0 then 1 else 2) else 0) := by
  unfold spec_HalfKind.f
  rw [l16_exp a ha, l16_1023 a ha]
  repeat' split
  all_goals (first | rfl | omega)
theorem kindS (a : Nat) (ha : a < 4294967296) : spec_SingleKind.f (a : Int) = some (if a / 8388608 % 256 = 255 then (if a % 8388608 = 0 then 1 else 2) else 0) := by
  unfold spec_SingleKind.f
  rw [l32_exp a ha, l32_frac a ha]
  repeat' split
  all_goals (first | rfl | omega)
theorem valueS (a : Nat) (ha : a < 4294967296) : spec_SingleValue.f (a : Int) = some (if a / 8388608 % 256 = 0 then (((a % 8388608 : Nat) : Int), -149) else (((8388608 + a % 8388608 : Nat) : Int), ((a / 8388608 % 256 : Nat) : Int) - 150)) := by
  unfold spec_SingleValue.f
  rw [l32_exp a ha, l32_frac a ha, w64_small _ (by omega), w64_small _ (by omega), w64_small _ (by omega), w64_small _ (by omega)]
  repeat' split
  all_goals (first | rfl | omega | (simp; done))
/-- The loop that shifts a subnormal half's bits up. -/
theorem up_law (s : Int) : ∀ (j k : Nat) (e : Int) (c : Nat), 0 ≤ e → e < 4294967296 → c * 2 ^ j < 16777216 → 8388608 ≤ c * 2 ^ j →
    float16_f16bitsToF32bits.l0 (k + j + 1) s e (c : Int) = some (Go.bits .or .u32 (Go.bits .or .u32 s (((((e - j) % 4294967296 + 112) % 4294967296) * 8388608) % 4294967296)) ((c * 2 ^ j - 8388608 : Nat) : Int)) := by
  intro j
  induction j with
  | zero =>
    intro k e c h1 h2 h3 h4
    simp only [Nat.pow_zero, Nat.mul_one] at h3 h4 ⊢
    unfold float16_f16bitsToF32bits.l0
    have n := and_exp c (by omega)
    rw [if_neg (by omega), l32_frac c (by omega)]
    have e1 : c % 8388608 = c - 8388608 := by omega
    have e2 : (e - ((0 : Nat) : Int)) % 4294967296 = e := by omega
    rw [e1, e2]
  | succ j ih =>
    intro k e c h1 h2 h3 h4
    have e0 : c * 2 ^ (j + 1) = c * 2 * 2 ^ j := by rw [Nat.pow_succ, Nat.mul_assoc, Nat.mul_comm 2]
    rw [e0] at h3 h4 ⊢
    have hp : 1 ≤ 2 ^ j := Nat.one_le_two_pow
    have hc : c * 2 ≤ c * 2 * 2 ^ j := Nat.le_mul_of_pos_right _ hp
    have ih2 := ih k ((e - 1) % 4294967296) (c * 2) (by omega) (by omega) h3 h4
    generalize c * 2 * 2 ^ j = q at *
    have n := and_exp c (by omega)
    rw [show k + (j + 1) + 1 = (k + j + 1) + 1 by omega]
    rw [float16_f16bitsToF32bits.l0]
    rw [if_pos (by omega)]
    have e3 : ((c : Int) * 2) % 4294967296 = ((c * 2 : Nat) : Int) := by omega
    have e4 : ((e - 1) % 4294967296 - (j : Int)) % 4294967296 = (e - ((j + 1 : Nat) : Int)) % 4294967296 := by omega
    rw [e3, ih2, e4]
theorem or32 (a b : Nat) (ha : a < 4294967296) (hb : b < 4294967296) : Go.bits .or .u32 (a : Int) (b : Int) = ((a ||| b : Nat) : Int) := u32_or_nat a b ha hb
theorem add31 (s b : Nat) (hb : b < 2147483648) : s * 2147483648 ||| b = s * 2147483648 + b := or_add (k := 31) hb s (Nat.mul_comm ..)
theorem add23 (s x b : Nat) (hb : b < 8388608) : s * 2147483648 + x * 8388608 ||| b = s * 2147483648 + x * 8388608 + b := or_add (k := 23) hb (s * 256 + x) (by omega)
theorem or3 (s x b : Nat) (hs : s < 2) (hx : x < 256) (hb : b < 8388608) : Go.bits .or .u32 (Go.bits .or .u32 ((s * 2147483648 : Nat) : Int) ((x * 8388608 : Nat) : Int)) (b : Int) = ((s * 2147483648 + (x * 8388608 + b) : Nat) : Int) := by
  rw [or32 _ _ (by omega) (by omega), add31 _ _ (by omega), or32 _ _ (by omega) (by omega), add23 _ _ _ hb, Nat.add_assoc]
theorem sgn16 (h : Nat) (hh : h < 65536) : Go.bits .and .u16 (h : Int) 32768 = ((h / 32768 * 32768 : Nat) : Int) := by
  have e := and16 h 32768 hh (by decide)
  rw [show ((32768 : Nat) : Int) = 32768 from rfl] at e
  rw [e]
  congr 1
  apply Nat.eq_of_testBit_eq
  intro i
  rw [Nat.testBit_and, show (32768 : Nat) = 2 ^ 15 from rfl, Nat.testBit_two_pow, Nat.mul_comm, Nat.testBit_two_pow_mul, Nat.testBit_div_two_pow]
  by_cases h : 15 = i
  · subst h
    simp
  · by_cases h2 : 15 ≤ i
    · rw [Nat.sub_add_cancel h2, Nat.testBit_lt_two_pow (Nat.lt_of_lt_of_le (show _ < 2 ^ 16 from hh) (Nat.pow_le_pow_right (by decide) (by omega)))]
      simp
    · simp [h, h2]
theorem exp16 (n : Nat) (hn : n < 65536) : Go.bits .and .u16 (n : Int) 31744 = ((n / 1024 % 32 * 1024 : Nat) : Int) := by
  have e := and16 n 31744 hn (by decide)
  rw [show ((31744 : Nat) : Int) = 31744 from rfl] at e
  rw [e]
  congr 1
  apply Nat.eq_of_testBit_eq
  intro i
  rw [Nat.testBit_and, show (31744 : Nat) = 2 ^ 10 * (2 ^ 5 - 1) from rfl, Nat.testBit_two_pow_mul, Nat.testBit_two_pow_sub_one, Nat.mul_comm (n / 1024 % 32), show (1024 : Nat) = 2 ^ 10 from rfl, Nat.testBit_two_pow_mul, show (32 : Nat) = 2 ^ 5 from rfl, Nat.testBit_mod_two_pow, Nat.testBit_div_two_pow]
  by_cases h : 10 ≤ i
  · rw [Nat.sub_add_cancel h]
    simp [h, Bool.and_comm]
  · simp [h]
set_option maxHeartbeats 1000000 in
theorem to_law (h : Nat) (hh : h < 65536) (k : Nat) : float16_f16bitsToF32bits.f (k + 12) (h : Int) = some ((t32 h : Nat) : Int) := by
  unfold float16_f16bitsToF32bits.f
  rw [exp16 h hh, l16_1023 h hh, sgn16 h hh]
  have e1 : (((h / 1024 % 32 * 1024 : Nat) : Int) % 4294967296) / 1024 = ((h / 1024 % 32 : Nat) : Int) := by omega
  have e2 : ((((h % 1024 : Nat) : Int) % 4294967296) * 8192) % 4294967296 = ((h % 1024 * 8192 : Nat) : Int) := by omega
  have e3 : ((((h / 32768 * 32768 : Nat) : Int) % 4294967296) * 65536) % 4294967296 = ((h / 32768 * 2147483648 : Nat) : Int) := by omega
  rw [e1, e2, e3]
  have hs : h / 32768 < 2 := by omega
  have hx : h / 1024 % 32 = h % 32768 / 1024 := by omega
  have hc : h % 1024 = h % 32768 % 1024 := by omega
  have hy : h % 32768 < 32768 := by omega
  unfold t32 tf
  rw [hx, hc]
  generalize h / 32768 = s at *
  generalize h % 32768 = y at *
  clear e1 e2 e3 hx hc hh h
  have hc : y % 1024 < 1024 := by omega
  have hx : y / 1024 < 32 := by omega
  by_cases h1 : y / 1024 = 31
  · rw [if_pos (by omega), if_pos h1]
    by_cases h2 : y % 1024 = 0
    · rw [if_pos (by omega), if_pos h2, h2]
      have := or3 s 255 0 hs (by decide) (by decide)
      simpa using this
    · rw [if_neg (by omega), if_neg h2]
      have e : Go.bits .or .u32 (Go.bits .or .u32 ((s * 2147483648 : Nat) : Int) 2143289344) ((y % 1024 * 8192 : Nat) : Int) = (((s * 2147483648 ||| 2143289344) ||| y % 1024 * 8192 : Nat) : Int) := by
        have o1 := or32 (s * 2147483648) 2143289344 (by omega) (by decide)
        rw [show ((2143289344 : Nat) : Int) = 2143289344 from rfl] at o1
        rw [o1, or32 _ _ (by
          rw [add31 _ _ (by decide)]
          omega) (by omega)]
      rw [e]
      have o2 : (2139095040 ||| 4194304 : Nat) = 2143289344 := by decide
      have o3 : 4194304 ||| y % 1024 * 8192 < 8388608 := Nat.or_lt_two_pow (n := 23) (by decide) (by omega)
      have o4 : 2139095040 ||| (4194304 ||| y % 1024 * 8192) = 2139095040 + (4194304 ||| y % 1024 * 8192) := or_add (k := 23) o3 255 (by decide)
      rw [← o2, Nat.or_assoc, Nat.or_assoc, o4, add31 _ _ (by omega)]
  · rw [if_neg (by omega), if_neg h1]
    by_cases h2 : y / 1024 = 0
    · rw [if_pos (by omega), if_pos h2]
      by_cases h3 : y % 1024 = 0
      · rw [if_pos (by omega), if_pos h3]
        simp
      · rw [if_neg (by omega), if_neg h3]
        have hy0 : y ≠ 0 := by omega
        have hm : y % 1024 = y := by omega
        have l1 := Nat.log2_self_le hy0
        have l2 := Nat.lt_log2_self (n := y)
        have l3 : y.log2 < 10 := (Nat.log2_lt hy0).mpr (by omega)
        rw [hm, h2]
        generalize hl : y.log2 = l at *
        have p1 : y * 8192 * 2 ^ (10 - l) = y * 2 ^ (23 - l) := by
          rw [Nat.mul_assoc, show (8192 : Nat) = 2 ^ 13 from rfl, ← Nat.pow_add, show 13 + (10 - l) = 23 - l by omega]
        have p2 : 2 ^ (l + 1) * 2 ^ (23 - l) = 16777216 := by rw [← Nat.pow_add, show l + 1 + (23 - l) = 24 by omega]
        have p3 : 2 ^ l * 2 ^ (23 - l) = 8388608 := by rw [← Nat.pow_add, show l + (23 - l) = 23 by omega]
        have p4 : y * 2 ^ (23 - l) < 16777216 := by
          rw [← p2]
          exact Nat.mul_lt_mul_of_pos_right l2 (Nat.pow_pos (by decide))
        have p5 : 8388608 ≤ y * 2 ^ (23 - l) := by
          rw [← p3]
          exact Nat.mul_le_mul_right _ l1
        have u := up_law ((s * 2147483648 : Nat) : Int) (10 - l) (k + l + 1) (((0 : Nat) : Int) + 1) (y * 8192) (by decide) (by decide) (by rw [p1]; exact p4) (by rw [p1]; exact p5)
        rw [show k + l + 1 + (10 - l) + 1 = k + 12 by omega, p1] at u
        rw [u]
        have e4 : (((((0 : Nat) : Int) + 1 - ((10 - l : Nat) : Int)) % 4294967296 + 112) % 4294967296 * 8388608) % 4294967296 = (((103 + l) * 8388608 : Nat) : Int) := by omega
        rw [e4]
        generalize y * 2 ^ (23 - l) = q at *
        rw [or3 s (103 + l) (q - 8388608) hs (by omega) (by omega)]
    · rw [if_neg (by omega), if_neg h2]
      have e4 : ((((y / 1024 : Nat) : Int) + 112) * 8388608) % 4294967296 = (((y / 1024 + 112) * 8388608 : Nat) : Int) := by omega
      rw [e4, or3 s (y / 1024 + 112) (y % 1024 * 8192) hs (by omega) (by omega)]
theorem toH (h : Nat) (hh : h < 65536) (k : Nat) : impl_HalfTo.f (k + 12) (h : Int) = some ((t32 h : Nat) : Int) := by
  unfold impl_HalfTo.f
  rw [bnd (to_law h hh k), if_pos (by omega)]
end Go.Proofs.YtmgnffklmdhooaaDoor.PAll
namespace Go.Proofs.YtmgnffklmdhooaaDoor.PAll
open Go.RowKit Go.Proofs.YtmgnffklmdhooaaDoorW.PrintWords Go.Proofs.YtmgnffklmdhooaaDoorW.PrintLast Go.Proofs.YtmgnffklmdhooaaDoorW.PrintMore
set_option linter.unusedVariables false
set_option linter.unusedSimpArgs false
/-- A conversion of a number from one kind of float to another. -/
def cvB (src dst : FloatKind) (b r : Nat) : Bool := match src.decode b with
  | .number s m e => decide (dst.encode (.number s m e) = r) && !(dst.decode r).isInfinity
  | .infinity s => decide (dst.encode (.infinity s) = r)
  | .nan _ _ => false
def upF (b : Nat) : Nat := FloatKind.f64.encode (FloatKind.f32.decode b)
def cvs (b : Nat) : Bool := cvB .f32 .f64 b (upF b) && cvB .f64 .f32 (upF b) b
theorem lg23 {x : Nat} (h : x < 8388608) : (8388608 + x).log2 = 23 := by
  have h1 : 23 ≤ (8388608 + x).log2 := (Nat.le_log2 (by omega)).2 (by omega)
  have h2 : (8388608 + x).log2 < 24 := (Nat.log2_lt (by omega)).2 (by omega)
  omega
theorem lg52 {x : Nat} (h : x < 4503599627370496) : (4503599627370496 + x).log2 = 52 := by
  have h1 : 52 ≤ (4503599627370496 + x).log2 := (Nat.le_log2 (by omega)).2 (by omega)
  have h2 : (4503599627370496 + x).log2 < 53 := (Nat.log2_lt (by omega)).2 (by omega)
  omega
theorem c32 : Ieee.single.signWeight = 2147483648 ∧ Ieee.single.binade = 8388608 ∧ Ieee.single.infRung = 2139095040 ∧ Ieee.single.leastPlace = -149 ∧ Ieee.single.fractionBits = 23 := ⟨by kernel_rfl, by kernel_rfl, by kernel_rfl, by kernel_rfl, by kernel_rfl⟩
theorem c64 : Ieee.double.signWeight = 9223372036854775808 ∧ Ieee.double.binade = 4503599627370496 ∧ Ieee.double.infRung = 9218868437227405312 ∧ Ieee.double.leastPlace = -1074 ∧ Ieee.double.fractionBits = 52 := ⟨by kernel_rfl, by kernel_rfl, by kernel_rfl, by kernel_rfl, by kernel_rfl⟩
theorem read_num (F : Ieee.Format) (b : Nat) (s ex fr : Nat) (hs : b / F.signWeight % 2 = s) (hr : b % F.signWeight = ex * F.binade + fr) (h1 : 1 ≤ ex) (hf : fr < F.binade) (hi : ex * F.binade + fr < F.infRung) : F.read b = .number (s == 1) (F.binade + fr) (F.leastPlace + (ex - 1 : Nat)) := by
  have h3 : F.binade ≤ ex * F.binade := Nat.le_mul_of_pos_left _ h1
  have h4 : (ex * F.binade + fr) % F.binade = fr := by rw [Nat.mul_add_mod_self_right, Nat.mod_eq_of_lt hf]
  have h5 : (ex * F.binade + fr) / F.binade = ex := by
    rw [Nat.mul_comm, Nat.mul_add_div (by omega), Nat.div_eq_of_lt hf, Nat.add_zero]
  unfold Ieee.Format.read
  simp only [hs, hr]
  rw [if_neg (by omega), if_pos hi, h4, h5]
theorem dec32 (s : Nat) (hs : s ≤ 1) (ex fr : Nat) (h1 : 1 ≤ ex) (h2 : ex ≤ 254) (hf : fr < 8388608) : FloatKind.f32.decode (s * 2147483648 + ex * 8388608 + fr) = .number (s == 1) (8388608 + fr) ((ex : Int) - 150) := by
  obtain ⟨a1, a2, a3, a4, a5⟩ := c32
  have h := read_num Ieee.single (s * 2147483648 + ex * 8388608 + fr) s ex fr (by rw [a1]; omega) (by rw [a1, a2]; omega) h1 (by rw [a2]; omega) (by rw [a2, a3]; omega)
  rw [a2, a4] at h
  have e : (-149 + (ex - 1 : Nat) : Int) = (ex : Int) - 150 := by omega
  rw [e] at h
  exact h
theorem dec64 (s : Nat) (hs : s ≤ 1) (ex fr : Nat) (h1 : 1 ≤ ex) (h2 : ex ≤ 2046) (hf : fr < 4503599627370496) : FloatKind.f64.decode (s * 9223372036854775808 + ex * 4503599627370496 + fr) = .number (s == 1) (4503599627370496 + fr) ((ex : Int) - 1075) := by
  obtain ⟨a1, a2, a3, a4, a5⟩ := c64
  have h := read_num Ieee.double (s * 9223372036854775808 + ex * 4503599627370496 + fr) s ex fr (by rw [a1]; omega) (by rw [a1, a2]; omega) h1 (by rw [a2]; omega) (by rw [a2, a3]; omega)
  rw [a2, a4] at h
  have e : (-1074 + (ex - 1 : Nat) : Int) = (ex : Int) - 1075 := by omega
  rw [e] at h
  exact h
theorem cut_exact (neg : Bool) (q d : Nat) (hq : q ≠ 0) : Ieee.Toward.even.cut neg (q * 2 ^ d) d = q := by
  have hp : 0 < 2 ^ d := Nat.pow_pos (by decide)
  have h1 : d ≤ (q * 2 ^ d).log2 := (Nat.le_log2 (by have := Nat.mul_pos (Nat.pos_of_ne_zero hq) hp; omega)).2 (Nat.le_mul_of_pos_left _ (Nat.pos_of_ne_zero hq))
  have h2 : min d ((q * 2 ^ d).log2 + 2) = d := Nat.min_eq_left (by omega)
  unfold Ieee.Toward.cut
  simp only [h2, Nat.shiftLeft_eq, Nat.one_mul, Nat.mul_mod_left, Nat.mul_div_cancel _ hp, Nat.mul_zero]
  have e1 : (decide (2 ^ d < 0)) = false := by simp
  have e2 : (2 ^ d == 0) = false := by simp
  rw [e1, e2]
  rfl
/-- A number that the format has, written. -/
theorem near_num (F : Ieee.Format) (s : Bool) (mag q : Nat) (place last : Int) (d u : Nat) (h0 : mag ≠ 0) (hl : max (place + mag.log2 - F.fractionBits) F.leastPlace = last) (hu : (place - last).toNat = u) (hd : (last - place).toNat = d) (hq : mag <<< u = q * 2 ^ d) (hq0 : q ≠ 0) :
    F.nearest s mag place = F.word s (min ((last - F.leastPlace).toNat * F.binade + q) F.infRung) := by
  unfold Ieee.Format.nearest
  simp only [hl, hu, hd, hq, cut_exact s q d hq0]
  rw [if_neg h0]
theorem enc64 (s : Bool) (ex fr : Nat) (h1 : 1 ≤ ex) (h2 : ex ≤ 254) (hf : fr < 8388608) : FloatKind.f64.encode (.number s (8388608 + fr) ((ex : Int) - 150)) = (if s then 1 else 0) * 9223372036854775808 + (ex + 896) * 4503599627370496 + fr * 536870912 := by
  obtain ⟨a1, a2, a3, a4, a5⟩ := c64
  have hp : (2 : Nat) ^ 29 = 536870912 := by decide
  have h := near_num Ieee.double s (8388608 + fr) ((8388608 + fr) * 536870912) ((ex : Int) - 150) ((ex : Int) - 179) 0 29 (by omega) (by rw [lg23 hf, a4, a5]; omega) (by omega) (by omega) (by rw [Nat.shiftLeft_eq, hp, Nat.pow_zero, Nat.mul_one]) (by omega)
  have e1 : ((ex : Int) - 179 - (-1074)).toNat = ex + 895 := by omega
  rw [a2, a3, a4, e1, Nat.min_eq_left (by omega)] at h
  refine Eq.trans h ?_
  unfold Ieee.Format.word
  rw [a1]
  cases s
  · simp only [Bool.false_eq_true, if_false]
    omega
  · simp only [if_true]
    omega
theorem enc32 (s : Bool) (ex fr : Nat) (h1 : 1 ≤ ex) (h2 : ex ≤ 254) (hf : fr < 8388608) : FloatKind.f32.encode (.number s (4503599627370496 + fr * 536870912) (((ex + 896 : Nat) : Int) - 1075)) = (if s then 1 else 0) * 2147483648 + ex * 8388608 + fr := by
  obtain ⟨a1, a2, a3, a4, a5⟩ := c32
  have hp : (2 : Nat) ^ 29 = 536870912 := by decide
  have h := near_num Ieee.single s (4503599627370496 + fr * 536870912) (8388608 + fr) (((ex + 896 : Nat) : Int) - 1075) ((ex : Int) - 150) 29 0 (by omega) (by rw [lg52 (x := fr * 536870912) (by omega), a4, a5]; omega) (by omega) (by omega) (by rw [Nat.shiftLeft_zero, hp]; omega) (by omega)
  have e1 : ((ex : Int) - 150 - (-149)).toNat = ex - 1 := by omega
  rw [a2, a3, a4, e1, Nat.min_eq_left (by omega)] at h
  refine Eq.trans h ?_
  unfold Ieee.Format.word
  rw [a1]
  cases s
  · simp only [Bool.false_eq_true, if_false]
    omega
  · simp only [if_true]
    omega
theorem cvB_num {src dst : FloatKind} {b r : Nat} {s s' : Bool} {m m' : Nat} {e e' : Int} (h1 : src.decode b = .number s m e) (h2 : dst.encode (.number s m e) = r) (h3 : dst.decode r = .number s' m' e') : cvB src dst b r = true := by
  unfold cvB
  rw [h1]
  simp only [h2, h3, Ieee.Datum.isInfinity, decide_true, Bool.not_false, Bool.and_self]
theorem cvs_num {b c : Nat} {s s' : Bool} {m m' : Nat} {e e' : Int} (h1 : FloatKind.f32.decode b = .number s m e) (h2 : FloatKind.f64.encode (.number s m e) = c) (h3 : FloatKind.f64.decode c = .number s' m' e') (h4 : FloatKind.f32.encode (.number s' m' e') = b) : cvs b = true := by
  have hu : upF b = c := by
    unfold upF
    rw [h1, h2]
  unfold cvs
  rw [hu, cvB_num h1 h2 h3, cvB_num h3 h4 h1]
  rfl
theorem s_one (s : Nat) (hs : s ≤ 1) : (if (s == 1) = true then 1 else 0) = s := by
  rcases Nat.le_one_iff_eq_zero_or_eq_one.1 hs with rfl | rfl <;> rfl
theorem cvs_ok (s ex fr : Nat) (hs : s ≤ 1) (h1 : 1 ≤ ex) (h2 : ex ≤ 254) (hf : fr < 8388608) : cvs (s * 2147483648 + ex * 8388608 + fr) = true := by
  have h4 := enc64 (s == 1) ex fr h1 h2 hf
  have h5 := enc32 (s == 1) ex fr h1 h2 hf
  rw [s_one s hs] at h4 h5
  exact cvs_num (dec32 s hs ex fr h1 h2 hf) h4 (dec64 s hs (ex + 896) (fr * 536870912) (by omega) (by omega) (by omega)) h5
/-- A number is reckoned before it is used (the kernel would reckon it at each use). -/
def force {α : Type} (n : Nat) (f : Nat → α) : α := match n with
  | 0 => f 0
  | k + 1 => f (k + 1)
theorem force_eq {α : Type} (n : Nat) (f : Nat → α) : force n f = f n := by cases n <;> rfl
def forceI {α : Type} (i : Int) (f : Int → α) : α := match i with
  | .ofNat n => force n (fun k => f (.ofNat k))
  | .negSucc n => force n (fun k => f (.negSucc k))
theorem forceI_eq {α : Type} (i : Int) (f : Int → α) : forceI i f = f i := by
  cases i with
  | ofNat n => exact force_eq n (fun k => f (.ofNat k))
  | negSucc n => exact force_eq n (fun k => f (.negSucc k))
/-- A product with a power of ten, in natural numbers. -/
def usF (x p : Nat) (S : Int) : Option Int :=
  forceI (Go.bits .and .i64 S 63) fun t => force (x * pHi p) fun y => force (y / 18446744073709551616) fun hi => forceI (shr .u64 ((hi : Nat) : Int) t) fun q =>
    if 0 ≤ t then (if shl .u64 q t = ((hi : Nat) : Int) then some (Go.bits .or .u64 q (if 1 < y % 18446744073709551616 then 1 else 0)) else some (Go.bits .or .u64 q 1)) else none
def usN (x p : Nat) (S : Int) : Option Int :=
  if 0 ≤ Go.bits .and .i64 S 63 then (if shl .u64 (shr .u64 ((mHi x (pHi p) : Nat) : Int) (Go.bits .and .i64 S 63)) (Go.bits .and .i64 S 63) = ((mHi x (pHi p) : Nat) : Int) then some (Go.bits .or .u64 (shr .u64 ((mHi x (pHi p) : Nat) : Int) (Go.bits .and .i64 S 63)) (if 1 < mLo x (pHi p) then 1 else 0)) else some (Go.bits .or .u64 (shr .u64 ((mHi x (pHi p) : Nat) : Int) (Go.bits .and .i64 S 63)) 1)) else none
theorem us_N (x p : Nat) (S : Int) (hx : x < 18446744073709551616) (hp : pHi p < 18446744073709551616) : us ((x : Nat) : Int) p S = usN x p S := by
  have h1 := mul64_law x (pHi p) hx hp
  have h2 : bits_Mul64.f ((x : Nat) : Int) 0 = some (0, 0) := by
    have := mul64_law x 0 hx (by decide)
    simpa [mHi, mLo] using this
  have hh := mHi_lt hx hp
  have hl := mLo_lt (x := x) (y := pHi p)
  unfold us usN strconv_uscale.f
  rw [bnd h1]
  generalize Go.bits .and .i64 S 63 = t
  by_cases h0 : 0 ≤ t
  · rw [if_pos h0, if_pos h0]
    by_cases h3 : shl .u64 (shr .u64 ((mHi x (pHi p) : Nat) : Int) t) t = ((mHi x (pHi p) : Nat) : Int)
    · rw [if_pos h3, if_pos h3, bnd h2]
      have e1 : strconv_bool2_uint64.f (decide (((mLo x (pHi p) : Nat) : Int) < 0)) = some 0 := by
        rw [decide_eq_false (by omega)]
        rfl
      have e2 : strconv_bool2_uint64.f (decide (IntKind.u64.wrap (((mLo x (pHi p) : Nat) : Int) - 0) > 1)) = some (if 1 < mLo x (pHi p) then 1 else 0) := by
        rw [Int.sub_zero, n_c64 _ hl]
        by_cases h4 : 1 < mLo x (pHi p)
        · rw [decide_eq_true (by omega), if_pos h4]
          rfl
        · rw [decide_eq_false (by omega), if_neg h4]
          rfl
      rw [bnd e1, bnd e2, bnd rfl, if_pos ⟨rfl, rfl, rfl⟩, Int.sub_zero, n_c64 _ hh]
    · rw [if_neg h3, if_neg h3, bnd rfl, if_pos ⟨rfl, rfl, rfl⟩]
  · rw [if_neg h0, if_neg h0]
    rfl
theorem usF_eq (x p : Nat) (S : Int) : usF x p S = usN x p S := by
  unfold usF usN mHi mLo
  simp only [force_eq, forceI_eq]
def sfN (m : Nat) (e : Int) : Option (Int × Int) :=
  (sfP ((m : Nat) : Int) e).bind fun r => forceI (IntKind.i64.wrap (0 - r)) fun pI => force pI.toNat fun p =>
    if pI = (p : Int) ∧ 3 ≤ p ∧ p ≤ 15 ∧ -189 < e ∧ Go.bits .and .i64 (IntKind.i64.wrap (((m : Nat) : Int) / 1099511627776)) 1 = 0 then
      (strconv_log2Pow10.f (p : Int)).bind fun lp => forceI (scS e lp) fun S => (usF (sfMin ((m : Nat) : Int)).toNat p S).bind fun a => (usF (sfMax ((m : Nat) : Int)).toNat p S).bind fun b =>
        (strconv_unrounded_nudge.f a 0).bind fun na => (strconv_unrounded_ceil.f na).bind fun dn => forceI dn fun dn => (strconv_unrounded_nudge.f b 0).bind fun nb => (strconv_unrounded_floor.f nb).bind fun dx => forceI dx fun dx => forceI (IntKind.u64.wrap (Int.tdiv dx 10)) fun d10 =>
          if IntKind.u64.wrap (d10 * 10) ≥ dn then some (d10, IntKind.i64.wrap (0 - IntKind.i64.wrap ((p : Int) - 1)))
          else if dn < dx then (usF m p S).bind fun c => (strconv_unrounded_round.f c).bind fun d => some (d, IntKind.i64.wrap (0 - (p : Int)))
          else some (dn, IntKind.i64.wrap (0 - (p : Int)))
    else none
theorem pHi_lt : ∀ p, p ≤ 15 → pHi p < 18446744073709551616 := by decide
theorem sfC_N (m : Nat) (e : Int) (hm : m < 18446744073709551616) : sfC ((m : Nat) : Int) e = sfN m e := by
  unfold sfC sfN
  refine congrArg (Option.bind _) (funext fun r => ?_)
  simp only [force_eq, forceI_eq, usF_eq]
  by_cases hc : IntKind.i64.wrap (0 - r) = (((IntKind.i64.wrap (0 - r)).toNat : Nat) : Int) ∧ 3 ≤ (IntKind.i64.wrap (0 - r)).toNat ∧ (IntKind.i64.wrap (0 - r)).toNat ≤ 15 ∧ -189 < e ∧ Go.bits .and .i64 (IntKind.i64.wrap (((m : Nat) : Int) / 1099511627776)) 1 = 0
  · rw [if_pos hc, if_pos hc]
    have hp := pHi_lt _ hc.2.2.1
    have hmn : 0 ≤ sfMin ((m : Nat) : Int) ∧ sfMin ((m : Nat) : Int) < 18446744073709551616 := by
      unfold sfMin
      split <;> (rw [IntKind.wrap_u64]; omega)
    have hmx : 0 ≤ sfMax ((m : Nat) : Int) ∧ sfMax ((m : Nat) : Int) < 18446744073709551616 := by
      unfold sfMax
      rw [IntKind.wrap_u64]
      omega
    generalize sfMin ((m : Nat) : Int) = A at hmn ⊢
    generalize sfMax ((m : Nat) : Int) = B at hmx ⊢
    obtain ⟨A, rfl⟩ := Int.eq_ofNat_of_zero_le hmn.1
    obtain ⟨B, rfl⟩ := Int.eq_ofNat_of_zero_le hmx.1
    have u1 := fun S => us_N A _ S (by omega) hp
    have u2 := fun S => us_N B _ S (by omega) hp
    have u3 := fun S => us_N m _ S hm hp
    simp only [u1, u2, u3, Int.toNat_natCast]
  · rw [if_neg hc, if_neg hc]
def lowN (m E : Nat) : Nat := if m = 8388608 then (4 * m - 1) * 10 ^ (200 - (E + 2)) * 5 ^ (E + 2) else (2 * m - 1) * 10 ^ (200 - (E + 1)) * 5 ^ (E + 1)
def highN (m E : Nat) : Nat := (2 * m + 1) * 10 ^ (200 - (E + 1)) * 5 ^ (E + 1)
def midN (m E : Nat) : Nat := m * 10 ^ (200 - E) * 5 ^ E
/-- x is the shortest number between lo and hi, last noughts at its end. -/
def shortB (lo hi mid m x last : Nat) : Bool :=
  inB lo hi m x && (!inB lo hi m (x / 10 ^ (last + 1) * 10 ^ (last + 1)) && (!inB lo hi m (x / 10 ^ (last + 1) * 10 ^ (last + 1) + 10 ^ (last + 1)) && (decide (cmpI (mid * 2) (x * 2 + 10 ^ last) ≤ 0) && decide (cmpI (x * 2) (mid * 2 + 10 ^ last) ≤ 0))))
def inF (lo hi x : Nat) (even : Bool) : Bool := match even with
  | true => Nat.ble lo x && Nat.ble x hi
  | false => Nat.blt lo x && Nat.blt x hi
def shortF (lo hi mid m x last : Nat) : Bool :=
  force (10 ^ last) fun t => force (t * 10) fun u => force (x / u * u) fun c => match Nat.beq (m % 2) 0 with
    | true => inF lo hi x true && (!inF lo hi c true && (!inF lo hi (c + u) true && (Nat.ble (mid * 2) (x * 2 + t) && Nat.ble (x * 2) (mid * 2 + t))))
    | false => inF lo hi x false && (!inF lo hi c false && (!inF lo hi (c + u) false && (Nat.ble (mid * 2) (x * 2 + t) && Nat.ble (x * 2) (mid * 2 + t))))
theorem cmpI_neg (a b : Nat) : decide (cmpI a b < 0) = Nat.blt a b := by
  unfold cmpI
  by_cases h1 : a < b
  · rw [if_pos h1]
    exact (decide_eq_true (by decide)).trans (Nat.blt_eq.mpr h1).symm
  · have h3 : Nat.blt a b = false := Bool.eq_false_iff.mpr (fun h => h1 (Nat.blt_eq.mp h))
    rw [if_neg h1, h3]
    split <;> decide
theorem cmpI_le (a b : Nat) : decide (cmpI a b ≤ 0) = Nat.ble a b := by
  unfold cmpI
  by_cases h1 : a < b
  · rw [if_pos h1]
    exact (decide_eq_true (by decide)).trans (Nat.ble_eq.mpr (Nat.le_of_lt h1)).symm
  · rw [if_neg h1]
    by_cases h2 : b < a
    · have h3 : Nat.ble a b = false := Bool.eq_false_iff.mpr (fun h => absurd (Nat.ble_eq.mp h) (by omega))
      rw [if_pos h2, h3]
      decide
    · rw [if_neg h2]
      exact (decide_eq_true (by decide)).trans (Nat.ble_eq.mpr (by omega)).symm
theorem inF_eq (lo hi m x : Nat) (b : Bool) (h : Nat.beq (m % 2) 0 = b) : inB lo hi m x = inF lo hi x b := by
  unfold inB inF
  rw [cmpI_neg, cmpI_neg, cmpI_le, cmpI_le]
  cases b
  · have h1 : ¬ m % 2 = 0 := fun e => by rw [e] at h; cases h
    simp only [h1, decide_false, Bool.false_and, Bool.or_false]
  · have h1 : m % 2 = 0 := Nat.eq_of_beq_eq_true h
    simp only [h1, decide_true, Bool.true_and]
    cases h2 : Nat.ble lo x
    · have h3 : Nat.blt lo x = false := Bool.eq_false_iff.mpr (fun h => by
        have h4 := Nat.ble_eq.mpr (Nat.le_of_lt (Nat.blt_eq.mp h))
        rw [h2] at h4
        cases h4)
      rw [h3]
      rfl
    · cases h5 : Nat.ble x hi
      · have h3 : Nat.blt x hi = false := Bool.eq_false_iff.mpr (fun h => by
          have h4 := Nat.ble_eq.mpr (Nat.le_of_lt (Nat.blt_eq.mp h))
          rw [h5] at h4
          cases h4)
        rw [h3, Bool.and_false]
        rfl
      · simp
theorem shortF_eq (lo hi mid m x last : Nat) : shortF lo hi mid m x last = shortB lo hi mid m x last := by
  unfold shortF shortB
  simp only [force_eq, cmpI_le, Nat.pow_succ]
  cases h : Nat.beq (m % 2) 0 <;> simp only [inF_eq lo hi m _ _ h]
/-- What is seen of digits R (n of them, nd without the noughts at the end), their power of ten PR, for the float32 m 2^-E. -/
def seenB (m E R n nd : Nat) (PR : Int) : Bool :=
  decide (6 ≤ n ∧ n ≤ 9 ∧ R < 10 ^ n ∧ 10 ^ (n - 1) ≤ R ∧ R < 1000000000 ∧ -50 < PR ∧ PR < 50 ∧ 0 < nd ∧ nd ≤ n ∧ R / 10 ^ (n - nd) % 10 ≠ 0) &&
    shortB (lowN m E) (highN m E) (midN m E) m (R / 10 ^ (n - nd) * 10 ^ (200 + ((n : Int) + PR) - nd).toNat) (200 + ((n : Int) + PR) - nd).toNat
def seenF (m E R n nd : Nat) (PR : Int) : Bool :=
  force (R / 10 ^ (n - nd)) fun N => (Nat.blt 5 n && (Nat.ble n 9 && (Nat.blt R (10 ^ n) && (Nat.ble (10 ^ (n - 1)) R && (Nat.blt R 1000000000 && (decide (-50 < PR) && (decide (PR < 50) && (Nat.blt 0 nd && (Nat.ble nd n && !Nat.beq (N % 10) 0))))))))) &&
    force (200 + ((n : Int) + PR) - nd).toNat fun last => force (lowN m E) fun lo => force (highN m E) fun hi => force (midN m E) fun mid => force (N * 10 ^ last) fun x => shortF lo hi mid m x last
theorem seenF_of {m E R n nd : Nat} {PR : Int} (h : seenF m E R n nd PR = true) : seenB m E R n nd PR = true := by
  unfold seenF at h
  simp only [force_eq, shortF_eq, Bool.and_eq_true, Nat.blt_eq, Nat.ble_eq, decide_eq_true_eq] at h
  obtain ⟨⟨h1, h2, h3, h4, h5, h6, h7, h8, h9, h10⟩, h11⟩ := h
  unfold seenB
  have h12 : ¬ R / 10 ^ (n - nd) % 10 = 0 := fun e => by
    rw [e] at h10
    cases h10
  rw [h11, Bool.and_true]
  exact decide_eq_true ⟨h1, h2, h3, h4, h5, h6, h7, h8, h9, h12⟩
def halfB (h : Nat) : Bool := force (HN.tf h) fun b => force (8388608 + b % 8388608) fun m => force (b / 8388608) fun ex => (Nat.ble 103 ex && Nat.ble ex 142) && match sfN (m * 1099511627776) ((ex : Int) - 190) with
    | some (.ofNat R, PR) => force R fun R => forceI PR fun PR => force (ndN R) fun n => force (strip (dgC n R) n) fun nd => seenF m (150 - ex) R n nd PR
    | _ => false
theorem halfB_of {h : Nat} (hh : halfB h = true) : ∃ R PR, 103 ≤ HN.tf h / 8388608 ∧ HN.tf h / 8388608 ≤ 142 ∧ sfN ((8388608 + HN.tf h % 8388608) * 1099511627776) (((HN.tf h / 8388608 : Nat) : Int) - 190) = some (((R : Nat) : Int), PR) ∧
    seenB (8388608 + HN.tf h % 8388608) (150 - HN.tf h / 8388608) R (ndN R) (strip (dgC (ndN R) R) (ndN R)) PR = true := by
  unfold halfB at hh
  simp only [force_eq, forceI_eq, Bool.and_eq_true, Nat.ble_eq] at hh
  obtain ⟨⟨h1, h2⟩, h3⟩ := hh
  split at h3
  · next R PR heq => exact ⟨R, PR, h1, h2, heq, seenF_of h3⟩
  · cases h3
def halfC (h : Nat) : Bool := Nat.beq h 0 || halfB h
/-- A test of all the numbers from a on, 2^n of them. -/
def allB (f : Nat → Bool) : Nat → Nat → Bool
  | 0, a => f a
  | n + 1, a => allB f n a && force (a + 2 ^ n) (allB f n)
theorem allB_join {f : Nat → Bool} {n a : Nat} (h1 : allB f n a = true) (h2 : allB f n (a + 2 ^ n) = true) : allB f (n + 1) a = true := by
  simp only [allB, force_eq, h1, h2, Bool.and_self]
theorem allB_at {f : Nat → Bool} : ∀ {n a : Nat}, allB f n a = true → ∀ x, a ≤ x → x < a + 2 ^ n → f x = true
  | 0, a, h, x, h1, h2 => by
    obtain rfl : x = a := by simp at h2; omega
    exact h
  | n + 1, a, h, x, h1, h2 => by
    simp only [allB, force_eq, Bool.and_eq_true] at h
    by_cases hx : x < a + 2 ^ n
    · exact allB_at h.1 x h1 hx
    · refine allB_at h.2 x (by omega) ?_
      rw [Nat.pow_succ] at h2
      omega
end Go.Proofs.YtmgnffklmdhooaaDoor.PAll
namespace Go.Proofs.YtmgnffklmdhooaaDoor.PAll
open Go.RowKit Go.Proofs.YtmgnffklmdhooaaDoorW.PrintWords Go.Proofs.YtmgnffklmdhooaaDoorW.PrintLast Go.Proofs.YtmgnffklmdhooaaDoorW.PrintMore
set_option linter.unusedVariables false
set_option linter.unusedSimpArgs false
theorem and255_all : ∀ x, x < 512 → Go.bits .and .i64 ((x : Nat) : Int) 255 = ((x % 256 : Nat) : Int) := by decide +kernel
theorem or23 (fr : Nat) (hf : fr < 8388608) : Go.bits .or .u64 ((fr : Nat) : Int) 8388608 = ((8388608 + fr : Nat) : Int) := by
  have h := u64_or_nat fr 8388608 (by omega) (by decide)
  have h2 : fr ||| 8388608 = 8388608 + fr := by
    rw [Nat.or_comm]
    exact HN.or_add (k := 23) hf 1 (by decide)
  rw [h2] at h
  exact h
theorem len24 (fr : Nat) (hf : fr < 8388608) : lenN (8388608 + fr) = 24 := by
  unfold lenN
  rw [if_neg (by omega), lg23 hf]
theorem wE (ex : Nat) (h : ex ≤ 254) : IntKind.i64.wrap (((ex : Nat) : Int) + (-127)) = (ex : Int) - 127 := by
  rw [IntKind.wrap_i64]
  omega
theorem wes (ex : Nat) (h : ex ≤ 254) : IntKind.i64.wrap ((IntKind.i64.wrap (((ex : Int) - 127) - 40)) - 23) = (ex : Int) - 190 := by
  rw [IntKind.wrap_i64, IntKind.wrap_i64]
  omega
theorem wM (fr : Nat) (hf : fr < 8388608) : IntKind.u64.wrap (((8388608 + fr : Nat) : Int) * 1099511627776) = (((8388608 + fr) * 1099511627776 : Nat) : Int) := by
  rw [IntKind.wrap_u64]
  omega
theorem wdp (n : Nat) (PR : Int) (h : n ≤ 9) (h1 : -50 < PR) (h2 : PR < 50) : IntKind.i64.wrap ((n : Int) + PR) = (n : Int) + PR := by
  rw [IntKind.wrap_i64]
  omega
theorem wex (s ex fr b : Nat) (hs : s ≤ 1) (hb : b = s * 2147483648 + ex * 8388608 + fr) (h2 : ex ≤ 254) (hf : fr < 8388608) : Go.bits .and .i64 (IntKind.i64.wrap (((b : Nat) : Int) / 8388608)) 255 = ((ex : Nat) : Int) := by
  have h1 : IntKind.i64.wrap (((b : Nat) : Int) / 8388608) = ((s * 256 + ex : Nat) : Int) := by
    rw [IntKind.wrap_i64]
    omega
  rw [h1, and255_all _ (by omega)]
  have h3 : (s * 256 + ex) % 256 = ex := by omega
  rw [h3]
theorem wfr (s ex fr b : Nat) (hs : s ≤ 1) (hb : b = s * 2147483648 + ex * 8388608 + fr) (h2 : ex ≤ 254) (hf : fr < 8388608) : Go.bits .and .u64 ((b : Nat) : Int) 8388607 = ((fr : Nat) : Int) := by
  rw [n_and23 b (by omega)]
  have h3 : b % 8388608 = fr := by omega
  rw [h3]
/-- The octets of the text of digits R, with its sign. -/
def txtL (s : Nat) (R : Nat) (PR : Int) : List Int := (if s = 1 then [45] else []) ++ efgR false (dgC (ndN R) R) ((ndN R : Int) + PR) (strip (dgC (ndN R) R) (ndN R))
theorem efgR_true (c : Nat → Int) (dp : Int) (nd : Nat) : efgR true c dp nd = [45] ++ efgR false c dp nd := by
  unfold efgR
  simp
theorem ftoaIs_fin (s ex fr b R : Nat) (PR : Int) (hs : s ≤ 1) (hb : b = s * 2147483648 + ex * 8388608 + fr) (h1 : 1 ≤ ex) (h2 : ex ≤ 254) (hf : fr < 8388608) (hC : sfC (((8388608 + fr) * 1099511627776 : Nat) : Int) ((ex : Int) - 190) = some (((R : Nat) : Int), PR))
    (hn1 : 6 ≤ ndN R) (hn9 : ndN R ≤ 9) (hR : R < 10 ^ ndN R) (hR9 : R < 1000000000) (hp1 : -50 < PR) (hp2 : PR < 50) (hz : 0 < strip (dgC (ndN R) R) (ndN R)) (hzn : strip (dgC (ndN R) R) (ndN R) ≤ ndN R) : FtoaIs b (txtL s R PR) := by
  intro w0 w v H0 H hB hrow
  have hrow' := Kd.R_mono (ok' := fun k => k < w.heap.size) hrow (fun k hk => hk.2)
  have h := fun neg hn => ftoa_walk s neg hs hn b ex fr (ndN R) _ R _ _ PR _ hb h1 h2 hf (wex s ex fr b hs hb h2 hf) (wfr s ex fr b hs hb h2 hf) (or23 fr hf) (len24 fr hf) (wE ex h2) (wM fr hf) (wes ex h2) hC rfl hn1 hn9 hR hR9 (wdp _ PR hn9 hp1 hp2) (by omega) (by omega) hz hzn w0 w v H hB hrow'
  rcases Nat.le_one_iff_eq_zero_or_eq_one.1 hs with rfl | rfl
  · exact h false rfl
  · have h := h true rfl
    rw [efgR_true] at h
    exact h
theorem conv_num {t1 t2 : TypeId} {src dst : FloatKind} {b r : Nat} (hne : src ≠ dst) (ht1 : Tryd.prog.underlying t1 = some (.float src)) (ht2 : Tryd.prog.underlying t2 = some (.float dst)) (h : cvB src dst b r = true) (W : World) : (convert t1 t2 (.float src b)).run Tryd.prog W = .ok (.float dst r) W := by
  have h1 : (convert t1 t2 (.float src b)).run Tryd.prog W = (Conv.floatToFloat src b dst).run Tryd.prog W := by
    unfold convert
    simp [Sem.run_bind, underlying, ht1, ht2, go_sem]
  rw [h1]
  unfold Conv.floatToFloat
  rw [if_neg hne]
  unfold cvB at h
  cases hd : src.decode b with
  | number s m e =>
    rw [hd] at h
    simp only [Bool.and_eq_true, decide_eq_true_eq, Bool.not_eq_true'] at h
    obtain ⟨h2, h3⟩ := h
    simp only [h2, h3, Bool.false_eq_true, if_false]
    rfl
  | infinity s =>
    rw [hd] at h
    simp only [decide_eq_true_eq] at h
    simp only [h]
    rfl
  | nan s f =>
    rw [hd] at h
    cases h
theorem conv_up {b : Nat} (h : cvs b = true) (W : World) : (convert 41 49 (.float .f32 b)).run Tryd.prog W = .ok (.float .f64 (upF b)) W := by
  unfold cvs at h
  rw [Bool.and_eq_true] at h
  exact conv_num (by decide) (by kernel_rfl) (by kernel_rfl) h.1 W
theorem conv_back {b : Nat} (h : cvs b = true) (W : World) : (convert 49 41 (.float .f64 (upF b))).run Tryd.prog W = .ok (.float .f32 b) W := by
  unfold cvs at h
  rw [Bool.and_eq_true] at h
  exact conv_num (by decide) (by kernel_rfl) (by kernel_rfl) h.2 W
theorem text_walk (h b : Nat) (hh : h < 65536) (hb : HN.t32 h = b) (hc : cvs b = true) (l : List Int) (hl : 0 < l.length) (hf : FtoaIs b l) (w : World) (HZ : GlobP w) :
    Calls Tryd.prog 4 #[.int .u16 (h : Int)] w fun e w' => e = .returned (.string (Go.strOfNums l)) ∧ Below w.heap.size w w' := by
  subst hb
  exact halfText_walk h (HN.t32 h) 12 (to_law h hh 0) (upF (HN.t32 h)) (conv_up hc) l hl (conv_back hc) hf w HZ
end Go.Proofs.YtmgnffklmdhooaaDoor.PAll
namespace Go.Proofs.YtmgnffklmdhooaaDoor.PAll
open Go.RowKit Go.Proofs.YtmgnffklmdhooaaDoorW.PrintWords Go.Proofs.YtmgnffklmdhooaaDoorW.PrintLast Go.Proofs.YtmgnffklmdhooaaDoorW.PrintMore
set_option linter.unusedVariables false
set_option linter.unusedSimpArgs false
theorem op_convD {P : Program} {o : Oper} {ρ : Operand → Value} {W W1 : World} {t1 t2 : TypeId} {x : Operand} {v r : Value} (ho : o.op = .convert t1 t2 x) (hx : ρ x = v) (h : (convert t1 t2 v).run P W = .ok r W1) : (execOp ρ o).run P W = .ok (.value r) W1 := by
  unfold execOp
  rw [ho]
  simp [go_sem, hx, h]
theorem conv_nan {t1 t2 : TypeId} {src dst : FloatKind} {b : Nat} (hne : src ≠ dst) (ht1 : Tryd.prog.underlying t1 = some (.float src)) (ht2 : Tryd.prog.underlying t2 = some (.float dst)) (h : ∃ s f, src.decode b = .nan s f) (W : World) : (convert t1 t2 (.float src b)).run Tryd.prog W = .ok (.float dst ((Question.nanConv dst b).cut (W.tape W.drawn (.nanConv dst b)))) W.drew := by
  have h1 : (convert t1 t2 (.float src b)).run Tryd.prog W = (Conv.floatToFloat src b dst).run Tryd.prog W := by
    unfold convert
    simp [Sem.run_bind, underlying, ht1, ht2, go_sem]
  obtain ⟨s, f, hd⟩ := h
  rw [h1]
  unfold Conv.floatToFloat
  rw [if_neg hne, hd]
  rfl
theorem read_nan (F : Ieee.Format) (x : Nat) (h1 : F.binade ≤ F.infRung) (h : F.infRung < x % F.signWeight) : ∃ s f, F.read x = .nan s f := by
  refine ⟨x / F.signWeight % 2 == 1, x % F.signWeight - F.infRung, ?_⟩
  unfold Ieee.Format.read
  simp only []
  rw [if_neg (by omega), if_neg (by omega), if_neg (by omega)]
theorem cut32 (b t : Nat) : (2139095040 < (Question.nanConv .f32 b).cut t ∧ (Question.nanConv .f32 b).cut t < 2147483648) ∨ (4286578688 < (Question.nanConv .f32 b).cut t ∧ (Question.nanConv .f32 b).cut t < 4294967296) := by
  have e : (Question.nanConv .f32 b).cut t = (t % 2) * 2147483648 + 2139095040 + 1 + (t / 2) % 8388607 := rfl
  rw [e]
  omega
theorem cut64 (b t : Nat) : ∃ s f, FloatKind.f64.decode ((Question.nanConv .f64 b).cut t) = .nan s f := by
  have e : (Question.nanConv .f64 b).cut t = (t % 2) * 9223372036854775808 + 9218868437227405312 + 1 + (t / 2) % 4503599627370495 := rfl
  obtain ⟨a1, a2, a3, a4, a5⟩ := c64
  rw [e]
  have hs : t % 2 = 0 ∨ t % 2 = 1 := by omega
  have hr : t / 2 % 4503599627370495 < 4503599627370495 := Nat.mod_lt _ (by decide)
  generalize t / 2 % 4503599627370495 = r at hr ⊢
  refine read_nan Ieee.double _ (by rw [a2, a3]; decide) ?_
  rw [a1, a3]
  rcases hs with hs | hs <;> rw [hs] <;> omega
theorem dec32_nan (x : Nat) (h : (2139095040 < x ∧ x < 2147483648) ∨ (4286578688 < x ∧ x < 4294967296)) : ∃ s f, FloatKind.f32.decode x = .nan s f := by
  obtain ⟨a1, a2, a3, a4, a5⟩ := c32
  exact read_nan Ieee.single _ (by rw [a2, a3]; decide) (by rw [a1, a3]; omega)
theorem down_nan {c : Nat} (h : ∃ s f, FloatKind.f64.decode c = .nan s f) (W : World) : ∃ b, (convert 49 41 (.float .f64 c)).run Tryd.prog W = .ok (.float .f32 b) W.drew ∧ FtoaIs b [78, 97, 78] :=
  ⟨_, conv_nan (by decide) (by kernel_rfl) (by kernel_rfl) h W, ftoaIs_nan _ (cut32 _ _)⟩
theorem up_nan {b : Nat} (h : (2139095040 < b ∧ b < 2147483648) ∨ (4286578688 < b ∧ b < 4294967296)) (W : World) : ∃ c, (convert 41 49 (.float .f32 b)).run Tryd.prog W = .ok (.float .f64 c) W.drew ∧ ∃ s f, FloatKind.f64.decode c = .nan s f :=
  ⟨_, conv_nan (by decide) (by kernel_rfl) (by kernel_rfl) (dec32_nan b h) W, cut64 _ _⟩
set_option maxHeartbeats 8000000 in
set_option maxRecDepth 100000 in
theorem nan_ff_walk (c : Nat) (hc : ∃ s f, FloatKind.f64.decode c = .nan s f) (w : World) (HZ : GlobP w) :
    Calls Tryd.prog 26 #[.float .f64 c, .int .u8 102, .int .i64 (-1), .int .i64 32] w fun e w' => e = .returned (.string (Go.strOfNums [78, 97, 78])) ∧ Below w.heap.size w w' := by
  refine calls_of_wp Tryd.func26 rfl ?_
  have h0 := has_four (β := bn []) (.v (.float .f64 c)) (vo 102) (vi (-1)) (vi 32) 29
  have d0 : (⟨#[.float .f64 c, .int .u8 102, .int .i64 (-1), .int .i64 32] ++ Array.replicate 29 undef, []⟩ : Act).defers = [] := rfl
  refine wp_seq (wp_region ?_)
  refine oP 33 [] [0] [(0, .v (.float .f64 c)), (1, vo 102), (2, vi (-1)), (3, vi 32), (8, .v (Value.string { data := #[] }))] h0 d0 (fun a1 h1 d1 => ?_)
  clear h0 d0
  show Code.wp _ _ _ _ _
  refine wp_seq ?_
  refine wp_seq (wp_region ?_)
  refine oP 33 [] [0, 1] [(0, .v (.float .f64 c)), (1, vo 102), (2, vi (-1)), (3, vi 32), (8, .v (Value.string { data := #[] })), (10, vb true)] h1 d1 (fun a2 h2 d2 => ?_)
  clear h1 d1
  show Code.wp _ _ _ _ _
  refine wp_cond_true (h2.2 10 _ rfl) ?_
  refine wp_seq (wp_region ?_)
  refine oP 33 [2, 3, 4, 5, 6, 7, 8, 9, 10] [0, 1] [(0, .v (.float .f64 c)), (1, vo 102), (2, vi (-1)), (3, vi 32), (8, .v (Value.string { data := #[] })), (10, vb true), (11, vi (-1)), (12, vi 3)] h2 d2 (fun a3 h3 d3 => ?_)
  clear h2 d2
  refine gW (s := vi 24) 33 [3, 4, 5, 6, 7, 8, 9, 10] h3 d3 rfl (want_ rfl) rfl (by decide) ((op_max (k' := .i64) (q := 24) rfl (h3.2 12 _ rfl) rfl).trans rfl) (fun a4 h4 d4 => ?_)
  clear h3 d3
  refine new_ops (N := 33) (i := 3) (d := 14) (l := [4, 5, 6, 7, 8, 9, 10]) rfl rfl rfl (by decide) h4 (make24 w _ _ _ _ rfl rfl (h4.2 13 _ rfl)) (fun a5 h5 d5 => ?_)
  replace d5 := d5.trans d4
  clear h4 d4
  have hrow := row24 w
  have hB := (Below.refl w.heap.size w).alloc (Nat.le_refl _) (.cells (madeCells #[.int .u8 0] 24) 5)
  have hsz := alloc_size w (.cells (madeCells #[.int .u8 0] 24) 5)
  generalize w.alloc (.cells (madeCells #[.int .u8 0] 24) 5) = W1 at hrow hB hsz ⊢
  refine oP 33 [5, 6, 7, 8, 9, 10] [4] [(0, .v (.float .f64 c)), (1, vo 102), (2, vi (-1)), (3, vi 32), (8, .v (Value.string { data := #[] })), (10, vb true), (11, vi (-1)), (12, vi 3), (13, vi 24), (14, .v (.slice (some ⟨w.heap.size, 0, none⟩) 0 24)), (15, .v (.float .f64 c))] h5 d5 (fun a6 h6 d6 => ?_)
  clear h5 d5
  obtain ⟨b, hcv, hf⟩ := down_nan hc W1
  refine new_ops (N := 33) (i := 5) (d := 16) (l := [6, 7, 8, 9, 10]) rfl rfl rfl (by decide) h6 (op_convD rfl (h6.2 15 _ rfl) hcv) (fun a7 h7 d7 => ?_)
  replace d7 := d7.trans d6
  clear h6 d6
  replace hB := below_drew1 hB
  replace hrow := Kd.R_drew hrow
  have hsz2 : W1.drew.heap.size = w.heap.size + 1 := hsz
  refine oP 33 [8, 9, 10] [6, 7] [(0, .v (.float .f64 c)), (1, vo 102), (2, vi (-1)), (3, vi 32), (8, .v (Value.string { data := #[] })), (10, vb true), (11, vi (-1)), (12, vi 3), (13, vi 24), (14, .v (.slice (some ⟨w.heap.size, 0, none⟩) 0 24)), (15, .v (.float .f64 c)), (16, .v (.float .f32 b)), (17, vo 102), (18, vi (-1))] h7 d7 (fun a8 h8 d8 => ?_)
  clear h7 d7
  refine callW_ops (N := 33) (i := 8) (d := 19) (f := 27) (args := [.v (.slice (some ⟨w.heap.size, 0, none⟩) 0 24), .v (.float .f32 b), vo 102, vi (-1)]) (l := [9, 10]) rfl (want_ rfl) rfl (by decide) h8 Tryd.func27 rfl rfl rfl (by kernel_rfl) (fun u W' => Kd.R (Kd.int .u8) 5 W' w.heap.size (fun _ => True) u [78, 97, 78] ∧ Below w.heap.size w W') ((hf w W1.drew _ HZ (HZ.below hB) hB (Kd.R_mono hrow (fun k hk => by omega))).mono fun e w' hh => by obtain ⟨v', e1, e2⟩ := hh; exact ⟨v', e1, e2⟩) (fun v9 W9 a9 hR9 h9 d9 => ?_)
  replace d9 := d9.trans d8
  clear h8 d8
  refine gW (s := .v (.string (Go.strOfNums [78, 97, 78]))) 33 [10] h9 d9 rfl (want_ rfl) rfl (by decide) (op_convG rfl (h9.2 19 _ rfl) (conv_row hR9.1 (by decide))) (fun a10 h10 d10 => ?_)
  clear h9 d9
  refine oP 33 [] [10] [(0, .v (.float .f64 c)), (1, vo 102), (2, vi (-1)), (3, vi 32), (8, .v (.string (Go.strOfNums [78, 97, 78]))), (10, vb true)] h10 d10 (fun a11 h11 d11 => ?_)
  clear h10 d10
  show Code.wp _ _ _ _ _
  refine wp_ret ?_
  exact ⟨d11, _, results_tmp rfl _ _ _, congrArg Ending.returned (h11.2 8 _ rfl), hR9.2⟩
set_option maxHeartbeats 8000000 in
set_option maxRecDepth 100000 in
theorem nan_ff2_walk (c : Nat) (hc : ∃ s f, FloatKind.f64.decode c = .nan s f) (w : World) (HZ : GlobP w) :
    Calls Tryd.prog 23 #[.float .f64 c, .int .u8 102, .int .i64 (-1), .int .i64 32] w fun e w' => e = .returned (.string (Go.strOfNums [78, 97, 78])) ∧ Below w.heap.size w w' := by
  refine calls_of_wp Tryd.func23 rfl ?_
  have h0 := has_four (β := bn []) (.v (.float .f64 c)) (vo 102) (vi (-1)) (vi 32) 10
  have d0 : (⟨#[.float .f64 c, .int .u8 102, .int .i64 (-1), .int .i64 32] ++ Array.replicate 10 undef, []⟩ : Act).defers = [] := rfl
  have HB0 := Below.refl w.heap.size w
  refine wp_seq (wp_region ?_)
  refine oP 14 [] [0] [(0, .v (.float .f64 c)), (1, vo 102), (2, vi (-1)), (3, vi 32), (8, .v (Value.string { data := #[] }))] h0 d0 (fun a1 h1 d1 => ?_)
  clear h0 d0
  show Code.wp _ _ _ _ _
  refine wp_seq (wp_region ?_)
  refine oP 14 [4, 5] [0, 1, 2, 3] [(0, .v (.float .f64 c)), (1, vo 102), (2, vi (-1)), (3, vi 32), (8, .v (Value.string { data := #[] })), (9, .v (.float .f64 c)), (10, vo 102), (11, vi (-1)), (12, vi 32)] h1 d1 (fun a2 h2 d2 => ?_)
  clear h1 d1
  refine callW_ops (N := 14) (i := 4) (d := 13) (f := 26) (args := [.v (.float .f64 c), vo 102, vi (-1), vi 32]) (l := [5]) rfl (want_ rfl) rfl (by decide) h2 Tryd.func26 rfl rfl rfl (by kernel_rfl) (fun v W' => v = (.string (Go.strOfNums [78, 97, 78])) ∧ Below (w).heap.size (w) W') ((nan_ff_walk c hc w (HZ.below HB0)).mono fun e w' hh => ⟨_, hh.1, rfl, hh.2⟩) (fun v3 W3 a3 hR3 h3 d3 => ?_)
  replace d3 := d3.trans d2
  clear h2 d2
  obtain ⟨rfl, B3⟩ := hR3
  have HB3 := below_step HB0 B3
  refine oP 14 [] [5] [(8, .v (.string (Go.strOfNums [78, 97, 78])))] h3 d3 (fun a4 h4 d4 => ?_)
  clear h3 d3
  show Code.wp _ _ _ _ _
  refine wp_ret ?_
  exact ⟨d4, _, results_tmp rfl _ _ _, congrArg Ending.returned (h4.2 8 _ rfl), HB3⟩
set_option maxHeartbeats 8000000 in
set_option maxRecDepth 100000 in
theorem nan_string_walk (h b k : Nat) (hb : float16_f16bitsToF32bits.f k (h : Int) = some (b : Int)) (hn : (2139095040 < b ∧ b < 2147483648) ∨ (4286578688 < b ∧ b < 4294967296)) (w : World) (HZ : GlobP w) :
    Calls Tryd.prog 12 #[.int .u16 (h : Int)] w fun e w' => e = .returned (.string (Go.strOfNums [78, 97, 78])) ∧ Below w.heap.size w w' := by
  refine calls_of_wp Tryd.func12 rfl ?_
  have h0 := has_one (β := bn []) (.v (.int .u16 (h : Int))) 6
  have d0 : (⟨#[.int .u16 (h : Int)] ++ Array.replicate 6 undef, []⟩ : Act).defers = [] := rfl
  have HB0 := Below.refl w.heap.size w
  refine wp_seq (wp_region ?_)
  refine oP 7 [] [0] [(0, .v (.int .u16 (h : Int))), (2, .v (Value.string { data := #[] }))] h0 d0 (fun a1 h1 d1 => ?_)
  clear h0 d0
  show Code.wp _ _ _ _ _
  refine wp_seq (wp_region ?_)
  refine oP 7 [1, 2, 3, 4] [0] [(0, .v (.int .u16 (h : Int))), (2, .v (Value.string { data := #[] })), (3, .v (.int .u16 (h : Int)))] h1 d1 (fun a2 h2 d2 => ?_)
  clear h1 d1
  refine callW_ops (N := 7) (i := 1) (d := 4) (f := 14) (args := [.v (.int .u16 (h : Int))]) (l := [2, 3, 4]) rfl (want_ rfl) rfl (by decide) h2 Tryd.func14 rfl rfl rfl (by kernel_rfl) (fun v W' => v = (.float .f32 b) ∧ Below (w).heap.size (w) W') ((float32_walk h b k hb w).mono fun e w' hh => ⟨_, hh.1, rfl, hh.2⟩) (fun v3 W3 a3 hR3 h3 d3 => ?_)
  replace d3 := d3.trans d2
  clear h2 d2
  obtain ⟨rfl, B3⟩ := hR3
  have HB3 := below_step HB0 B3
  obtain ⟨c, hcv, hc⟩ := up_nan hn W3
  refine new_ops (N := 7) (i := 2) (d := 5) (l := [3, 4]) rfl rfl rfl (by decide) h3 (op_convD rfl (h3.2 4 _ rfl) hcv) (fun a4 h4 d4 => ?_)
  replace d4 := d4.trans d3
  clear h3 d3
  have HB4 := below_drew1 HB3
  refine callW_ops (N := 7) (i := 3) (d := 6) (f := 23) (args := [.v (.float .f64 c), vo 102, vi (-1), vi 32]) (l := [4]) rfl (want_ rfl) rfl (by decide) h4 Tryd.func23 rfl rfl rfl (by kernel_rfl) (fun v W' => v = (.string (Go.strOfNums [78, 97, 78])) ∧ Below (W3.drew).heap.size (W3.drew) W') ((nan_ff2_walk c hc W3.drew (HZ.below HB4)).mono fun e w' hh => ⟨_, hh.1, rfl, hh.2⟩) (fun v5 W5 a5 hR5 h5 d5 => ?_)
  replace d5 := d5.trans d4
  clear h4 d4
  obtain ⟨rfl, B5⟩ := hR5
  have HB5 := below_step HB4 B5
  refine oP 7 [] [4] [(2, .v (.string (Go.strOfNums [78, 97, 78])))] h5 d5 (fun a6 h6 d6 => ?_)
  clear h5 d5
  show Code.wp _ _ _ _ _
  refine wp_ret ?_
  exact ⟨d6, _, results_tmp rfl _ _ _, congrArg Ending.returned (h6.2 2 _ rfl), HB5⟩
set_option maxHeartbeats 8000000 in
set_option maxRecDepth 100000 in
theorem nan_text_walk (h b k : Nat) (hb : float16_f16bitsToF32bits.f k (h : Int) = some (b : Int)) (hn : (2139095040 < b ∧ b < 2147483648) ∨ (4286578688 < b ∧ b < 4294967296)) (w : World) (HZ : GlobP w) :
    Calls Tryd.prog 4 #[.int .u16 (h : Int)] w fun e w' => e = .returned (.string (Go.strOfNums [78, 97, 78])) ∧ Below w.heap.size w w' := by
  refine calls_of_wp Tryd.func4 rfl ?_
  have h0 := has_one (β := bn []) (.v (.int .u16 (h : Int))) 5
  have d0 : (⟨#[.int .u16 (h : Int)] ++ Array.replicate 5 undef, []⟩ : Act).defers = [] := rfl
  have HB0 := Below.refl w.heap.size w
  refine wp_seq (wp_region ?_)
  refine oP 6 [] [0] [(0, .v (.int .u16 (h : Int))), (2, .v (Value.string { data := #[] }))] h0 d0 (fun a1 h1 d1 => ?_)
  clear h0 d0
  show Code.wp _ _ _ _ _
  refine wp_seq (wp_region ?_)
  refine oP 6 [1, 2, 3] [0] [(0, .v (.int .u16 (h : Int))), (2, .v (Value.string { data := #[] })), (3, .v (.int .u16 (h : Int)))] h1 d1 (fun a2 h2 d2 => ?_)
  clear h1 d1
  refine callW_ops (N := 6) (i := 1) (d := 4) (f := 11) (args := [.v (.int .u16 (h : Int))]) (l := [2, 3]) rfl (want_ rfl) rfl (by decide) h2 Tryd.func11 rfl rfl rfl (by kernel_rfl) (fun v W' => v = (.int .u16 (h : Int)) ∧ Below (w).heap.size (w) W') ((float16_Frombits.calls _ _ w rfl).mono fun e w' hh => ⟨_, hh.1, rfl, hh.2.below⟩) (fun v3 W3 a3 hR3 h3 d3 => ?_)
  replace d3 := d3.trans d2
  clear h2 d2
  obtain ⟨rfl, B3⟩ := hR3
  have HB3 := below_step HB0 B3
  refine callW_ops (N := 6) (i := 2) (d := 5) (f := 12) (args := [.v (.int .u16 (h : Int))]) (l := [3]) rfl (want_ rfl) rfl (by decide) h3 Tryd.func12 rfl rfl rfl (by kernel_rfl) (fun v W' => v = (.string (Go.strOfNums [78, 97, 78])) ∧ Below (W3).heap.size (W3) W') ((nan_string_walk h b k hb hn W3 (HZ.below HB3)).mono fun e w' hh => ⟨_, hh.1, rfl, hh.2⟩) (fun v4 W4 a4 hR4 h4 d4 => ?_)
  replace d4 := d4.trans d3
  clear h3 d3
  obtain ⟨rfl, B4⟩ := hR4
  have HB4 := below_step HB3 B4
  refine oP 6 [] [3] [(2, .v (.string (Go.strOfNums [78, 97, 78])))] h4 d4 (fun a5 h5 d5 => ?_)
  clear h4 d4
  show Code.wp _ _ _ _ _
  refine wp_ret ?_
  exact ⟨d5, _, results_tmp rfl _ _ _, congrArg Ending.returned (h5.2 2 _ rfl), HB4⟩
end Go.Proofs.YtmgnffklmdhooaaDoor.PAll
