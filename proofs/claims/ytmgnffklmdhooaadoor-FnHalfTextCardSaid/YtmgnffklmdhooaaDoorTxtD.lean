/- TxtD: HtFtoa, HtFF, HtFF2, HtIs, HtNan. -/
import Derived.Test.YtmgnffklmdhooaaDoorTxtA
import Derived.Test.YtmgnffklmdhooaaDoorTxtC
import Derived.Laws.BytesArg
import Derived.Lib.AppendStr
namespace Go.Proofs.YtmgnffklmdhooaaDoor.PAll
open Go.RowKit Go.Proofs.YtmgnffklmdhooaaDoorW.PrintWords Go.Proofs.YtmgnffklmdhooaaDoorW.PrintLast Go.Proofs.YtmgnffklmdhooaaDoorW.PrintMore
set_option linter.unusedVariables false
set_option linter.unusedSimpArgs false
section
variable {P : Program} {ρ : Operand → Value} {o : Oper} {W : World}
theorem op_callV {x : Operand} {f : FuncId} {v r : Value} {ats : Array TypeId} (ho : o.op = .call { callee := .value (.func f), args := #[x], argTypes := ats }) (hx : ρ x = v) (h : (callFunc f #[v]).run P W = .ok (.value r) W) (hf : ρ (.func f) = .func (.func f) #[] #[]) : (execOp ρ o).run P W = .ok (.value r) W := by
  unfold execOp
  rw [ho]
  simp [go_sem, resolve, invoke, hx, hf, h]
end
theorem run_f32b (n : Nat) (w : World) : (callFunc 29 #[.float .f32 n]).run Tryd.prog w = .ok (.value (.int .u32 (n : Int))) w := by kernel_rfl
set_option maxHeartbeats 8000000 in
set_option maxRecDepth 100000 in
theorem ftoa_walk (s : Nat) (neg : Bool) (hs1 : s ≤ 1) (hsg : (((s : Nat) : Int) != 0) = neg) (b ex fr n M R : Nat) (E es PR dp : Int) (hb : b = s * 2147483648 + ex * 8388608 + fr) (h1e : 1 ≤ ex) (h2e : ex ≤ 254) (hfl : fr < 8388608) (hex : Go.bits .and .i64 (IntKind.i64.wrap (((b : Nat) : Int) / 8388608)) 255 = ((ex : Nat) : Int)) (hfr : Go.bits .and .u64 ↑b 8388607 = ((fr : Nat) : Int)) (hor : Go.bits .or .u64 ↑fr 8388608 = ((8388608 + fr : Nat) : Int)) (hlen : lenN (8388608 + fr) = 24)
    (hE : IntKind.i64.wrap (((ex : Nat) : Int) + (-127)) = E) (hM : IntKind.u64.wrap (((8388608 + fr : Nat) : Int) * 1099511627776) = ((M : Nat) : Int)) (hes : IntKind.i64.wrap ((IntKind.i64.wrap (E - 40)) - 23) = es) (hs : sfC ((M : Nat) : Int) es = some (((R : Nat) : Int), PR)) (hnd : ndN R = n) (h1 : 6 ≤ n) (h9 : n ≤ 9) (hR : R < 10 ^ n) (hR9 : R < 1000000000) (hdp : IntKind.i64.wrap ((n : Int) + PR) = dp) (hlo : -100 < dp) (hhi : dp < 100) (hz : 0 < strip (dgC n R) n) (hzn : strip (dgC n R) n ≤ n)
    (w0 w : World) (v : Value) (HZ : GlobP w) (hB : Below w0.heap.size w0 w) (hrow : Kd.R (Kd.int .u8) 5 w w0.heap.size (fun k => k < w.heap.size) v []) :
    Calls Tryd.prog 27 #[v, .float .f32 b, .int .u8 102, .int .i64 (-1)] w fun e w' => ∃ v', e = .returned v' ∧ Kd.R (Kd.int .u8) 5 w' w0.heap.size (fun _ => True) v' (efgR neg (dgC n R) dp (strip (dgC n R) n)) ∧ Below w0.heap.size w0 w' := by
  refine calls_of_wp Tryd.func27 rfl ?_
  have h0 := has_four (β := bn []) (.v v) (.v (.float .f32 b)) (vo 102) (vi (-1)) 294
  have d0 : (⟨#[v, .float .f32 b, .int .u8 102, .int .i64 (-1)] ++ Array.replicate 294 undef, []⟩ : Act).defers = [] := rfl
  have HB0 := Below.refl w.heap.size w
  refine wp_seq (wp_region ?_)
  refine oP 298 [] [0] [(0, .v v), (1, .v (.float .f32 b)), (2, vo 102), (3, vi (-1)), (8, .v (Value.slice none 0 0))] h0 d0 (fun a1 h1 d1 => ?_)
  clear h0 d0
  show Code.wp _ _ _ _ _
  refine wp_seq (wp_region ?_)
  refine oP 298 [] [0] [(0, .v v), (1, .v (.float .f32 b)), (2, vo 102), (3, vi (-1)), (8, .v (Value.slice none 0 0)), (9, vu 0)] h1 d1 (fun a2 h2 d2 => ?_)
  clear h1 d1
  show Code.wp _ _ _ _ _
  refine wp_seq (wp_region ?_)
  refine oP 298 [] [0, 1, 2] [(0, .v v), (1, .v (.float .f32 b)), (2, vo 102), (3, vi (-1)), (8, .v (Value.slice none 0 0)), (9, vu 0), (10, vi 0), (11, vi 0), (12, vi 0)] h2 d2 (fun a3 h3 d3 => ?_)
  clear h2 d2
  show Code.wp _ _ _ _ _
  refine wp_seq ?_
  refine wp_block ?_
  refine wp_seq (wp_region ?_)
  refine oP 298 [] [0, 1] [(0, .v v), (1, .v (.float .f32 b)), (2, vo 102), (3, vi (-1)), (8, .v (Value.slice none 0 0)), (9, vu 0), (10, vi 0), (11, vi 0), (12, vi 0), (34, vb true)] h3 d3 (fun a4 h4 d4 => ?_)
  clear h3 d3
  show Code.wp _ _ _ _ _
  refine wp_cond_true (h4.2 34 _ rfl) ?_
  refine wp_seq (wp_region ?_)
  refine oP 298 [1, 2, 3] [0] [(0, .v v), (1, .v (.float .f32 b)), (2, vo 102), (3, vi (-1)), (8, .v (Value.slice none 0 0)), (9, vu 0), (10, vi 0), (11, vi 0), (12, vi 0), (34, vb true), (36, .v (.float .f32 b))] h4 d4 (fun a5 h5 d5 => ?_)
  clear h4 d4
  refine gW (s := vw ↑b) 298 [2, 3] h5 d5 rfl (want_ rfl) rfl (by decide) (op_callV rfl (h5.2 36 _ rfl) (run_f32b b _) rfl) (fun a6 h6 d6 => ?_)
  clear h5 d5
  refine oP 298 [3] [2] [(0, .v v), (1, .v (.float .f32 b)), (2, vo 102), (3, vi (-1)), (8, .v (Value.slice none 0 0)), (9, vu 0), (10, vi 0), (11, vi 0), (12, vi 0), (34, vb true), (36, .v (.float .f32 b)), (37, vw ↑b), (38, vu (IntKind.u64.wrap (((b : Nat) : Int))))] h6 d6 (fun a7 h7 d7 => ?_)
  clear h6 d6
  rw [show (IntKind.u64.wrap (((b : Nat) : Int))) = ((b : Nat) : Int) from n_c64 b (by omega)] at h7
  refine oP 298 [] [3] [(0, .v v), (1, .v (.float .f32 b)), (2, vo 102), (3, vi (-1)), (8, .v (Value.slice none 0 0)), (9, vu ↑b), (10, vi 0), (11, vi 0), (12, vi 0), (34, vb true)] h7 d7 (fun a8 h8 d8 => ?_)
  clear h7 d7
  show Code.wp _ _ _ _ _
  refine wp_seq (wp_region ?_)
  refine oP 298 [] [0] [(0, .v v), (1, .v (.float .f32 b)), (2, vo 102), (3, vi (-1)), (8, .v (Value.slice none 0 0)), (9, vu ↑b), (10, vi 8), (11, vi 0), (12, vi 0), (34, vb true)] h8 d8 (fun a9 h9 d9 => ?_)
  clear h8 d8
  show Code.wp _ _ _ _ _
  refine wp_seq (wp_region ?_)
  refine oP 298 [] [0] [(0, .v v), (1, .v (.float .f32 b)), (2, vo 102), (3, vi (-1)), (8, .v (Value.slice none 0 0)), (9, vu ↑b), (10, vi 8), (11, vi 23), (12, vi 0), (34, vb true)] h9 d9 (fun a10 h10 d10 => ?_)
  clear h9 d9
  show Code.wp _ _ _ _ _
  refine wp_region ?_
  refine oP 298 [] [0] [(0, .v v), (1, .v (.float .f32 b)), (2, vo 102), (3, vi (-1)), (8, .v (Value.slice none 0 0)), (9, vu ↑b), (10, vi 8), (11, vi 23), (12, vi (-127)), (34, vb true)] h10 d10 (fun a11 h11 d11 => ?_)
  clear h10 d10
  show Code.wp _ _ _ _ _
  refine wp_seq (wp_region ?_)
  refine oP 298 [5, 6] [0, 1, 2, 3, 4] [(0, .v v), (1, .v (.float .f32 b)), (2, vo 102), (3, vi (-1)), (8, .v (Value.slice none 0 0)), (9, vu ↑b), (10, vi 8), (11, vi 23), (12, vi (-127)), (34, vb true), (44, vu ↑b), (45, vi 8), (46, vi 23), (47, vi 31), (48, vu (((b : Nat) : Int) / 2147483648))] h11 d11 (fun a12 h12 d12 => ?_)
  clear h11 d11
  rw [show (((b : Nat) : Int) / 2147483648) = ((s : Nat) : Int) from by omega] at h12
  refine oP 298 [6] [5] [(0, .v v), (1, .v (.float .f32 b)), (2, vo 102), (3, vi (-1)), (8, .v (Value.slice none 0 0)), (9, vu ↑b), (10, vi 8), (11, vi 23), (12, vi (-127)), (34, vb true), (44, vu ↑b), (45, vi 8), (46, vi 23), (47, vi 31), (48, vu ↑s), (49, vb ((((s : Nat) : Int) : Int) != 0))] h12 d12 (fun a13 h13 d13 => ?_)
  clear h12 d12
  rw [show ((((s : Nat) : Int) : Int) != 0) = neg from hsg] at h13
  refine oP 298 [] [6] [(0, .v v), (1, .v (.float .f32 b)), (2, vo 102), (3, vi (-1)), (8, .v (Value.slice none 0 0)), (9, vu ↑b), (10, vi 8), (11, vi 23), (12, vi (-127)), (13, vb neg), (34, vb true)] h13 d13 (fun a14 h14 d14 => ?_)
  clear h13 d13
  show Code.wp _ _ _ _ _
  refine wp_seq ?_
  refine reg_draw (N := 298) (T := TT) (M := fun _ _ => none) (n := 9) (E2 := [(0, .v v), (1, .v (.float .f32 b)), (2, vo 102), (3, vi (-1)), (8, .v (Value.slice none 0 0)), (9, vu ↑b), (10, vi 8), (11, vi 23), (12, vi (-127)), (13, vb neg), (14, vi (Go.bits .and .i64 (IntKind.i64.wrap ((((b : Nat) : Int) / 8388608))) 255)), (34, vb true)]) (by kernel_rfl) tabOk h14 (fun _ _ _ h => by cases h) rfl (by kernel_rfl) (by kernel_rfl) sE (fun _ _ _ _ hd h => And.intro (hd.trans (And.left h)) (And.right h)) (fun a15 h15 d15 => ?_)
  replace d15 := d15.trans d14
  clear h14 d14
  rw [show (Go.bits .and .i64 (IntKind.i64.wrap ((((b : Nat) : Int) / 8388608))) 255) = ((ex : Nat) : Int) from hex] at h15
  show Code.wp _ _ _ _ _
  replace HB0 := below_drew1 HB0
  refine wp_seq (wp_region ?_)
  refine oP 298 [5] [0, 1, 2, 3, 4] [(0, .v v), (1, .v (.float .f32 b)), (2, vo 102), (3, vi (-1)), (8, .v (Value.slice none 0 0)), (9, vu ↑b), (10, vi 8), (11, vi 23), (12, vi (-127)), (13, vb neg), (14, vi ↑ex), (34, vb true), (58, vu ↑b), (59, vi 23), (60, vu 8388608), (61, vu 8388607), (62, vu (Go.bits .and .u64 ↑b 8388607))] h15 d15 (fun a16 h16 d16 => ?_)
  clear h15 d15
  rw [show (Go.bits .and .u64 ↑b 8388607) = ((fr : Nat) : Int) from hfr] at h16
  refine oP 298 [] [5] [(0, .v v), (1, .v (.float .f32 b)), (2, vo 102), (3, vi (-1)), (8, .v (Value.slice none 0 0)), (9, vu ↑b), (10, vi 8), (11, vi 23), (12, vi (-127)), (13, vb neg), (14, vi ↑ex), (15, vu ↑fr), (34, vb true)] h16 d16 (fun a17 h17 d17 => ?_)
  clear h16 d16
  show Code.wp _ _ _ _ _
  refine wp_seq ?_
  refine wp_seq (wp_region ?_)
  refine oP 298 [] [0, 1, 2, 3, 4] [(0, .v v), (1, .v (.float .f32 b)), (2, vo 102), (3, vi (-1)), (8, .v (Value.slice none 0 0)), (9, vu ↑b), (10, vi 8), (11, vi 23), (12, vi (-127)), (13, vb neg), (14, vi ↑ex), (15, vu ↑fr), (34, vb true), (67, vb ((((ex : Nat) : Int) : Int) == 255))] h17 d17 (fun a18 h18 d18 => ?_)
  clear h17 d17
  rw [show ((((ex : Nat) : Int) : Int) == 255) = false from beq_eq_false_iff_ne.mpr (by omega)] at h18
  show Code.wp _ _ _ _ _
  refine wp_cond_false (h18.2 67 _ rfl) ?_
  refine wp_skip ?_
  show Code.wp _ _ _ _ _
  refine wp_seq ?_
  refine wp_seq (wp_region ?_)
  refine oP 298 [] [0, 1] [(0, .v v), (1, .v (.float .f32 b)), (2, vo 102), (3, vi (-1)), (8, .v (Value.slice none 0 0)), (9, vu ↑b), (10, vi 8), (11, vi 23), (12, vi (-127)), (13, vb neg), (14, vi ↑ex), (15, vu ↑fr), (34, vb true), (67, vb false), (78, vb ((((ex : Nat) : Int) : Int) == 0))] h18 d18 (fun a19 h19 d19 => ?_)
  clear h18 d18
  rw [show ((((ex : Nat) : Int) : Int) == 0) = false from beq_eq_false_iff_ne.mpr (by omega)] at h19
  show Code.wp _ _ _ _ _
  refine wp_cond_false (h19.2 78 _ rfl) ?_
  refine wp_region ?_
  refine oP 298 [4] [0, 1, 2, 3] [(0, .v v), (1, .v (.float .f32 b)), (2, vo 102), (3, vi (-1)), (8, .v (Value.slice none 0 0)), (9, vu ↑b), (10, vi 8), (11, vi 23), (12, vi (-127)), (13, vb neg), (14, vi ↑ex), (15, vu ↑fr), (34, vb true), (67, vb false), (78, vb false), (81, vu ↑fr), (82, vi 23), (83, vu 8388608), (84, vu (Go.bits .or .u64 ↑fr 8388608))] h19 d19 (fun a20 h20 d20 => ?_)
  clear h19 d19
  rw [show (Go.bits .or .u64 ↑fr 8388608) = ((8388608 + fr : Nat) : Int) from hor] at h20
  refine oP 298 [] [4] [(0, .v v), (1, .v (.float .f32 b)), (2, vo 102), (3, vi (-1)), (8, .v (Value.slice none 0 0)), (9, vu ↑b), (10, vi 8), (11, vi 23), (12, vi (-127)), (13, vb neg), (14, vi ↑ex), (15, vu ((8388608 + fr : Nat) : Int)), (34, vb true), (67, vb false), (78, vb false)] h20 d20 (fun a21 h21 d21 => ?_)
  clear h20 d20
  show Code.wp _ _ _ _ _
  refine wp_seq (wp_region ?_)
  refine oP 298 [3] [0, 1, 2] [(0, .v v), (1, .v (.float .f32 b)), (2, vo 102), (3, vi (-1)), (8, .v (Value.slice none 0 0)), (9, vu ↑b), (10, vi 8), (11, vi 23), (12, vi (-127)), (13, vb neg), (14, vi ↑ex), (15, vu ((8388608 + fr : Nat) : Int)), (34, vb true), (67, vb false), (78, vb false), (85, vi ↑ex), (86, vi (-127)), (87, vi (IntKind.i64.wrap (((ex : Nat) : Int) + (-127))))] h21 d21 (fun a22 h22 d22 => ?_)
  clear h21 d21
  rw [show (IntKind.i64.wrap (((ex : Nat) : Int) + (-127))) = E from hE] at h22
  refine oP 298 [] [3] [(0, .v v), (1, .v (.float .f32 b)), (2, vo 102), (3, vi (-1)), (8, .v (Value.slice none 0 0)), (9, vu ↑b), (10, vi 8), (11, vi 23), (13, vb neg), (14, vi E), (15, vu ((8388608 + fr : Nat) : Int)), (34, vb true), (67, vb false), (78, vb false)] h22 d22 (fun a23 h23 d23 => ?_)
  clear h22 d22
  show Code.wp _ _ _ _ _
  refine wp_seq ?_
  refine wp_seq (wp_region ?_)
  refine oP 298 [] [0, 1] [(0, .v v), (1, .v (.float .f32 b)), (2, vo 102), (3, vi (-1)), (8, .v (Value.slice none 0 0)), (9, vu ↑b), (10, vi 8), (11, vi 23), (13, vb neg), (14, vi E), (15, vu ((8388608 + fr : Nat) : Int)), (34, vb true), (67, vb false), (78, vb false), (89, vb false)] h23 d23 (fun a24 h24 d24 => ?_)
  clear h23 d23
  show Code.wp _ _ _ _ _
  refine wp_cond_false (h24.2 89 _ rfl) ?_
  refine wp_skip ?_
  show Code.wp _ _ _ _ _
  refine wp_seq ?_
  refine wp_seq (wp_region ?_)
  refine oP 298 [3, 4, 5] [0, 1, 2] [(0, .v v), (1, .v (.float .f32 b)), (2, vo 102), (3, vi (-1)), (8, .v (Value.slice none 0 0)), (9, vu ↑b), (10, vi 8), (11, vi 23), (13, vb neg), (14, vi E), (15, vu ((8388608 + fr : Nat) : Int)), (34, vb true), (67, vb false), (78, vb false), (89, vb false), (97, vo 102), (98, vb false), (99, vb false)] h24 d24 (fun a25 h25 d25 => ?_)
  clear h24 d24
  refine guard_ops (N := 298) (T := TT) (M := (fun _ _ => none)) tabOk (i := 3) (d := 100) (j := 2) (dj := 99) (b := false) (s := vo 102) (l := [4, 5]) (fun _ _ _ h => by cases h) rfl rfl rfl rfl rfl (by decide) h25 (by kernel_rfl) (fun a26 h26 d26 => ?_)
  replace d26 := d26.trans d25
  clear h25 d25
  refine guard_ops (N := 298) (T := TT) (M := (fun _ _ => none)) tabOk (i := 4) (d := 101) (j := 2) (dj := 99) (b := false) (s := vb false) (l := [5]) (fun _ _ _ h => by cases h) rfl rfl rfl rfl rfl (by decide) h26 (by kernel_rfl) (fun a27 h27 d27 => ?_)
  replace d27 := d27.trans d26
  clear h26 d26
  refine gW (s := vb false) 298 [] h27 d27 rfl (want_ rfl) rfl (by decide) (op_pickF rfl (h27.2 99 _ rfl) (h27.2 101 _ rfl)) (fun a28 h28 d28 => ?_)
  clear h27 d27
  show Code.wp _ _ _ _ _
  refine wp_cond_false (h28.2 102 _ rfl) ?_
  refine wp_skip ?_
  show Code.wp _ _ _ _ _
  refine wp_seq ?_
  refine wp_seq (wp_region ?_)
  refine oP 298 [] [0, 1] [(0, .v v), (1, .v (.float .f32 b)), (2, vo 102), (3, vi (-1)), (8, .v (Value.slice none 0 0)), (9, vu ↑b), (10, vi 8), (11, vi 23), (13, vb neg), (14, vi E), (15, vu ((8388608 + fr : Nat) : Int)), (34, vb true), (67, vb false), (78, vb false), (89, vb false), (97, vo 102), (98, vb false), (99, vb false), (100, vo 102), (101, vb false), (102, vb false), (112, vb ((((8388608 + fr : Nat) : Int) : Int) == 0))] h28 d28 (fun a29 h29 d29 => ?_)
  clear h28 d28
  rw [show ((((8388608 + fr : Nat) : Int) : Int) == 0) = false from beq_eq_false_iff_ne.mpr (by omega)] at h29
  show Code.wp _ _ _ _ _
  refine wp_cond_false (h29.2 112 _ rfl) ?_
  refine wp_skip ?_
  show Code.wp _ _ _ _ _
  refine wp_seq ?_
  refine wp_seq (wp_region ?_)
  refine oP 298 [] [0, 1] [(0, .v v), (1, .v (.float .f32 b)), (2, vo 102), (3, vi (-1)), (8, .v (Value.slice none 0 0)), (9, vu ↑b), (10, vi 8), (11, vi 23), (13, vb neg), (14, vi E), (15, vu ((8388608 + fr : Nat) : Int)), (34, vb true), (67, vb false), (78, vb false), (89, vb false), (97, vo 102), (98, vb false), (99, vb false), (100, vo 102), (101, vb false), (102, vb false), (112, vb false), (121, vb true)] h29 d29 (fun a30 h30 d30 => ?_)
  clear h29 d29
  show Code.wp _ _ _ _ _
  refine wp_cond_true (h30.2 121 _ rfl) ?_
  refine wp_seq (wp_region ?_)
  refine alloc_ops (N := 298) (i := 0) (d := 16) (l := []) rfl rfl rfl (by decide) h30 rfl allocOk59 (fun a31 h31 d31 => ?_)
  replace d31 := d31.trans d30
  clear h30 d30
  have lg : w.heap.size ≤ w.drew.heap.size := HB0.size
  have hg := bl_rep0 w.drew 32 (.int .u8 0) 59
  have HB31 := below_alloc HB0 (.cells (Array.replicate 32 (.int .u8 0)) 59)
  show Code.wp _ _ _ _ _
  generalize w.drew.heap.size = g at lg hg h31
  generalize w.drew.alloc (.cells (Array.replicate 32 (.int .u8 0)) 59) = W31 at hg HB31 ⊢
  replace h31 := has_list (β := bn [g]) h31.1 (E := [(0, .v v), (1, .v (.float .f32 b)), (2, vo 102), (3, vi (-1)), (8, .v (Value.slice none 0 0)), (9, vu ↑b), (10, vi 8), (11, vi 23), (13, vb neg), (14, vi E), (15, vu ((8388608 + fr : Nat) : Int)), (16, .p 0 0), (34, vb true), (67, vb false), (78, vb false), (89, vb false), (97, vo 102), (98, vb false), (99, vb false), (100, vo 102), (101, vb false), (102, vb false), (112, vb false), (121, vb true)]) ⟨h31.2 0 _ rfl, h31.2 1 _ rfl, h31.2 2 _ rfl, h31.2 3 _ rfl, h31.2 8 _ rfl, h31.2 9 _ rfl, h31.2 10 _ rfl, h31.2 11 _ rfl, h31.2 13 _ rfl, h31.2 14 _ rfl, h31.2 15 _ rfl, h31.2 16 _ rfl, h31.2 34 _ rfl, h31.2 67 _ rfl, h31.2 78 _ rfl, h31.2 89 _ rfl, h31.2 97 _ rfl, h31.2 98 _ rfl, h31.2 99 _ rfl, h31.2 100 _ rfl, h31.2 101 _ rfl, h31.2 102 _ rfl, h31.2 112 _ rfl, h31.2 121 _ rfl, trivial⟩
  refine wp_seq (wp_region ?_)
  refine oP 298 [1, 2, 3] [0] [(0, .v v), (1, .v (.float .f32 b)), (2, vo 102), (3, vi (-1)), (8, .v (Value.slice none 0 0)), (9, vu ↑b), (10, vi 8), (11, vi 23), (13, vb neg), (14, vi E), (15, vu ((8388608 + fr : Nat) : Int)), (16, .p 0 0), (34, vb true), (67, vb false), (78, vb false), (89, vb false), (97, vo 102), (98, vb false), (99, vb false), (100, vo 102), (101, vb false), (102, vb false), (112, vb false), (121, vb true), (122, vu ((8388608 + fr : Nat) : Int))] h31 d31 (fun a32 h32 d32 => ?_)
  clear h31 d31
  refine callW_ops (N := 298) (i := 1) (d := 123) (f := 34) (args := [(vu ((8388608 + fr : Nat) : Int))]) (l := [2, 3]) rfl (want_ rfl) rfl (by decide) h32 Tryd.func34 rfl rfl rfl (by kernel_rfl) (fun v W' => v = (.int .i64 24) ∧ Below (W31).heap.size (W31) W') ((bits_Len64.calls ((8388608 + fr : Nat) : Int) 24 W31 (by unfold bits_Len64.f; rw [if_pos ⟨by omega, by omega⟩, Int.toNat_natCast, hlen]; rfl)).mono fun e w' hh => ⟨_, hh.1, rfl, hh.2.below⟩) (fun v33 W33 a33 hR33 h33 d33 => ?_)
  replace d33 := d33.trans d32
  clear h32 d32
  obtain ⟨rfl, B33⟩ := hR33
  have HB33 := below_step HB31 B33
  replace hg := hg.on (Fr.ofBelow [] B33) (by simp)
  refine oP 298 [] [2, 3] [(0, .v v), (1, .v (.float .f32 b)), (2, vo 102), (3, vi (-1)), (8, .v (Value.slice none 0 0)), (9, vu ↑b), (10, vi 8), (11, vi 23), (13, vb neg), (14, vi E), (15, vu ((8388608 + fr : Nat) : Int)), (16, .p 0 0), (17, vi 40), (34, vb true), (67, vb false), (78, vb false), (89, vb false), (97, vo 102), (98, vb false), (99, vb false), (100, vo 102), (101, vb false), (102, vb false), (112, vb false), (121, vb true)] h33 d33 (fun a34 h34 d34 => ?_)
  clear h33 d33
  show Code.wp _ _ _ _ _
  refine wp_seq (wp_region ?_)
  refine oP 298 [3] [0, 1, 2] [(0, .v v), (1, .v (.float .f32 b)), (2, vo 102), (3, vi (-1)), (8, .v (Value.slice none 0 0)), (9, vu ↑b), (10, vi 8), (11, vi 23), (13, vb neg), (14, vi E), (15, vu ((8388608 + fr : Nat) : Int)), (16, .p 0 0), (17, vi 40), (34, vb true), (67, vb false), (78, vb false), (89, vb false), (97, vo 102), (98, vb false), (99, vb false), (100, vo 102), (101, vb false), (102, vb false), (112, vb false), (121, vb true), (125, vu ((8388608 + fr : Nat) : Int)), (126, vi 40), (127, vu (IntKind.u64.wrap (((8388608 + fr : Nat) : Int) * 1099511627776)))] h34 d34 (fun a35 h35 d35 => ?_)
  clear h34 d34
  rw [show (IntKind.u64.wrap (((8388608 + fr : Nat) : Int) * 1099511627776)) = ((M : Nat) : Int) from hM] at h35
  refine oP 298 [] [3] [(0, .v v), (1, .v (.float .f32 b)), (2, vo 102), (3, vi (-1)), (8, .v (Value.slice none 0 0)), (9, vu ↑b), (10, vi 8), (11, vi 23), (13, vb neg), (14, vi E), (15, vu ((8388608 + fr : Nat) : Int)), (16, .p 0 0), (17, vi 40), (18, vu ↑M), (34, vb true), (67, vb false), (78, vb false), (89, vb false), (97, vo 102), (98, vb false), (99, vb false), (100, vo 102), (101, vb false), (102, vb false), (112, vb false), (121, vb true)] h35 d35 (fun a36 h36 d36 => ?_)
  clear h35 d35
  show Code.wp _ _ _ _ _
  refine wp_seq (wp_region ?_)
  refine oP 298 [] [0, 1, 2, 3] [(0, .v v), (1, .v (.float .f32 b)), (2, vo 102), (3, vi (-1)), (8, .v (Value.slice none 0 0)), (9, vu ↑b), (10, vi 8), (11, vi 23), (13, vb neg), (14, vi E), (15, vu ((8388608 + fr : Nat) : Int)), (16, .p 0 0), (17, vi 40), (18, vu ↑M), (19, vi (IntKind.i64.wrap (E - 40))), (34, vb true), (67, vb false), (78, vb false), (89, vb false), (97, vo 102), (98, vb false), (99, vb false), (100, vo 102), (101, vb false), (102, vb false), (112, vb false), (121, vb true)] h36 d36 (fun a37 h37 d37 => ?_)
  clear h36 d36
  show Code.wp _ _ _ _ _
  refine wp_seq (wp_region ?_)
  refine oP 298 [4, 5, 6, 7, 8, 9] [0, 1, 2, 3] [(0, .v v), (1, .v (.float .f32 b)), (2, vo 102), (3, vi (-1)), (8, .v (Value.slice none 0 0)), (9, vu ↑b), (10, vi 8), (11, vi 23), (13, vb neg), (14, vi E), (15, vu ((8388608 + fr : Nat) : Int)), (16, .p 0 0), (17, vi 40), (18, vu ↑M), (19, vi (IntKind.i64.wrap (E - 40))), (34, vb true), (67, vb false), (78, vb false), (89, vb false), (97, vo 102), (98, vb false), (99, vb false), (100, vo 102), (101, vb false), (102, vb false), (112, vb false), (121, vb true), (132, vu ↑M), (133, vi (IntKind.i64.wrap (E - 40))), (134, vi 23), (135, vi (IntKind.i64.wrap ((IntKind.i64.wrap (E - 40)) - 23)))] h37 d37 (fun a38 h38 d38 => ?_)
  clear h37 d37
  rw [show (IntKind.i64.wrap ((IntKind.i64.wrap (E - 40)) - 23)) = es from hes] at h38
  refine callW_ops (N := 298) (i := 4) (d := 136) (f := 35) (args := [(vu ↑M), vi es]) (l := [5, 6, 7, 8, 9]) rfl (want_ rfl) rfl (by decide) h38 Tryd.func35 rfl rfl rfl (by kernel_rfl) (fun v W' => v = (.tuple #[.int .u64 ↑R, .int .i64 PR]) ∧ Below (W33).heap.size (W33) W') ((short_walk _ es _ PR hs W33 (HZ.below HB33)).mono fun e w' hh => ⟨_, hh.1, rfl, hh.2⟩) (fun v39 W39 a39 hR39 h39 d39 => ?_)
  replace d39 := d39.trans d38
  clear h38 d38
  obtain ⟨rfl, B39⟩ := hR39
  have HB39 := below_step HB33 B39
  replace hg := hg.on (Fr.ofBelow [] B39) (by simp)
  refine oP 298 [] [5, 6, 7, 8, 9] [(0, .v v), (1, .v (.float .f32 b)), (2, vo 102), (3, vi (-1)), (8, .v (Value.slice none 0 0)), (9, vu ↑b), (10, vi 8), (11, vi 23), (13, vb neg), (14, vi E), (15, vu ((8388608 + fr : Nat) : Int)), (16, .p 0 0), (17, vi 40), (20, vu ↑R), (21, vi PR), (34, vb true), (67, vb false), (78, vb false), (89, vb false), (97, vo 102), (98, vb false), (99, vb false), (100, vo 102), (101, vb false), (102, vb false), (112, vb false), (121, vb true)] h39 d39 (fun a40 h40 d40 => ?_)
  clear h39 d39
  show Code.wp _ _ _ _ _
  refine wp_seq ?_
  refine wp_region_last (S := fun _ => True) (ds := []) (by kernel_rfl) ?_
  show wpAnyLast Tryd.prog .any _ _ _ _ 11 (Array.replicate 11 false) _ (W39).drew
  replace HB39 := below_drew1 HB39
  replace hg : (⟨g, 59, 32, fun _ => .int .u8 0⟩ : Bl).In (W39).drew := hg
  refine seg_ (N := 298) (β := bn [g]) (M := fun _ _ => none) (T := TT) (fuel := 7) (S := fun _ => True) (E' := [(143, vu ↑R), (142, vi PR), (141, vu ↑R), (140, .s 0 0 32 32), (0, .v v), (1, .v (.float .f32 b)), (2, vo 102), (3, vi (-1)), (8, .v (Value.slice none 0 0)), (9, vu ↑b), (10, vi 8), (11, vi 23), (13, vb neg), (14, vi E), (15, vu ((8388608 + fr : Nat) : Int)), (16, .p 0 0), (17, vi 40), (20, vu ↑R), (21, vi PR), (34, vb true), (67, vb false), (78, vb false), (89, vb false), (97, vo 102), (98, vb false), (99, vb false), (100, vo 102), (101, vb false), (102, vb false), (112, vb false), (121, vb true)]) tabOk (fun _ _ _ _ _ h => by cases h) (fun _ _ _ _ hd h => And.intro (hd.trans (And.left h)) (And.right h)) trivial [0, 1, 2, 3] (by kernel_rfl) (by kernel_rfl) h40 (fun a41 h41 d41 => ?_)
  replace d41 := d41.trans d40
  clear h40 d40
  refine stepR (N := 298) (j := 4) (d := 144) (f := 37) (args := [(vu ↑R)]) (fuel := 6) h41 (by kernel_rfl) (by kernel_rfl) Tryd.func37 rfl rfl (fun v W' => v = .int .i64 ↑n ∧ Below (W39.drew).heap.size (W39.drew) W') (fun _ _ _ => trivial) ((numDigits_walk R (by omega) (W39.drew) (HZ.below HB39)).mono fun e w' hh => ⟨_, hh.1, by rw [hnd], hh.2⟩) (fun a42 v42 W42 h42 d42 hR42 => ?_)
  replace d42 := d42.trans d41
  clear h41 d41
  obtain ⟨rfl, B42⟩ := hR42
  have HB42 := below_step HB39 B42
  replace hg := hg.on (Fr.ofBelow [] B42) (by simp)
  refine stepR (N := 298) (j := 5) (d := 145) (f := 36) (args := [.s 0 0 32 32, vu ↑R, vi PR, vi ↑n]) (fuel := 5) h42 (by kernel_rfl) (by kernel_rfl) Tryd.func36 rfl rfl (fun v W' => v = .tuple #[.int .i64 dp, .int .i64 ((strip (dgC n R) n : Nat) : Int)] ∧ (⟨g, 59, 32, dgM (fun _ => .int .u8 0) n R⟩ : Bl).In W' ∧ Fr [g] W42 W') (fun _ _ _ => trivial) ((set_walk n g R PR dp (fun _ => .int .u8 0) h1 h9 hR (W42) hg hdp).mono fun e w' hh => ⟨_, hh.1, rfl, hh.2⟩) (fun a43 v43 W43 h43 d43 hR43 => ?_)
  replace d43 := d43.trans d42
  clear h42 d42
  obtain ⟨rfl, hgs, F43⟩ := hR43
  have HB43 := HB42.trans (F43.below _ HB42.size (by intro x hx; simp at hx; subst hx; exact lg))
  clear hg
  have hg := hgs
  refine seg_ (N := 298) (β := bn [g]) (M := fun _ _ => none) (T := TT) (fuel := 0) (S := fun _ => True) (E' := [(23, vi ((strip (dgC n R) n : Nat) : Int)), (22, vi dp), (147, vi ((strip (dgC n R) n : Nat) : Int)), (146, vi dp), (139, .v (.tuple #[.int .i64 dp, .int .i64 ((strip (dgC n R) n : Nat) : Int)])), (145, .v (.tuple #[.int .i64 dp, .int .i64 ((strip (dgC n R) n : Nat) : Int)])), (144, vi ↑n), (143, vu ↑R), (142, vi PR), (141, vu ↑R), (140, .s 0 0 32 32), (0, .v v), (1, .v (.float .f32 b)), (2, vo 102), (3, vi (-1)), (8, .v (Value.slice none 0 0)), (9, vu ↑b), (10, vi 8), (11, vi 23), (13, vb neg), (14, vi E), (15, vu ((8388608 + fr : Nat) : Int)), (16, .p 0 0), (17, vi 40), (20, vu ↑R), (21, vi PR), (34, vb true), (67, vb false), (78, vb false), (89, vb false), (97, vo 102), (98, vb false), (99, vb false), (100, vo 102), (101, vb false), (102, vb false), (112, vb false), (121, vb true)]) tabOk (fun _ _ _ _ _ h => by cases h) (fun _ _ _ _ hd h => And.intro (hd.trans (And.left h)) (And.right h)) trivial [6, 7, 8, 9, 10] (by kernel_rfl) (by kernel_rfl) h43 (fun a44 h44 d44 => ?_)
  replace d44 := d44.trans d43
  clear h43 d43
  refine done_ (by kernel_rfl) ?_
  show Code.wp _ _ _ _ _
  replace h44 := sub_ok (E := [(0, .v v), (1, .v (.float .f32 b)), (2, vo 102), (3, vi (-1)), (8, .v (Value.slice none 0 0)), (9, vu ↑b), (10, vi 8), (11, vi 23), (13, vb neg), (14, vi E), (15, vu ((8388608 + fr : Nat) : Int)), (16, .p 0 0), (17, vi 40), (22, vi dp), (23, vi ((strip (dgC n R) n : Nat) : Int)), (34, vb true), (67, vb false), (78, vb false), (89, vb false), (97, vo 102), (98, vb false), (99, vb false), (100, vo 102), (101, vb false), (102, vb false), (112, vb false), (121, vb true)]) h44 sE
  refine wp_seq ?_
  refine wp_seq (wp_region ?_)
  refine oP 298 [] [0] [(0, .v v), (1, .v (.float .f32 b)), (2, vo 102), (3, vi (-1)), (8, .v (Value.slice none 0 0)), (9, vu ↑b), (10, vi 8), (11, vi 23), (13, vb neg), (14, vi E), (15, vu ((8388608 + fr : Nat) : Int)), (16, .p 0 0), (17, vi 40), (22, vi dp), (23, vi ((strip (dgC n R) n : Nat) : Int)), (34, vb true), (67, vb false), (78, vb false), (89, vb false), (97, vo 102), (98, vb false), (99, vb false), (100, vo 102), (101, vb false), (102, vb false), (112, vb false), (121, vb true), (148, vo 102)] h44 d44 (fun a45 h45 d45 => ?_)
  clear h44 d44
  show Code.wp _ _ _ _ _
  refine wp_block ?_
  refine wp_seq ?_
  refine wp_seq (wp_region ?_)
  refine oP 298 [] [0, 1] [(0, .v v), (1, .v (.float .f32 b)), (2, vo 102), (3, vi (-1)), (8, .v (Value.slice none 0 0)), (9, vu ↑b), (10, vi 8), (11, vi 23), (13, vb neg), (14, vi E), (15, vu ((8388608 + fr : Nat) : Int)), (16, .p 0 0), (17, vi 40), (22, vi dp), (23, vi ((strip (dgC n R) n : Nat) : Int)), (34, vb true), (67, vb false), (78, vb false), (89, vb false), (97, vo 102), (98, vb false), (99, vb false), (100, vo 102), (101, vb false), (102, vb false), (112, vb false), (121, vb true), (148, vo 102), (149, vb false)] h45 d45 (fun a46 h46 d46 => ?_)
  clear h45 d45
  show Code.wp _ _ _ _ _
  refine wp_cond_false (h46.2 149 _ rfl) ?_
  refine wp_region ?_
  refine oP 298 [] [0, 1] [(0, .v v), (1, .v (.float .f32 b)), (2, vo 102), (3, vi (-1)), (8, .v (Value.slice none 0 0)), (9, vu ↑b), (10, vi 8), (11, vi 23), (13, vb neg), (14, vi E), (15, vu ((8388608 + fr : Nat) : Int)), (16, .p 0 0), (17, vi 40), (22, vi dp), (23, vi ((strip (dgC n R) n : Nat) : Int)), (34, vb true), (67, vb false), (78, vb false), (89, vb false), (97, vo 102), (98, vb false), (99, vb false), (100, vo 102), (101, vb false), (102, vb false), (112, vb false), (121, vb true), (148, vo 102), (149, vb false)] h46 d46 (fun a47 h47 d47 => ?_)
  clear h46 d46
  show Code.wp _ _ _ _ _
  refine wp_cond_false (h47.2 149 _ rfl) ?_
  refine wp_seq (wp_region ?_)
  refine oP 298 [] [0, 1] [(0, .v v), (1, .v (.float .f32 b)), (2, vo 102), (3, vi (-1)), (8, .v (Value.slice none 0 0)), (9, vu ↑b), (10, vi 8), (11, vi 23), (13, vb neg), (14, vi E), (15, vu ((8388608 + fr : Nat) : Int)), (16, .p 0 0), (17, vi 40), (22, vi dp), (23, vi ((strip (dgC n R) n : Nat) : Int)), (34, vb true), (67, vb false), (78, vb false), (89, vb false), (97, vo 102), (98, vb false), (99, vb false), (100, vo 102), (101, vb false), (102, vb false), (112, vb false), (121, vb true), (148, vo 102), (149, vb false), (155, vb true)] h47 d47 (fun a48 h48 d48 => ?_)
  clear h47 d47
  show Code.wp _ _ _ _ _
  refine wp_cond_true (h48.2 155 _ rfl) ?_
  refine wp_region ?_
  refine oP 298 [3, 4] [0, 1, 2] [(0, .v v), (1, .v (.float .f32 b)), (2, vo 102), (3, vi (-1)), (8, .v (Value.slice none 0 0)), (9, vu ↑b), (10, vi 8), (11, vi 23), (13, vb neg), (14, vi E), (15, vu ((8388608 + fr : Nat) : Int)), (16, .p 0 0), (17, vi 40), (22, vi dp), (23, vi ((strip (dgC n R) n : Nat) : Int)), (34, vb true), (67, vb false), (78, vb false), (89, vb false), (97, vo 102), (98, vb false), (99, vb false), (100, vo 102), (101, vb false), (102, vb false), (112, vb false), (121, vb true), (148, vo 102), (149, vb false), (155, vb true), (157, vi ((strip (dgC n R) n : Nat) : Int)), (158, vi dp), (159, vi (IntKind.i64.wrap (((strip (dgC n R) n : Nat) : Int) - dp)))] h48 d48 (fun a49 h49 d49 => ?_)
  clear h48 d48
  rw [show (IntKind.i64.wrap (((strip (dgC n R) n : Nat) : Int) - dp)) = (((strip (dgC n R) n : Nat) : Int) - dp) from by rw [IntKind.wrap_i64]; omega] at h49
  refine gW (s := vi (if ((strip (dgC n R) n : Nat) : Int) - dp < 0 then 0 else ((strip (dgC n R) n : Nat) : Int) - dp)) 298 [4] h49 d49 rfl (want_ rfl) rfl (by decide) (op_max rfl (h49.2 159 _ rfl) rfl) (fun a50 h50 d50 => ?_)
  clear h49 d49
  refine oP 298 [] [4] [(0, .v v), (1, .v (.float .f32 b)), (2, vo 102), (3, vi (if ((strip (dgC n R) n : Nat) : Int) - dp < 0 then 0 else ((strip (dgC n R) n : Nat) : Int) - dp)), (8, .v (Value.slice none 0 0)), (9, vu ↑b), (10, vi 8), (11, vi 23), (13, vb neg), (14, vi E), (15, vu ((8388608 + fr : Nat) : Int)), (16, .p 0 0), (17, vi 40), (22, vi dp), (23, vi ((strip (dgC n R) n : Nat) : Int)), (34, vb true), (67, vb false), (78, vb false), (89, vb false), (97, vo 102), (98, vb false), (99, vb false), (100, vo 102), (101, vb false), (102, vb false), (112, vb false), (121, vb true), (148, vo 102), (149, vb false), (155, vb true)] h50 d50 (fun a51 h51 d51 => ?_)
  clear h50 d50
  show Code.wp _ _ _ _ _
  refine wp_seq (wp_region ?_)
  refine oP 298 [2, 3, 4, 5, 6, 7, 8] [0, 1] [(0, .v v), (1, .v (.float .f32 b)), (2, vo 102), (3, vi (if ((strip (dgC n R) n : Nat) : Int) - dp < 0 then 0 else ((strip (dgC n R) n : Nat) : Int) - dp)), (8, .v (Value.slice none 0 0)), (9, vu ↑b), (10, vi 8), (11, vi 23), (13, vb neg), (14, vi E), (15, vu ((8388608 + fr : Nat) : Int)), (16, .p 0 0), (17, vi 40), (22, vi dp), (23, vi ((strip (dgC n R) n : Nat) : Int)), (34, vb true), (67, vb false), (78, vb false), (89, vb false), (97, vo 102), (98, vb false), (99, vb false), (100, vo 102), (101, vb false), (102, vb false), (112, vb false), (121, vb true), (148, vo 102), (149, vb false), (155, vb true), (165, .v v), (166, vb neg)] h51 d51 (fun a52 h52 d52 => ?_)
  clear h51 d51
  refine oP 298 [7, 8] [2, 3, 4, 5, 6] [(0, .v v), (1, .v (.float .f32 b)), (2, vo 102), (3, vi (if ((strip (dgC n R) n : Nat) : Int) - dp < 0 then 0 else ((strip (dgC n R) n : Nat) : Int) - dp)), (8, .v (Value.slice none 0 0)), (9, vu ↑b), (10, vi 8), (11, vi 23), (13, vb neg), (14, vi E), (15, vu ((8388608 + fr : Nat) : Int)), (16, .p 0 0), (17, vi 40), (22, vi dp), (23, vi ((strip (dgC n R) n : Nat) : Int)), (34, vb true), (67, vb false), (78, vb false), (89, vb false), (97, vo 102), (98, vb false), (99, vb false), (100, vo 102), (101, vb false), (102, vb false), (112, vb false), (121, vb true), (148, vo 102), (149, vb false), (155, vb true), (165, .v v), (166, vb neg), (167, .s 0 0 32 32), (168, vi dp), (169, vi ((strip (dgC n R) n : Nat) : Int)), (170, vi (if ((strip (dgC n R) n : Nat) : Int) - dp < 0 then 0 else ((strip (dgC n R) n : Nat) : Int) - dp)), (171, vo 102)] h52 d52 (fun a53 h53 d53 => ?_)
  clear h52 d52
  have D0 : DS g (dgM (fun _ => .int .u8 0) n R) true w0 W43 v [] := ⟨Kd.R_mono (Kd.R_below hrow HB43) (fun k hk => by omega), below_step hB HB43, fun _ => hg, hg.lt⟩
  refine callW_ops (N := 298) (i := 7) (d := 172) (f := 33) (args := [.v v, vb neg, .s 0 0 32 32, vi dp, vi ((strip (dgC n R) n : Nat) : Int), vi (if ((strip (dgC n R) n : Nat) : Int) - dp < 0 then 0 else ((strip (dgC n R) n : Nat) : Int) - dp), vo 102, vb true]) (l := [8]) rfl (want_ rfl) rfl (by decide) h53 Tryd.func33 rfl rfl rfl (by kernel_rfl) (fun u W' => ∃ l, l = efgR neg (dgC n R) dp (strip (dgC n R) n) ∧ DS g (dgM (fun _ => .int .u8 0) n R) true w0 W' u l) ((efg_walk g _ (dgC n R) n (by omega) (fun i hi => if_pos hi) neg dp (strip (dgC n R) n) _ hz hzn hlo hhi rfl w0 (W43) v [] D0 (by simp)).mono fun e w' hh => by obtain ⟨v', e1, e2⟩ := hh; rw [List.nil_append] at e2; exact ⟨v', e1, _, rfl, e2⟩) (fun v54 W54 a54 hR54 h54 d54 => ?_)
  replace d54 := d54.trans d53
  clear h53 d53
  refine oP 298 [] [8] [(0, .v v), (1, .v (.float .f32 b)), (2, vo 102), (3, vi (if ((strip (dgC n R) n : Nat) : Int) - dp < 0 then 0 else ((strip (dgC n R) n : Nat) : Int) - dp)), (8, .v v54), (9, vu ↑b), (10, vi 8), (11, vi 23), (13, vb neg), (14, vi E), (15, vu ((8388608 + fr : Nat) : Int)), (16, .p 0 0), (17, vi 40), (22, vi dp), (23, vi ((strip (dgC n R) n : Nat) : Int)), (34, vb true), (67, vb false), (78, vb false), (89, vb false), (97, vo 102), (98, vb false), (99, vb false), (100, vo 102), (101, vb false), (102, vb false), (112, vb false), (121, vb true), (148, vo 102), (149, vb false), (155, vb true)] h54 d54 (fun a55 h55 d55 => ?_)
  clear h54 d54
  show Code.wp _ _ _ _ _
  obtain ⟨_, rfl, Df⟩ := hR54
  refine wp_ret ?_
  exact ⟨d55, _, results_tmp rfl _ _ _, v54, congrArg Ending.returned (h55.2 8 _ rfl), Kd.R_mono Df.row (fun _ _ => trivial), Df.bel⟩
set_option maxHeartbeats 8000000 in
set_option maxRecDepth 100000 in
theorem ftoa0_false_walk (g : Nat) (w0 w : World) (v : Value) (hlt : g < w.heap.size) (hB : Below w0.heap.size w0 w) (hrow : Kd.R (Kd.int .u8) 5 w w0.heap.size (fun k => k ≠ g) v []) :
    Calls Tryd.prog 27 #[v, .float .f32 0, .int .u8 102, .int .i64 (-1)] w fun e w' => ∃ v', e = .returned v' ∧ Kd.R (Kd.int .u8) 5 w' w0.heap.size (fun _ => True) v' [48] ∧ Below w0.heap.size w0 w' := by
  refine calls_of_wp Tryd.func27 rfl ?_
  have h0 := has_four (β := bn []) (.v v) (.v (.float .f32 0)) (vo 102) (vi (-1)) 294
  have d0 : (⟨#[v, .float .f32 0, .int .u8 102, .int .i64 (-1)] ++ Array.replicate 294 undef, []⟩ : Act).defers = [] := rfl
  refine wp_seq (wp_region ?_)
  refine oP 298 [] [0] [(0, .v v), (1, .v (.float .f32 0)), (2, vo 102), (3, vi (-1)), (8, .v (Value.slice none 0 0))] h0 d0 (fun a1 h1 d1 => ?_)
  clear h0 d0
  show Code.wp _ _ _ _ _
  refine wp_seq (wp_region ?_)
  refine oP 298 [] [0] [(0, .v v), (1, .v (.float .f32 0)), (2, vo 102), (3, vi (-1)), (8, .v (Value.slice none 0 0)), (9, vu 0)] h1 d1 (fun a2 h2 d2 => ?_)
  clear h1 d1
  show Code.wp _ _ _ _ _
  refine wp_seq (wp_region ?_)
  refine oP 298 [] [0, 1, 2] [(0, .v v), (1, .v (.float .f32 0)), (2, vo 102), (3, vi (-1)), (8, .v (Value.slice none 0 0)), (9, vu 0), (10, vi 0), (11, vi 0), (12, vi 0)] h2 d2 (fun a3 h3 d3 => ?_)
  clear h2 d2
  show Code.wp _ _ _ _ _
  refine wp_seq ?_
  refine wp_block ?_
  refine wp_seq (wp_region ?_)
  refine oP 298 [] [0, 1] [(0, .v v), (1, .v (.float .f32 0)), (2, vo 102), (3, vi (-1)), (8, .v (Value.slice none 0 0)), (9, vu 0), (10, vi 0), (11, vi 0), (12, vi 0), (34, vb true)] h3 d3 (fun a4 h4 d4 => ?_)
  clear h3 d3
  show Code.wp _ _ _ _ _
  refine wp_cond_true (h4.2 34 _ rfl) ?_
  refine wp_seq (wp_region ?_)
  refine oP 298 [1, 2, 3] [0] [(0, .v v), (1, .v (.float .f32 0)), (2, vo 102), (3, vi (-1)), (8, .v (Value.slice none 0 0)), (9, vu 0), (10, vi 0), (11, vi 0), (12, vi 0), (34, vb true), (36, .v (.float .f32 0))] h4 d4 (fun a5 h5 d5 => ?_)
  clear h4 d4
  refine gW (s := vw 0) 298 [2, 3] h5 d5 rfl (want_ rfl) rfl (by decide) (op_callV rfl (h5.2 36 _ rfl) (run_f32b 0 _) rfl) (fun a6 h6 d6 => ?_)
  clear h5 d5
  refine oP 298 [] [2, 3] [(0, .v v), (1, .v (.float .f32 0)), (2, vo 102), (3, vi (-1)), (8, .v (Value.slice none 0 0)), (9, vu 0), (10, vi 0), (11, vi 0), (12, vi 0), (34, vb true)] h6 d6 (fun a7 h7 d7 => ?_)
  clear h6 d6
  show Code.wp _ _ _ _ _
  refine wp_seq (wp_region ?_)
  refine oP 298 [] [0] [(0, .v v), (1, .v (.float .f32 0)), (2, vo 102), (3, vi (-1)), (8, .v (Value.slice none 0 0)), (9, vu 0), (10, vi 8), (11, vi 0), (12, vi 0), (34, vb true)] h7 d7 (fun a8 h8 d8 => ?_)
  clear h7 d7
  show Code.wp _ _ _ _ _
  refine wp_seq (wp_region ?_)
  refine oP 298 [] [0] [(0, .v v), (1, .v (.float .f32 0)), (2, vo 102), (3, vi (-1)), (8, .v (Value.slice none 0 0)), (9, vu 0), (10, vi 8), (11, vi 23), (12, vi 0), (34, vb true)] h8 d8 (fun a9 h9 d9 => ?_)
  clear h8 d8
  show Code.wp _ _ _ _ _
  refine wp_region ?_
  refine oP 298 [] [0] [(0, .v v), (1, .v (.float .f32 0)), (2, vo 102), (3, vi (-1)), (8, .v (Value.slice none 0 0)), (9, vu 0), (10, vi 8), (11, vi 23), (12, vi (-127)), (34, vb true)] h9 d9 (fun a10 h10 d10 => ?_)
  clear h9 d9
  show Code.wp _ _ _ _ _
  refine wp_seq (wp_region ?_)
  refine oP 298 [] [0, 1, 2, 3, 4, 5, 6] [(0, .v v), (1, .v (.float .f32 0)), (2, vo 102), (3, vi (-1)), (8, .v (Value.slice none 0 0)), (9, vu 0), (10, vi 8), (11, vi 23), (12, vi (-127)), (13, vb false), (34, vb true)] h10 d10 (fun a11 h11 d11 => ?_)
  clear h10 d10
  show Code.wp _ _ _ _ _
  refine wp_seq ?_
  refine reg_draw (N := 298) (T := TT) (M := fun _ _ => none) (n := 9) (E2 := [(0, .v v), (1, .v (.float .f32 0)), (2, vo 102), (3, vi (-1)), (8, .v (Value.slice none 0 0)), (9, vu 0), (10, vi 8), (11, vi 23), (12, vi (-127)), (13, vb false), (14, vi 0), (34, vb true)]) (by kernel_rfl) tabOk h11 (fun _ _ _ h => by cases h) rfl (by kernel_rfl) (by kernel_rfl) sE (fun _ _ _ _ hd h => And.intro (hd.trans (And.left h)) (And.right h)) (fun a12 h12 d12 => ?_)
  replace d12 := d12.trans d11
  clear h11 d11
  show Code.wp _ _ _ _ _
  refine wp_seq (wp_region ?_)
  refine oP 298 [] [0, 1, 2, 3, 4, 5] [(0, .v v), (1, .v (.float .f32 0)), (2, vo 102), (3, vi (-1)), (8, .v (Value.slice none 0 0)), (9, vu 0), (10, vi 8), (11, vi 23), (12, vi (-127)), (13, vb false), (14, vi 0), (15, vu 0), (34, vb true)] h12 d12 (fun a13 h13 d13 => ?_)
  clear h12 d12
  show Code.wp _ _ _ _ _
  refine wp_seq ?_
  refine wp_seq (wp_region ?_)
  refine oP 298 [] [0, 1, 2, 3, 4] [(0, .v v), (1, .v (.float .f32 0)), (2, vo 102), (3, vi (-1)), (8, .v (Value.slice none 0 0)), (9, vu 0), (10, vi 8), (11, vi 23), (12, vi (-127)), (13, vb false), (14, vi 0), (15, vu 0), (34, vb true), (67, vb false)] h13 d13 (fun a14 h14 d14 => ?_)
  clear h13 d13
  show Code.wp _ _ _ _ _
  refine wp_cond_false (h14.2 67 _ rfl) ?_
  refine wp_skip ?_
  show Code.wp _ _ _ _ _
  refine wp_seq ?_
  refine wp_seq (wp_region ?_)
  refine oP 298 [] [0, 1] [(0, .v v), (1, .v (.float .f32 0)), (2, vo 102), (3, vi (-1)), (8, .v (Value.slice none 0 0)), (9, vu 0), (10, vi 8), (11, vi 23), (12, vi (-127)), (13, vb false), (14, vi 0), (15, vu 0), (34, vb true), (67, vb false), (78, vb true)] h14 d14 (fun a15 h15 d15 => ?_)
  clear h14 d14
  show Code.wp _ _ _ _ _
  refine wp_cond_true (h15.2 78 _ rfl) ?_
  refine wp_region ?_
  refine oP 298 [] [0, 1, 2] [(0, .v v), (1, .v (.float .f32 0)), (2, vo 102), (3, vi (-1)), (8, .v (Value.slice none 0 0)), (9, vu 0), (10, vi 8), (11, vi 23), (12, vi (-127)), (13, vb false), (14, vi 1), (15, vu 0), (34, vb true), (67, vb false), (78, vb true)] h15 d15 (fun a16 h16 d16 => ?_)
  clear h15 d15
  show Code.wp _ _ _ _ _
  refine wp_seq (wp_region ?_)
  refine oP 298 [] [0, 1, 2, 3] [(0, .v v), (1, .v (.float .f32 0)), (2, vo 102), (3, vi (-1)), (8, .v (Value.slice none 0 0)), (9, vu 0), (10, vi 8), (11, vi 23), (13, vb false), (14, vi (-126)), (15, vu 0), (34, vb true), (67, vb false), (78, vb true)] h16 d16 (fun a17 h17 d17 => ?_)
  clear h16 d16
  show Code.wp _ _ _ _ _
  refine wp_seq ?_
  refine wp_seq (wp_region ?_)
  refine oP 298 [] [0, 1] [(0, .v v), (1, .v (.float .f32 0)), (2, vo 102), (3, vi (-1)), (8, .v (Value.slice none 0 0)), (9, vu 0), (10, vi 8), (11, vi 23), (13, vb false), (14, vi (-126)), (15, vu 0), (34, vb true), (67, vb false), (78, vb true), (89, vb false)] h17 d17 (fun a18 h18 d18 => ?_)
  clear h17 d17
  show Code.wp _ _ _ _ _
  refine wp_cond_false (h18.2 89 _ rfl) ?_
  refine wp_skip ?_
  show Code.wp _ _ _ _ _
  refine wp_seq ?_
  refine wp_seq (wp_region ?_)
  refine oP 298 [3, 4, 5] [0, 1, 2] [(0, .v v), (1, .v (.float .f32 0)), (2, vo 102), (3, vi (-1)), (8, .v (Value.slice none 0 0)), (9, vu 0), (10, vi 8), (11, vi 23), (13, vb false), (14, vi (-126)), (15, vu 0), (34, vb true), (67, vb false), (78, vb true), (89, vb false), (97, vo 102), (98, vb false), (99, vb false)] h18 d18 (fun a19 h19 d19 => ?_)
  clear h18 d18
  refine guard_ops (N := 298) (T := TT) (M := (fun _ _ => none)) tabOk (i := 3) (d := 100) (j := 2) (dj := 99) (b := false) (s := vo 102) (l := [4, 5]) (fun _ _ _ h => by cases h) rfl rfl rfl rfl rfl (by decide) h19 (by kernel_rfl) (fun a20 h20 d20 => ?_)
  replace d20 := d20.trans d19
  clear h19 d19
  refine guard_ops (N := 298) (T := TT) (M := (fun _ _ => none)) tabOk (i := 4) (d := 101) (j := 2) (dj := 99) (b := false) (s := vb false) (l := [5]) (fun _ _ _ h => by cases h) rfl rfl rfl rfl rfl (by decide) h20 (by kernel_rfl) (fun a21 h21 d21 => ?_)
  replace d21 := d21.trans d20
  clear h20 d20
  refine gW (s := vb false) 298 [] h21 d21 rfl (want_ rfl) rfl (by decide) (op_pickF rfl (h21.2 99 _ rfl) (h21.2 101 _ rfl)) (fun a22 h22 d22 => ?_)
  clear h21 d21
  show Code.wp _ _ _ _ _
  refine wp_cond_false (h22.2 102 _ rfl) ?_
  refine wp_skip ?_
  show Code.wp _ _ _ _ _
  refine wp_seq ?_
  refine wp_seq (wp_region ?_)
  refine oP 298 [] [0, 1] [(0, .v v), (1, .v (.float .f32 0)), (2, vo 102), (3, vi (-1)), (8, .v (Value.slice none 0 0)), (9, vu 0), (10, vi 8), (11, vi 23), (13, vb false), (14, vi (-126)), (15, vu 0), (34, vb true), (67, vb false), (78, vb true), (89, vb false), (97, vo 102), (98, vb false), (99, vb false), (100, vo 102), (101, vb false), (102, vb false), (112, vb true)] h22 d22 (fun a23 h23 d23 => ?_)
  clear h22 d22
  show Code.wp _ _ _ _ _
  refine wp_cond_true (h23.2 112 _ rfl) ?_
  refine wp_seq (wp_region ?_)
  refine oP 298 [6, 7] [0, 1, 2, 3, 4, 5] [(0, .v v), (1, .v (.float .f32 0)), (2, vo 102), (3, vi (-1)), (8, .v (Value.slice none 0 0)), (9, vu 0), (10, vi 8), (11, vi 23), (13, vb false), (14, vi (-126)), (15, vu 0), (34, vb true), (67, vb false), (78, vb true), (89, vb false), (97, vo 102), (98, vb false), (99, vb false), (100, vo 102), (101, vb false), (102, vb false), (112, vb true), (113, .v v), (114, vb false), (115, vi (-1)), (116, vo 102), (117, vi (-1)), (118, vb true)] h23 d23 (fun a24 h24 d24 => ?_)
  clear h23 d23
  have D0 : DS g (fun _ => .int .u8 0) false w0 w.drew v [] := ⟨Kd.R_drew hrow, below_drew1 hB, (fun hh => by cases hh), hlt⟩
  refine callW_ops (N := 298) (i := 6) (d := 119) (f := 33) (args := [.v v, vb false, .v (Value.slice none 0 0), vi 0, vi 0, vi (-1), vo 102, vb true]) (l := [7]) rfl (want_ rfl) rfl (by decide) h24 Tryd.func33 rfl rfl rfl (by kernel_rfl) (fun u W' => ∃ l, l = [48] ∧ DS g (fun _ => .int .u8 0) false w0 W' u l) ((efg0false_walk g _ false w0 w.drew v [] D0 (by simp)).mono fun e w' hh => by obtain ⟨v', e1, e2⟩ := hh; exact ⟨v', e1, _, rfl, e2⟩) (fun v25 W25 a25 hR25 h25 d25 => ?_)
  replace d25 := d25.trans d24
  clear h24 d24
  refine oP 298 [] [7] [(0, .v v), (1, .v (.float .f32 0)), (2, vo 102), (3, vi (-1)), (8, .v v25), (9, vu 0), (10, vi 8), (11, vi 23), (13, vb false), (14, vi (-126)), (15, vu 0), (34, vb true), (67, vb false), (78, vb true), (89, vb false), (97, vo 102), (98, vb false), (99, vb false), (100, vo 102), (101, vb false), (102, vb false), (112, vb true)] h25 d25 (fun a26 h26 d26 => ?_)
  clear h25 d25
  show Code.wp _ _ _ _ _
  obtain ⟨_, rfl, Df⟩ := hR25
  refine wp_ret ?_
  exact ⟨d26, _, results_tmp rfl _ _ _, v25, congrArg Ending.returned (h26.2 8 _ rfl), Kd.R_mono Df.row (fun _ _ => trivial), Df.bel⟩
set_option maxHeartbeats 8000000 in
set_option maxRecDepth 100000 in
theorem ftoa0_true_walk (g : Nat) (w0 w : World) (v : Value) (hlt : g < w.heap.size) (hB : Below w0.heap.size w0 w) (hrow : Kd.R (Kd.int .u8) 5 w w0.heap.size (fun k => k ≠ g) v []) :
    Calls Tryd.prog 27 #[v, .float .f32 2147483648, .int .u8 102, .int .i64 (-1)] w fun e w' => ∃ v', e = .returned v' ∧ Kd.R (Kd.int .u8) 5 w' w0.heap.size (fun _ => True) v' [45, 48] ∧ Below w0.heap.size w0 w' := by
  refine calls_of_wp Tryd.func27 rfl ?_
  have h0 := has_four (β := bn []) (.v v) (.v (.float .f32 2147483648)) (vo 102) (vi (-1)) 294
  have d0 : (⟨#[v, .float .f32 2147483648, .int .u8 102, .int .i64 (-1)] ++ Array.replicate 294 undef, []⟩ : Act).defers = [] := rfl
  refine wp_seq (wp_region ?_)
  refine oP 298 [] [0] [(0, .v v), (1, .v (.float .f32 2147483648)), (2, vo 102), (3, vi (-1)), (8, .v (Value.slice none 0 0))] h0 d0 (fun a1 h1 d1 => ?_)
  clear h0 d0
  show Code.wp _ _ _ _ _
  refine wp_seq (wp_region ?_)
  refine oP 298 [] [0] [(0, .v v), (1, .v (.float .f32 2147483648)), (2, vo 102), (3, vi (-1)), (8, .v (Value.slice none 0 0)), (9, vu 0)] h1 d1 (fun a2 h2 d2 => ?_)
  clear h1 d1
  show Code.wp _ _ _ _ _
  refine wp_seq (wp_region ?_)
  refine oP 298 [] [0, 1, 2] [(0, .v v), (1, .v (.float .f32 2147483648)), (2, vo 102), (3, vi (-1)), (8, .v (Value.slice none 0 0)), (9, vu 0), (10, vi 0), (11, vi 0), (12, vi 0)] h2 d2 (fun a3 h3 d3 => ?_)
  clear h2 d2
  show Code.wp _ _ _ _ _
  refine wp_seq ?_
  refine wp_block ?_
  refine wp_seq (wp_region ?_)
  refine oP 298 [] [0, 1] [(0, .v v), (1, .v (.float .f32 2147483648)), (2, vo 102), (3, vi (-1)), (8, .v (Value.slice none 0 0)), (9, vu 0), (10, vi 0), (11, vi 0), (12, vi 0), (34, vb true)] h3 d3 (fun a4 h4 d4 => ?_)
  clear h3 d3
  show Code.wp _ _ _ _ _
  refine wp_cond_true (h4.2 34 _ rfl) ?_
  refine wp_seq (wp_region ?_)
  refine oP 298 [1, 2, 3] [0] [(0, .v v), (1, .v (.float .f32 2147483648)), (2, vo 102), (3, vi (-1)), (8, .v (Value.slice none 0 0)), (9, vu 0), (10, vi 0), (11, vi 0), (12, vi 0), (34, vb true), (36, .v (.float .f32 2147483648))] h4 d4 (fun a5 h5 d5 => ?_)
  clear h4 d4
  refine gW (s := vw 2147483648) 298 [2, 3] h5 d5 rfl (want_ rfl) rfl (by decide) (op_callV rfl (h5.2 36 _ rfl) (run_f32b 2147483648 _) rfl) (fun a6 h6 d6 => ?_)
  clear h5 d5
  refine oP 298 [] [2, 3] [(0, .v v), (1, .v (.float .f32 2147483648)), (2, vo 102), (3, vi (-1)), (8, .v (Value.slice none 0 0)), (9, vu 2147483648), (10, vi 0), (11, vi 0), (12, vi 0), (34, vb true)] h6 d6 (fun a7 h7 d7 => ?_)
  clear h6 d6
  show Code.wp _ _ _ _ _
  refine wp_seq (wp_region ?_)
  refine oP 298 [] [0] [(0, .v v), (1, .v (.float .f32 2147483648)), (2, vo 102), (3, vi (-1)), (8, .v (Value.slice none 0 0)), (9, vu 2147483648), (10, vi 8), (11, vi 0), (12, vi 0), (34, vb true)] h7 d7 (fun a8 h8 d8 => ?_)
  clear h7 d7
  show Code.wp _ _ _ _ _
  refine wp_seq (wp_region ?_)
  refine oP 298 [] [0] [(0, .v v), (1, .v (.float .f32 2147483648)), (2, vo 102), (3, vi (-1)), (8, .v (Value.slice none 0 0)), (9, vu 2147483648), (10, vi 8), (11, vi 23), (12, vi 0), (34, vb true)] h8 d8 (fun a9 h9 d9 => ?_)
  clear h8 d8
  show Code.wp _ _ _ _ _
  refine wp_region ?_
  refine oP 298 [] [0] [(0, .v v), (1, .v (.float .f32 2147483648)), (2, vo 102), (3, vi (-1)), (8, .v (Value.slice none 0 0)), (9, vu 2147483648), (10, vi 8), (11, vi 23), (12, vi (-127)), (34, vb true)] h9 d9 (fun a10 h10 d10 => ?_)
  clear h9 d9
  show Code.wp _ _ _ _ _
  refine wp_seq (wp_region ?_)
  refine oP 298 [] [0, 1, 2, 3, 4, 5, 6] [(0, .v v), (1, .v (.float .f32 2147483648)), (2, vo 102), (3, vi (-1)), (8, .v (Value.slice none 0 0)), (9, vu 2147483648), (10, vi 8), (11, vi 23), (12, vi (-127)), (13, vb true), (34, vb true)] h10 d10 (fun a11 h11 d11 => ?_)
  clear h10 d10
  show Code.wp _ _ _ _ _
  refine wp_seq ?_
  refine reg_draw (N := 298) (T := TT) (M := fun _ _ => none) (n := 9) (E2 := [(0, .v v), (1, .v (.float .f32 2147483648)), (2, vo 102), (3, vi (-1)), (8, .v (Value.slice none 0 0)), (9, vu 2147483648), (10, vi 8), (11, vi 23), (12, vi (-127)), (13, vb true), (14, vi 0), (34, vb true)]) (by kernel_rfl) tabOk h11 (fun _ _ _ h => by cases h) rfl (by kernel_rfl) (by kernel_rfl) sE (fun _ _ _ _ hd h => And.intro (hd.trans (And.left h)) (And.right h)) (fun a12 h12 d12 => ?_)
  replace d12 := d12.trans d11
  clear h11 d11
  show Code.wp _ _ _ _ _
  refine wp_seq (wp_region ?_)
  refine oP 298 [] [0, 1, 2, 3, 4, 5] [(0, .v v), (1, .v (.float .f32 2147483648)), (2, vo 102), (3, vi (-1)), (8, .v (Value.slice none 0 0)), (9, vu 2147483648), (10, vi 8), (11, vi 23), (12, vi (-127)), (13, vb true), (14, vi 0), (15, vu 0), (34, vb true)] h12 d12 (fun a13 h13 d13 => ?_)
  clear h12 d12
  show Code.wp _ _ _ _ _
  refine wp_seq ?_
  refine wp_seq (wp_region ?_)
  refine oP 298 [] [0, 1, 2, 3, 4] [(0, .v v), (1, .v (.float .f32 2147483648)), (2, vo 102), (3, vi (-1)), (8, .v (Value.slice none 0 0)), (9, vu 2147483648), (10, vi 8), (11, vi 23), (12, vi (-127)), (13, vb true), (14, vi 0), (15, vu 0), (34, vb true), (67, vb false)] h13 d13 (fun a14 h14 d14 => ?_)
  clear h13 d13
  show Code.wp _ _ _ _ _
  refine wp_cond_false (h14.2 67 _ rfl) ?_
  refine wp_skip ?_
  show Code.wp _ _ _ _ _
  refine wp_seq ?_
  refine wp_seq (wp_region ?_)
  refine oP 298 [] [0, 1] [(0, .v v), (1, .v (.float .f32 2147483648)), (2, vo 102), (3, vi (-1)), (8, .v (Value.slice none 0 0)), (9, vu 2147483648), (10, vi 8), (11, vi 23), (12, vi (-127)), (13, vb true), (14, vi 0), (15, vu 0), (34, vb true), (67, vb false), (78, vb true)] h14 d14 (fun a15 h15 d15 => ?_)
  clear h14 d14
  show Code.wp _ _ _ _ _
  refine wp_cond_true (h15.2 78 _ rfl) ?_
  refine wp_region ?_
  refine oP 298 [] [0, 1, 2] [(0, .v v), (1, .v (.float .f32 2147483648)), (2, vo 102), (3, vi (-1)), (8, .v (Value.slice none 0 0)), (9, vu 2147483648), (10, vi 8), (11, vi 23), (12, vi (-127)), (13, vb true), (14, vi 1), (15, vu 0), (34, vb true), (67, vb false), (78, vb true)] h15 d15 (fun a16 h16 d16 => ?_)
  clear h15 d15
  show Code.wp _ _ _ _ _
  refine wp_seq (wp_region ?_)
  refine oP 298 [] [0, 1, 2, 3] [(0, .v v), (1, .v (.float .f32 2147483648)), (2, vo 102), (3, vi (-1)), (8, .v (Value.slice none 0 0)), (9, vu 2147483648), (10, vi 8), (11, vi 23), (13, vb true), (14, vi (-126)), (15, vu 0), (34, vb true), (67, vb false), (78, vb true)] h16 d16 (fun a17 h17 d17 => ?_)
  clear h16 d16
  show Code.wp _ _ _ _ _
  refine wp_seq ?_
  refine wp_seq (wp_region ?_)
  refine oP 298 [] [0, 1] [(0, .v v), (1, .v (.float .f32 2147483648)), (2, vo 102), (3, vi (-1)), (8, .v (Value.slice none 0 0)), (9, vu 2147483648), (10, vi 8), (11, vi 23), (13, vb true), (14, vi (-126)), (15, vu 0), (34, vb true), (67, vb false), (78, vb true), (89, vb false)] h17 d17 (fun a18 h18 d18 => ?_)
  clear h17 d17
  show Code.wp _ _ _ _ _
  refine wp_cond_false (h18.2 89 _ rfl) ?_
  refine wp_skip ?_
  show Code.wp _ _ _ _ _
  refine wp_seq ?_
  refine wp_seq (wp_region ?_)
  refine oP 298 [3, 4, 5] [0, 1, 2] [(0, .v v), (1, .v (.float .f32 2147483648)), (2, vo 102), (3, vi (-1)), (8, .v (Value.slice none 0 0)), (9, vu 2147483648), (10, vi 8), (11, vi 23), (13, vb true), (14, vi (-126)), (15, vu 0), (34, vb true), (67, vb false), (78, vb true), (89, vb false), (97, vo 102), (98, vb false), (99, vb false)] h18 d18 (fun a19 h19 d19 => ?_)
  clear h18 d18
  refine guard_ops (N := 298) (T := TT) (M := (fun _ _ => none)) tabOk (i := 3) (d := 100) (j := 2) (dj := 99) (b := false) (s := vo 102) (l := [4, 5]) (fun _ _ _ h => by cases h) rfl rfl rfl rfl rfl (by decide) h19 (by kernel_rfl) (fun a20 h20 d20 => ?_)
  replace d20 := d20.trans d19
  clear h19 d19
  refine guard_ops (N := 298) (T := TT) (M := (fun _ _ => none)) tabOk (i := 4) (d := 101) (j := 2) (dj := 99) (b := false) (s := vb false) (l := [5]) (fun _ _ _ h => by cases h) rfl rfl rfl rfl rfl (by decide) h20 (by kernel_rfl) (fun a21 h21 d21 => ?_)
  replace d21 := d21.trans d20
  clear h20 d20
  refine gW (s := vb false) 298 [] h21 d21 rfl (want_ rfl) rfl (by decide) (op_pickF rfl (h21.2 99 _ rfl) (h21.2 101 _ rfl)) (fun a22 h22 d22 => ?_)
  clear h21 d21
  show Code.wp _ _ _ _ _
  refine wp_cond_false (h22.2 102 _ rfl) ?_
  refine wp_skip ?_
  show Code.wp _ _ _ _ _
  refine wp_seq ?_
  refine wp_seq (wp_region ?_)
  refine oP 298 [] [0, 1] [(0, .v v), (1, .v (.float .f32 2147483648)), (2, vo 102), (3, vi (-1)), (8, .v (Value.slice none 0 0)), (9, vu 2147483648), (10, vi 8), (11, vi 23), (13, vb true), (14, vi (-126)), (15, vu 0), (34, vb true), (67, vb false), (78, vb true), (89, vb false), (97, vo 102), (98, vb false), (99, vb false), (100, vo 102), (101, vb false), (102, vb false), (112, vb true)] h22 d22 (fun a23 h23 d23 => ?_)
  clear h22 d22
  show Code.wp _ _ _ _ _
  refine wp_cond_true (h23.2 112 _ rfl) ?_
  refine wp_seq (wp_region ?_)
  refine oP 298 [6, 7] [0, 1, 2, 3, 4, 5] [(0, .v v), (1, .v (.float .f32 2147483648)), (2, vo 102), (3, vi (-1)), (8, .v (Value.slice none 0 0)), (9, vu 2147483648), (10, vi 8), (11, vi 23), (13, vb true), (14, vi (-126)), (15, vu 0), (34, vb true), (67, vb false), (78, vb true), (89, vb false), (97, vo 102), (98, vb false), (99, vb false), (100, vo 102), (101, vb false), (102, vb false), (112, vb true), (113, .v v), (114, vb true), (115, vi (-1)), (116, vo 102), (117, vi (-1)), (118, vb true)] h23 d23 (fun a24 h24 d24 => ?_)
  clear h23 d23
  have D0 : DS g (fun _ => .int .u8 0) false w0 w.drew v [] := ⟨Kd.R_drew hrow, below_drew1 hB, (fun hh => by cases hh), hlt⟩
  refine callW_ops (N := 298) (i := 6) (d := 119) (f := 33) (args := [.v v, vb true, .v (Value.slice none 0 0), vi 0, vi 0, vi (-1), vo 102, vb true]) (l := [7]) rfl (want_ rfl) rfl (by decide) h24 Tryd.func33 rfl rfl rfl (by kernel_rfl) (fun u W' => ∃ l, l = [45, 48] ∧ DS g (fun _ => .int .u8 0) false w0 W' u l) ((efg0true_walk g _ false w0 w.drew v [] D0 (by simp)).mono fun e w' hh => by obtain ⟨v', e1, e2⟩ := hh; exact ⟨v', e1, _, rfl, e2⟩) (fun v25 W25 a25 hR25 h25 d25 => ?_)
  replace d25 := d25.trans d24
  clear h24 d24
  refine oP 298 [] [7] [(0, .v v), (1, .v (.float .f32 2147483648)), (2, vo 102), (3, vi (-1)), (8, .v v25), (9, vu 2147483648), (10, vi 8), (11, vi 23), (13, vb true), (14, vi (-126)), (15, vu 0), (34, vb true), (67, vb false), (78, vb true), (89, vb false), (97, vo 102), (98, vb false), (99, vb false), (100, vo 102), (101, vb false), (102, vb false), (112, vb true)] h25 d25 (fun a26 h26 d26 => ?_)
  clear h25 d25
  show Code.wp _ _ _ _ _
  obtain ⟨_, rfl, Df⟩ := hR25
  refine wp_ret ?_
  exact ⟨d26, _, results_tmp rfl _ _ _, v25, congrArg Ending.returned (h26.2 8 _ rfl), Kd.R_mono Df.row (fun _ _ => trivial), Df.bel⟩
end Go.Proofs.YtmgnffklmdhooaaDoor.PAll
namespace Go.Proofs.YtmgnffklmdhooaaDoor.PAll
open Go.RowKit Go.Proofs.YtmgnffklmdhooaaDoorW.PrintWords Go.Proofs.YtmgnffklmdhooaaDoorW.PrintLast Go.Proofs.YtmgnffklmdhooaaDoorW.PrintMore
set_option linter.unusedVariables false
set_option linter.unusedSimpArgs false
theorem op_make0 {P : Program} {o : Oper} {ρ : Operand → Value} {W : World} {t e : TypeId} {x y : Operand} {n : Nat} {i : TypeInfo} {z : Value} (ho : o.op = .makeSlice t x y) (hx : ρ x = .int .i64 0) (hy : ρ y = .int .i64 (n : Int)) (ht : P.underlying t = some (.slice e)) (hi : P.info? e = some i) (hz : i.zero = some z) (hb : (i.bytes : Int) * (n : Int) ≤ 281474976710656) (h63 : (n : Int) ≤ 9223372036854775807) :
    (execOp ρ o).run P W = .ok (.value (.slice (some ⟨W.heap.size, 0, none⟩) 0 n)) (W.alloc (.cells (madeCells z.cells (n * i.size)) e)) := by
  have hr := run_make (P := P) (w := W) t e i z ht hi hz .i64 .i64 0 (n : Int) (by omega) (by omega) hb h63
  rw [Int.toNat_natCast] at hr
  unfold execOp
  rw [ho]
  simp only [hx, hy, Sem.run_bind, hr, Result.andThen_ok]
  rfl
theorem op_convG {P : Program} {o : Oper} {ρ : Operand → Value} {W : World} {t1 t2 : TypeId} {x : Operand} {v r : Value} (ho : o.op = .convert t1 t2 x) (hx : ρ x = v) (h : (convert t1 t2 v).run P W = .ok r W) : (execOp ρ o).run P W = .ok (.value r) W := by
  unfold execOp
  rw [ho]
  simp [go_sem, hx, h]
theorem make24 (W : World) (ρ : Operand → Value) (o : Oper) (x y : Operand) (ho : o.op = .makeSlice 51 x y) (hx : ρ x = .int .i64 0) (hy : ρ y = .int .i64 24) :
    (execOp ρ o).run Tryd.prog W = .ok (.value (.slice (some ⟨W.heap.size, 0, none⟩) 0 24)) (W.alloc (.cells (madeCells #[.int .u8 0] 24) 5)) := by
  cases hq : Tryd.prog.info? 5 with
  | none => exact absurd (show (Tryd.prog.info? 5).isSome = true by kernel_rfl) (by simp [hq])
  | some ie =>
    have h1 : (Tryd.prog.info? 5).map (fun i => (i.zero, i.size, i.bytes)) = some (some (.int .u8 0), 1, 1) := by kernel_rfl
    rw [hq] at h1
    simp only [Option.map_some, Option.some.injEq, Prod.mk.injEq] at h1
    obtain ⟨hz, hs, hb⟩ := h1
    have := op_make0 (P := Tryd.prog) (W := W) (n := 24) ho hx hy Tryd.underlying51 hq hz (by rw [hb]; decide) (by decide)
    rw [hs] at this
    exact this
theorem row24 (W : World) : Kd.R (Kd.int .u8) 5 (W.alloc (.cells (madeCells #[.int .u8 0] 24) 5)) W.heap.size (fun k => W.heap.size ≤ k ∧ k < W.heap.size + 1) (.slice (some ⟨W.heap.size, 0, none⟩) 0 24) [] :=
  Kd.R_of_own (enc := Value.int .u8) (h1 := fun _ => rfl) (World.ownsRow_made (base := W.heap.size) (e := 5) (size := 1) W _ 24 (Nat.le_refl _) (by decide) (by simp [size_madeCells])) (fun k hk => by
    obtain rfl := Option.some.inj hk
    show W.heap.size ≤ W.heap.size ∧ W.heap.size < W.heap.size + 1
    omega)
/-- A row of octets as a string. -/
theorem conv_row {W : World} {base : Nat} {ok : Nat → Prop} {v : Value} {l : List Int} (h : Kd.R (Kd.int .u8) 5 W base ok v l) (hl : 0 < l.length) : (convert 51 9 v).run Tryd.prog W = .ok (.string (Go.strOfNums l)) W := by
  have ho := Kd.own_of_R (enc := Value.int .u8) (h1 := fun _ => rfl) h
  rcases ho.2 with ⟨rfl, h0⟩ | ⟨g, cap, cur, rfl, hg, hh, hle, hmx, hsz, htk⟩
  · omega
  · refine run_convert_bytes_arg _ _ 5 Tryd.underlying51 Tryd.underlying5 g 0 l.length cap l rfl (fun i hi => ?_) _ Tryd.underlying9
    rw [Nat.zero_add, blk_cell hh, ← Array.getElem?_toList]
    have e : cur.toList[i]? = (cur.toList.take (l.length * 1))[i]? := by rw [List.getElem?_take_of_lt (by omega)]
    rw [e, htk, List.getD_eq_getElem?_getD, List.getElem?_eq_getElem hi]
    simp [encs, hi]
/-- What ftoa32 answers for the float32 b: the octets l. -/
def FtoaIs (b : Nat) (l : List Int) : Prop := ∀ (w0 w : World) (v : Value), GlobP w0 → GlobP w → Below w0.heap.size w0 w → Kd.R (Kd.int .u8) 5 w w0.heap.size (fun k => w0.heap.size ≤ k ∧ k < w.heap.size) v [] →
  Calls Tryd.prog 27 #[v, .float .f32 b, .int .u8 102, .int .i64 (-1)] w fun e w' => ∃ v', e = .returned v' ∧ Kd.R (Kd.int .u8) 5 w' w0.heap.size (fun _ => True) v' l ∧ Below w0.heap.size w0 w'
set_option maxHeartbeats 8000000 in
set_option maxRecDepth 100000 in
theorem ff_walk (c b : Nat) (l : List Int) (hl : 0 < l.length) (hcv : ∀ W, (convert 49 41 (.float .f64 c)).run Tryd.prog W = .ok (.float .f32 b) W) (hf : FtoaIs b l) (w : World) (HZ : GlobP w) :
    Calls Tryd.prog 26 #[.float .f64 c, .int .u8 102, .int .i64 (-1), .int .i64 32] w fun e w' => e = .returned (.string (Go.strOfNums l)) ∧ Below w.heap.size w w' := by
  refine calls_of_wp Tryd.func26 rfl ?_
  have h0 := has_four (β := bn []) (.v (.float .f64 c)) (vo 102) (vi (-1)) (vi 32) 29
  have d0 : (⟨#[.float .f64 c, .int .u8 102, .int .i64 (-1), .int .i64 32] ++ Array.replicate 29 undef, []⟩ : Act).defers = [] := rfl
  refine wp_seq (wp_region ?_)
  refine oP 33 [] [0] [(0, .v (.float .f64 c)), (1, vo 102), (2, vi (-1)), (3, vi 32), (8, .v (Value.string { data := #[] }))] h0 d0 (fun a1 h1 d1 => ?_)
  clear h0 d0
  show Code.wp _ _ _ _ _
  refine wp_seq ?_
  refine wp_seq (wp_region ?_)
  refine oP 33 [] [0, 1] [(0, .v (.float .f64 c)), (1, vo 102), (2, vi (-1)), (3, vi 32), (8, .v (Value.string { data := #[] })), (10, vb true)] h1 d1 (fun a2 h2 d2 => ?_)
  clear h1 d1
  show Code.wp _ _ _ _ _
  refine wp_cond_true (h2.2 10 _ rfl) ?_
  refine wp_seq (wp_region ?_)
  refine oP 33 [2, 3, 4, 5, 6, 7, 8, 9, 10] [0, 1] [(0, .v (.float .f64 c)), (1, vo 102), (2, vi (-1)), (3, vi 32), (8, .v (Value.string { data := #[] })), (10, vb true), (11, vi (-1)), (12, vi 3)] h2 d2 (fun a3 h3 d3 => ?_)
  clear h2 d2
  refine gW (s := vi 24) 33 [3, 4, 5, 6, 7, 8, 9, 10] h3 d3 rfl (want_ rfl) rfl (by decide) ((op_max (k' := .i64) (q := 24) rfl (h3.2 12 _ rfl) rfl).trans rfl) (fun a4 h4 d4 => ?_)
  clear h3 d3
  refine new_ops (N := 33) (i := 3) (d := 14) (l := [4, 5, 6, 7, 8, 9, 10]) rfl rfl rfl (by decide) h4 (make24 w _ _ _ _ rfl rfl (h4.2 13 _ rfl)) (fun a5 h5 d5 => ?_)
  replace d5 := d5.trans d4
  clear h4 d4
  have hrow := row24 w
  have hB := (Below.refl w.heap.size w).alloc (Nat.le_refl _) (.cells (madeCells #[.int .u8 0] 24) 5)
  have hsz := alloc_size w (.cells (madeCells #[.int .u8 0] 24) 5)
  generalize w.alloc (.cells (madeCells #[.int .u8 0] 24) 5) = W1 at hrow hB hsz ⊢
  refine oP 33 [5, 6, 7, 8, 9, 10] [4] [(0, .v (.float .f64 c)), (1, vo 102), (2, vi (-1)), (3, vi 32), (8, .v (Value.string { data := #[] })), (10, vb true), (11, vi (-1)), (12, vi 3), (13, vi 24), (14, .v (.slice (some ⟨w.heap.size, 0, none⟩) 0 24)), (15, .v (.float .f64 c))] h5 d5 (fun a6 h6 d6 => ?_)
  clear h5 d5
  refine gW (s := .v (.float .f32 b)) 33 [6, 7, 8, 9, 10] h6 d6 rfl (want_ rfl) rfl (by decide) (op_convG rfl (h6.2 15 _ rfl) (hcv _)) (fun a7 h7 d7 => ?_)
  clear h6 d6
  refine oP 33 [8, 9, 10] [6, 7] [(0, .v (.float .f64 c)), (1, vo 102), (2, vi (-1)), (3, vi 32), (8, .v (Value.string { data := #[] })), (10, vb true), (11, vi (-1)), (12, vi 3), (13, vi 24), (14, .v (.slice (some ⟨w.heap.size, 0, none⟩) 0 24)), (15, .v (.float .f64 c)), (16, .v (.float .f32 b)), (17, vo 102), (18, vi (-1))] h7 d7 (fun a8 h8 d8 => ?_)
  clear h7 d7
  refine callW_ops (N := 33) (i := 8) (d := 19) (f := 27) (args := [.v (.slice (some ⟨w.heap.size, 0, none⟩) 0 24), .v (.float .f32 b), vo 102, vi (-1)]) (l := [9, 10]) rfl (want_ rfl) rfl (by decide) h8 Tryd.func27 rfl rfl rfl (by kernel_rfl) (fun u W' => Kd.R (Kd.int .u8) 5 W' w.heap.size (fun _ => True) u l ∧ Below w.heap.size w W') ((hf w W1 _ HZ (HZ.below hB) hB (Kd.R_mono hrow (fun k hk => by omega))).mono fun e w' hh => by obtain ⟨v', e1, e2⟩ := hh; exact ⟨v', e1, e2⟩) (fun v9 W9 a9 hR9 h9 d9 => ?_)
  replace d9 := d9.trans d8
  clear h8 d8
  refine gW (s := .v (.string (Go.strOfNums l))) 33 [10] h9 d9 rfl (want_ rfl) rfl (by decide) (op_convG rfl (h9.2 19 _ rfl) (conv_row hR9.1 hl)) (fun a10 h10 d10 => ?_)
  clear h9 d9
  refine oP 33 [] [10] [(0, .v (.float .f64 c)), (1, vo 102), (2, vi (-1)), (3, vi 32), (8, .v (.string (Go.strOfNums l))), (10, vb true)] h10 d10 (fun a11 h11 d11 => ?_)
  clear h10 d10
  show Code.wp _ _ _ _ _
  refine wp_ret ?_
  exact ⟨d11, _, results_tmp rfl _ _ _, congrArg Ending.returned (h11.2 8 _ rfl), hR9.2⟩
end Go.Proofs.YtmgnffklmdhooaaDoor.PAll
namespace Go.Proofs.YtmgnffklmdhooaaDoor.PAll
open Go.RowKit Go.Proofs.YtmgnffklmdhooaaDoorW.PrintWords Go.Proofs.YtmgnffklmdhooaaDoorW.PrintLast Go.Proofs.YtmgnffklmdhooaaDoorW.PrintMore
set_option linter.unusedVariables false
set_option linter.unusedSimpArgs false
set_option maxHeartbeats 8000000 in
set_option maxRecDepth 100000 in
theorem ff2_walk (c b : Nat) (l : List Int) (hl : 0 < l.length) (hcv : ∀ W, (convert 49 41 (.float .f64 c)).run Tryd.prog W = .ok (.float .f32 b) W) (hf : FtoaIs b l) (w : World) (HZ : GlobP w) :
    Calls Tryd.prog 23 #[.float .f64 c, .int .u8 102, .int .i64 (-1), .int .i64 32] w fun e w' => e = .returned (.string (Go.strOfNums l)) ∧ Below w.heap.size w w' := by
  refine calls_of_wp Tryd.func23 rfl ?_
  have h0 := has_four (β := bn []) (.v (.float .f64 c)) (vo 102) (vi (-1)) (vi 32) 10
  have d0 : (⟨#[.float .f64 c, .int .u8 102, .int .i64 (-1), .int .i64 32] ++ Array.replicate 10 undef, []⟩ : Act).defers = [] := rfl
  have HB0 := Below.refl w.heap.size w
  refine wp_seq (wp_region ?_)
  refine oP 14 [] [0] [(0, .v (.float .f64 c)), (1, vo 102), (2, vi (-1)), (3, vi 32), (8, .v (Value.string { data := #[] }))] h0 d0 (fun a1 h1 d1 => ?_)
  clear h0 d0
  show Code.wp _ _ _ _ _
  refine wp_seq (wp_region ?_)
  refine oP 14 [4, 5] [0, 1, 2, 3] [(0, .v (.float .f64 c)), (1, vo 102), (2, vi (-1)), (3, vi 32), (8, .v (Value.string { data := #[] })), (9, .v (.float .f64 c)), (10, vo 102), (11, vi (-1)), (12, vi 32)] h1 d1 (fun a2 h2 d2 => ?_)
  clear h1 d1
  refine callW_ops (N := 14) (i := 4) (d := 13) (f := 26) (args := [.v (.float .f64 c), vo 102, vi (-1), vi 32]) (l := [5]) rfl (want_ rfl) rfl (by decide) h2 Tryd.func26 rfl rfl rfl (by kernel_rfl) (fun v W' => v = (.string (Go.strOfNums l)) ∧ Below (w).heap.size (w) W') ((ff_walk c b l hl hcv hf w (HZ.below HB0)).mono fun e w' hh => ⟨_, hh.1, rfl, hh.2⟩) (fun v3 W3 a3 hR3 h3 d3 => ?_)
  replace d3 := d3.trans d2
  clear h2 d2
  obtain ⟨rfl, B3⟩ := hR3
  have HB3 := below_step HB0 B3
  refine oP 14 [] [5] [(8, .v (.string (Go.strOfNums l)))] h3 d3 (fun a4 h4 d4 => ?_)
  clear h3 d3
  show Code.wp _ _ _ _ _
  refine wp_ret ?_
  exact ⟨d4, _, results_tmp rfl _ _ _, congrArg Ending.returned (h4.2 8 _ rfl), HB3⟩
set_option maxHeartbeats 8000000 in
set_option maxRecDepth 100000 in
theorem float32_walk (h b k : Nat) (hb : float16_f16bitsToF32bits.f k (h : Int) = some (b : Int)) (w : World) :
    Calls Tryd.prog 14 #[.int .u16 (h : Int)] w fun e w' => e = .returned (.float .f32 b) ∧ Below w.heap.size w w' := by
  refine calls_of_wp Tryd.func14 rfl ?_
  have h0 := has_one (β := bn []) (.v (.int .u16 (h : Int))) 7
  have d0 : (⟨#[.int .u16 (h : Int)] ++ Array.replicate 7 undef, []⟩ : Act).defers = [] := rfl
  have HB0 := Below.refl w.heap.size w
  refine wp_seq (wp_region ?_)
  refine oP 8 [] [0] [(0, .v (.int .u16 (h : Int))), (2, .v (Value.float FloatKind.f32 0))] h0 d0 (fun a1 h1 d1 => ?_)
  clear h0 d0
  show Code.wp _ _ _ _ _
  refine wp_seq (wp_region ?_)
  refine oP 8 [1, 2] [0] [(0, .v (.int .u16 (h : Int))), (2, .v (Value.float FloatKind.f32 0)), (4, .v (.int .u16 (h : Int)))] h1 d1 (fun a2 h2 d2 => ?_)
  clear h1 d1
  refine callW_ops (N := 8) (i := 1) (d := 5) (f := 24) (args := [.v (.int .u16 (h : Int))]) (l := [2]) rfl (want_ rfl) rfl (by decide) h2 Tryd.func24 rfl rfl rfl (by kernel_rfl) (fun v W' => v = (.int .u32 ↑b) ∧ Below (w).heap.size (w) W') ((float16_f16bitsToF32bits.calls k _ _ w hb).mono fun e w' hh => ⟨_, hh.1, rfl, hh.2.below⟩) (fun v3 W3 a3 hR3 h3 d3 => ?_)
  replace d3 := d3.trans d2
  clear h2 d2
  obtain ⟨rfl, B3⟩ := hR3
  have HB3 := below_step HB0 B3
  refine oP 8 [] [2] [(2, .v (Value.float FloatKind.f32 0)), (3, vw ↑b)] h3 d3 (fun a4 h4 d4 => ?_)
  clear h3 d3
  show Code.wp _ _ _ _ _
  refine wp_seq (wp_region ?_)
  refine oP 8 [1, 2] [0] [(2, .v (Value.float FloatKind.f32 0)), (3, vw ↑b), (6, vw ↑b)] h4 d4 (fun a5 h5 d5 => ?_)
  clear h4 d4
  refine gW (s := .v (.float .f32 b)) 8 [2] h5 d5 rfl (want_ rfl) rfl (by decide) (op_callV rfl (h5.2 6 _ rfl) (run_f32from (b : Int) _) rfl) (fun a6 h6 d6 => ?_)
  clear h5 d5
  refine oP 8 [] [2] [(2, .v (.float .f32 b))] h6 d6 (fun a7 h7 d7 => ?_)
  clear h6 d6
  show Code.wp _ _ _ _ _
  refine wp_ret ?_
  exact ⟨d7, _, results_tmp rfl _ _ _, congrArg Ending.returned (h7.2 2 _ rfl), HB3⟩
set_option maxHeartbeats 8000000 in
set_option maxRecDepth 100000 in
theorem string_walk (h b k : Nat) (hb : float16_f16bitsToF32bits.f k (h : Int) = some (b : Int)) (c : Nat) (hup : ∀ W, (convert 41 49 (.float .f32 b)).run Tryd.prog W = .ok (.float .f64 c) W) (l : List Int) (hl : 0 < l.length) (hcv : ∀ W, (convert 49 41 (.float .f64 c)).run Tryd.prog W = .ok (.float .f32 b) W) (hf : FtoaIs b l) (w : World) (HZ : GlobP w) :
    Calls Tryd.prog 12 #[.int .u16 (h : Int)] w fun e w' => e = .returned (.string (Go.strOfNums l)) ∧ Below w.heap.size w w' := by
  refine calls_of_wp Tryd.func12 rfl ?_
  have h0 := has_one (β := bn []) (.v (.int .u16 (h : Int))) 6
  have d0 : (⟨#[.int .u16 (h : Int)] ++ Array.replicate 6 undef, []⟩ : Act).defers = [] := rfl
  have HB0 := Below.refl w.heap.size w
  refine wp_seq (wp_region ?_)
  refine oP 7 [] [0] [(0, .v (.int .u16 (h : Int))), (2, .v (Value.string { data := #[] }))] h0 d0 (fun a1 h1 d1 => ?_)
  clear h0 d0
  show Code.wp _ _ _ _ _
  refine wp_seq (wp_region ?_)
  refine oP 7 [1, 2, 3, 4] [0] [(0, .v (.int .u16 (h : Int))), (2, .v (Value.string { data := #[] })), (3, .v (.int .u16 (h : Int)))] h1 d1 (fun a2 h2 d2 => ?_)
  clear h1 d1
  refine callW_ops (N := 7) (i := 1) (d := 4) (f := 14) (args := [.v (.int .u16 (h : Int))]) (l := [2, 3, 4]) rfl (want_ rfl) rfl (by decide) h2 Tryd.func14 rfl rfl rfl (by kernel_rfl) (fun v W' => v = (.float .f32 b) ∧ Below (w).heap.size (w) W') ((float32_walk h b k hb w).mono fun e w' hh => ⟨_, hh.1, rfl, hh.2⟩) (fun v3 W3 a3 hR3 h3 d3 => ?_)
  replace d3 := d3.trans d2
  clear h2 d2
  obtain ⟨rfl, B3⟩ := hR3
  have HB3 := below_step HB0 B3
  refine gW (s := .v (.float .f64 c)) 7 [3, 4] h3 d3 rfl (want_ rfl) rfl (by decide) (op_convG rfl (h3.2 4 _ rfl) (hup _)) (fun a4 h4 d4 => ?_)
  clear h3 d3
  refine callW_ops (N := 7) (i := 3) (d := 6) (f := 23) (args := [.v (.float .f64 c), vo 102, vi (-1), vi 32]) (l := [4]) rfl (want_ rfl) rfl (by decide) h4 Tryd.func23 rfl rfl rfl (by kernel_rfl) (fun v W' => v = .string (Go.strOfNums l) ∧ Below (W3).heap.size (W3) W') ((ff2_walk c b l hl hcv hf W3 (HZ.below HB3)).mono fun e w' hh => ⟨_, hh.1, rfl, hh.2⟩) (fun v5 W5 a5 hR5 h5 d5 => ?_)
  replace d5 := d5.trans d4
  clear h4 d4
  obtain ⟨rfl, B5⟩ := hR5
  have HB5 := below_step HB3 B5
  refine oP 7 [] [4] [(2, .v (.string (Go.strOfNums l)))] h5 d5 (fun a6 h6 d6 => ?_)
  clear h5 d5
  show Code.wp _ _ _ _ _
  refine wp_ret ?_
  exact ⟨d6, _, results_tmp rfl _ _ _, congrArg Ending.returned (h6.2 2 _ rfl), HB5⟩
set_option maxHeartbeats 8000000 in
set_option maxRecDepth 100000 in
theorem halfText_walk (h b k : Nat) (hb : float16_f16bitsToF32bits.f k (h : Int) = some (b : Int)) (c : Nat) (hup : ∀ W, (convert 41 49 (.float .f32 b)).run Tryd.prog W = .ok (.float .f64 c) W) (l : List Int) (hl : 0 < l.length) (hcv : ∀ W, (convert 49 41 (.float .f64 c)).run Tryd.prog W = .ok (.float .f32 b) W) (hf : FtoaIs b l) (w : World) (HZ : GlobP w) :
    Calls Tryd.prog 4 #[.int .u16 (h : Int)] w fun e w' => e = .returned (.string (Go.strOfNums l)) ∧ Below w.heap.size w w' := by
  refine calls_of_wp Tryd.func4 rfl ?_
  have h0 := has_one (β := bn []) (.v (.int .u16 (h : Int))) 5
  have d0 : (⟨#[.int .u16 (h : Int)] ++ Array.replicate 5 undef, []⟩ : Act).defers = [] := rfl
  have HB0 := Below.refl w.heap.size w
  refine wp_seq (wp_region ?_)
  refine oP 6 [] [0] [(0, .v (.int .u16 (h : Int))), (2, .v (Value.string { data := #[] }))] h0 d0 (fun a1 h1 d1 => ?_)
  clear h0 d0
  show Code.wp _ _ _ _ _
  refine wp_seq (wp_region ?_)
  refine oP 6 [1, 2, 3] [0] [(0, .v (.int .u16 (h : Int))), (2, .v (Value.string { data := #[] })), (3, .v (.int .u16 (h : Int)))] h1 d1 (fun a2 h2 d2 => ?_)
  clear h1 d1
  refine callW_ops (N := 6) (i := 1) (d := 4) (f := 11) (args := [.v (.int .u16 (h : Int))]) (l := [2, 3]) rfl (want_ rfl) rfl (by decide) h2 Tryd.func11 rfl rfl rfl (by kernel_rfl) (fun v W' => v = (.int .u16 (h : Int)) ∧ Below (w).heap.size (w) W') ((float16_Frombits.calls _ _ w rfl).mono fun e w' hh => ⟨_, hh.1, rfl, hh.2.below⟩) (fun v3 W3 a3 hR3 h3 d3 => ?_)
  replace d3 := d3.trans d2
  clear h2 d2
  obtain ⟨rfl, B3⟩ := hR3
  have HB3 := below_step HB0 B3
  refine callW_ops (N := 6) (i := 2) (d := 5) (f := 12) (args := [.v (.int .u16 (h : Int))]) (l := [3]) rfl (want_ rfl) rfl (by decide) h3 Tryd.func12 rfl rfl rfl (by kernel_rfl) (fun v W' => v = (.string (Go.strOfNums l)) ∧ Below (W3).heap.size (W3) W') ((string_walk h b k hb c hup l hl hcv hf W3 (HZ.below HB3)).mono fun e w' hh => ⟨_, hh.1, rfl, hh.2⟩) (fun v4 W4 a4 hR4 h4 d4 => ?_)
  replace d4 := d4.trans d3
  clear h3 d3
  obtain ⟨rfl, B4⟩ := hR4
  have HB4 := below_step HB3 B4
  refine oP 6 [] [3] [(2, .v (.string (Go.strOfNums l)))] h4 d4 (fun a5 h5 d5 => ?_)
  clear h4 d4
  show Code.wp _ _ _ _ _
  refine wp_ret ?_
  exact ⟨d5, _, results_tmp rfl _ _ _, congrArg Ending.returned (h5.2 2 _ rfl), HB4⟩
end Go.Proofs.YtmgnffklmdhooaaDoor.PAll
namespace Go.Proofs.YtmgnffklmdhooaaDoor.PAll
open Go.RowKit Go.Proofs.YtmgnffklmdhooaaDoorW.PrintWords Go.Proofs.YtmgnffklmdhooaaDoorW.PrintLast Go.Proofs.YtmgnffklmdhooaaDoorW.PrintMore
theorem ftoaIs_zero : FtoaIs 0 [48] := fun w0 w v H0 H hB hrow => ftoa0_false_walk 2 w0 w v H.lt2 hB (Kd.R_mono hrow (fun k hk => by have := H0.lt3; omega))
theorem ftoaIs_minus : FtoaIs 2147483648 [45, 48] := fun w0 w v H0 H hB hrow => ftoa0_true_walk 2 w0 w v H.lt2 hB (Kd.R_mono hrow (fun k hk => by have := H0.lt3; omega))
end Go.Proofs.YtmgnffklmdhooaaDoor.PAll
namespace Go.Proofs.YtmgnffklmdhooaaDoor.PAll
open Go.RowKit Go.Proofs.YtmgnffklmdhooaaDoorW.PrintWords Go.Proofs.YtmgnffklmdhooaaDoorW.PrintLast Go.Proofs.YtmgnffklmdhooaaDoorW.PrintMore
set_option linter.unusedVariables false
set_option linter.unusedSimpArgs false
theorem Below.grownR {B : Nat} {w0 W W1 : World} {row : Option Nat} (h : Below B w0 W) (g : W.grownBy W1 row) (hB : B ≤ W.heap.size) (hr : ∀ k, row = some k → B ≤ k) : Below B w0 W1 :=
  ⟨g.os.trans h.os, g.tape.trans h.tape, g.output.trans h.output, Nat.le_trans h.size g.size, fun k hk => (g.block k (by omega) (fun e => by have := hr k e.symm; omega)).trans (h.block k hk)⟩
/-- A row to which a constant string is appended. -/
theorem op_appS {ρ : Operand → Value} {o : Oper} {w0 W : World} {x y : Operand} {v : Value} {l : List Int} {ok : Nat → Prop} {b : ByteArray} (ho : o.op = .call { callee := .builtin .append, args := #[x, y], argTypes := #[51, 9] })
    (hx : ρ x = v) (hy : ρ y = .string b) (hR : Kd.R (Kd.int .u8) 5 W w0.heap.size ok v l) (hB : Below w0.heap.size w0 W) (hl : l.length + b.size ≤ 140737488355328) :
    ∃ v1 W1, (execOp ρ o).run Tryd.prog W = .ok (.value v1) W1 ∧ Kd.R (Kd.int .u8) 5 W1 w0.heap.size (fun _ => True) v1 (l ++ b.data.toList.map (fun c => (c.toNat : Int))) ∧ Below w0.heap.size w0 W1 := by
  cases hq : Tryd.prog.info? 5 with
  | none => exact absurd (show (Tryd.prog.info? 5).isSome = true by kernel_rfl) (by simp [hq])
  | some ie =>
    have h1 : (Tryd.prog.info? 5).map (fun i => (i.zero, i.size, i.bytes)) = some (some (.int .u8 0), 1, 1) := by kernel_rfl
    rw [hq] at h1
    simp only [Option.map_some, Option.some.injEq, Prod.mk.injEq] at h1
    obtain ⟨hz, hs, hb⟩ := h1
    have hown := Kd.own_of_R (enc := Value.int .u8) (h1 := fun _ => rfl) hR
    obtain ⟨v1, W1, hr, ho1, hg, _⟩ := Go.Lib.run_append_own_string (P := Tryd.prog) W w0.heap.size 51 9 o.type 5 ie Tryd.underlying51 Tryd.underlying9 hq hz hs hb v l.length _ hown b (by unfold maxLen; omega) hl hB.size
    refine ⟨v1, W1, ?_, Kd.R_of_own (enc := Value.int .u8) (h1 := fun _ => rfl) ?_ (fun _ _ => trivial), Below.grownR hB hg hB.size (fun k hk => ?_)⟩
    · unfold execOp
      simp only [ho, resolve, invoke, builtin, Sem.run_bind, Sem.run_pure, Result.andThen_ok, List.map_toArray, List.map_cons, List.map_nil, hx, hy, hr]
    · have e : encs (Value.int .u8) (l ++ b.data.toList.map (fun c => (c.toNat : Int))) = encs (Value.int .u8) l ++ Go.Lib.strCells b := by
        simp [encs, Go.Lib.strCells, Function.comp_def]
      have e2 : (l ++ b.data.toList.map (fun c => (c.toNat : Int))).length = l.length + b.size := by
        rw [List.length_append, List.length_map, Array.length_toList]
        rfl
      rw [e, e2]
      exact ho1
    · rcases hown.2 with ⟨rfl, _⟩ | ⟨g, cap, cur, rfl, h2, _⟩
      · cases hk
      · obtain rfl := Option.some.inj hk
        exact h2
theorem appS_ops {ops : Array Oper} {Q : Exit → Act → World → Prop} {N : Nat} {β : Nat → Nat} {i d : Nat} {o : Oper} {rest : List Nat} {a : Act} {E : List (Nat × SV)} {w0 W : World} {x : Operand} {v : Value} {l : List Int} {ok : Nat → Prop} {b : ByteArray}
    (hoi : ops[i]? = some o) (hg : o.guard = none) (hd : o.dst = some d) (hN : d < N) (hA : Has N β E a) (ho : o.op = .call { callee := .builtin .append, args := #[x, .const (.string b)], argTypes := #[51, 9] }) (hx : a.eval x = v)
    (hR : Kd.R (Kd.int .u8) 5 W w0.heap.size ok v l) (hB : Below w0.heap.size w0 W) (hl : l.length + b.size ≤ 140737488355328)
    (h : ∀ v1 W1 a', Kd.R (Kd.int .u8) 5 W1 w0.heap.size (fun _ => True) v1 (l ++ b.data.toList.map (fun c => (c.toNat : Int))) → Below w0.heap.size w0 W1 → Has N β ((d, .v v1) :: E) a' → a'.defers = a.defers → wpOps Tryd.prog ops Q rest a' W1) : wpOps Tryd.prog ops Q (i :: rest) a W := by
  obtain ⟨v1, W1, hr, hR1, hB1⟩ := op_appS (ρ := a.eval) ho hx rfl hR hB hl
  exact new_ops hoi hg hd hN hA hr (fun a' h1 h2 => h v1 W1 a' hR1 hB1 h1 h2)
theorem n_and23 (b : Nat) (h : b < 18446744073709551616) : Go.bits .and .u64 ↑b 8388607 = ((b % 8388608 : Nat) : Int) := by
  have h1 : b &&& 8388607 = b % 8388608 := Nat.and_two_pow_sub_one_eq_mod b 23
  have h2 : (BitVec.ofInt IntKind.u64.bits ((b : Nat) : Int)).toNat = b := by
    rw [BitVec.toNat_ofInt]
    show Int.toNat ((b : Int) % ((18446744073709551616 : Nat) : Int)) = b
    omega
  have h3 : (BitVec.ofInt IntKind.u64.bits 8388607).toNat = 8388607 := by decide
  have h4 : Go.bits .and .u64 ↑b 8388607 = IntKind.u64.wrap (((BitVec.ofInt IntKind.u64.bits ((b : Nat) : Int) &&& BitVec.ofInt IntKind.u64.bits 8388607).toNat : Nat) : Int) := rfl
  rw [h4, BitVec.toNat_and, h2, h3, h1]
  exact n_c64 _ (by omega)
set_option maxHeartbeats 8000000 in
set_option maxRecDepth 100000 in
theorem ftoa_nan0_walk (s b fr : Nat) (hb : b = s * 2147483648 + 255 * 8388608 + fr) (hs1 : s ≤ 1) (hf0 : 0 < fr) (hfl : fr < 8388608) (hex : Go.bits .and .i64 (IntKind.i64.wrap (((b : Nat) : Int) / 8388608)) 255 = 255) (hfr : Go.bits .and .u64 ↑b 8388607 = ((fr : Nat) : Int)) (w0 w : World) (v : Value) (hB : Below w0.heap.size w0 w) (hrow : Kd.R (Kd.int .u8) 5 w w0.heap.size (fun _ => True) v []) :
    Calls Tryd.prog 27 #[v, .float .f32 b, .int .u8 102, .int .i64 (-1)] w fun e w' => ∃ v', e = .returned v' ∧ Kd.R (Kd.int .u8) 5 w' w0.heap.size (fun _ => True) v' [78, 97, 78] ∧ Below w0.heap.size w0 w' := by
  refine calls_of_wp Tryd.func27 rfl ?_
  have h0 := has_four (β := bn []) (.v v) (.v (.float .f32 b)) (vo 102) (vi (-1)) 294
  have d0 : (⟨#[v, .float .f32 b, .int .u8 102, .int .i64 (-1)] ++ Array.replicate 294 undef, []⟩ : Act).defers = [] := rfl
  refine wp_seq (wp_region ?_)
  refine oP 298 [] [0] [(0, .v v), (1, .v (.float .f32 b)), (2, vo 102), (3, vi (-1)), (8, .v (Value.slice none 0 0))] h0 d0 (fun a1 h1 d1 => ?_)
  clear h0 d0
  show Code.wp _ _ _ _ _
  refine wp_seq (wp_region ?_)
  refine oP 298 [] [0] [(0, .v v), (1, .v (.float .f32 b)), (2, vo 102), (3, vi (-1)), (8, .v (Value.slice none 0 0)), (9, vu 0)] h1 d1 (fun a2 h2 d2 => ?_)
  clear h1 d1
  show Code.wp _ _ _ _ _
  refine wp_seq (wp_region ?_)
  refine oP 298 [] [0, 1, 2] [(0, .v v), (1, .v (.float .f32 b)), (2, vo 102), (3, vi (-1)), (8, .v (Value.slice none 0 0)), (9, vu 0), (10, vi 0), (11, vi 0), (12, vi 0)] h2 d2 (fun a3 h3 d3 => ?_)
  clear h2 d2
  show Code.wp _ _ _ _ _
  refine wp_seq ?_
  refine wp_block ?_
  refine wp_seq (wp_region ?_)
  refine oP 298 [] [0, 1] [(0, .v v), (1, .v (.float .f32 b)), (2, vo 102), (3, vi (-1)), (8, .v (Value.slice none 0 0)), (9, vu 0), (10, vi 0), (11, vi 0), (12, vi 0), (34, vb true)] h3 d3 (fun a4 h4 d4 => ?_)
  clear h3 d3
  show Code.wp _ _ _ _ _
  refine wp_cond_true (h4.2 34 _ rfl) ?_
  refine wp_seq (wp_region ?_)
  refine oP 298 [1, 2, 3] [0] [(0, .v v), (1, .v (.float .f32 b)), (2, vo 102), (3, vi (-1)), (8, .v (Value.slice none 0 0)), (9, vu 0), (10, vi 0), (11, vi 0), (12, vi 0), (34, vb true), (36, .v (.float .f32 b))] h4 d4 (fun a5 h5 d5 => ?_)
  clear h4 d4
  refine gW (s := vw ↑b) 298 [2, 3] h5 d5 rfl (want_ rfl) rfl (by decide) (op_callV rfl (h5.2 36 _ rfl) (run_f32b b _) rfl) (fun a6 h6 d6 => ?_)
  clear h5 d5
  refine oP 298 [3] [2] [(0, .v v), (1, .v (.float .f32 b)), (2, vo 102), (3, vi (-1)), (8, .v (Value.slice none 0 0)), (9, vu 0), (10, vi 0), (11, vi 0), (12, vi 0), (34, vb true), (36, .v (.float .f32 b)), (37, vw ↑b), (38, vu (IntKind.u64.wrap (((b : Nat) : Int))))] h6 d6 (fun a7 h7 d7 => ?_)
  clear h6 d6
  rw [show (IntKind.u64.wrap (((b : Nat) : Int))) = ((b : Nat) : Int) from n_c64 b (by omega)] at h7
  refine oP 298 [] [3] [(0, .v v), (1, .v (.float .f32 b)), (2, vo 102), (3, vi (-1)), (8, .v (Value.slice none 0 0)), (9, vu ↑b), (10, vi 0), (11, vi 0), (12, vi 0), (34, vb true)] h7 d7 (fun a8 h8 d8 => ?_)
  clear h7 d7
  show Code.wp _ _ _ _ _
  refine wp_seq (wp_region ?_)
  refine oP 298 [] [0] [(0, .v v), (1, .v (.float .f32 b)), (2, vo 102), (3, vi (-1)), (8, .v (Value.slice none 0 0)), (9, vu ↑b), (10, vi 8), (11, vi 0), (12, vi 0), (34, vb true)] h8 d8 (fun a9 h9 d9 => ?_)
  clear h8 d8
  show Code.wp _ _ _ _ _
  refine wp_seq (wp_region ?_)
  refine oP 298 [] [0] [(0, .v v), (1, .v (.float .f32 b)), (2, vo 102), (3, vi (-1)), (8, .v (Value.slice none 0 0)), (9, vu ↑b), (10, vi 8), (11, vi 23), (12, vi 0), (34, vb true)] h9 d9 (fun a10 h10 d10 => ?_)
  clear h9 d9
  show Code.wp _ _ _ _ _
  refine wp_region ?_
  refine oP 298 [] [0] [(0, .v v), (1, .v (.float .f32 b)), (2, vo 102), (3, vi (-1)), (8, .v (Value.slice none 0 0)), (9, vu ↑b), (10, vi 8), (11, vi 23), (12, vi (-127)), (34, vb true)] h10 d10 (fun a11 h11 d11 => ?_)
  clear h10 d10
  show Code.wp _ _ _ _ _
  refine wp_seq (wp_region ?_)
  refine oP 298 [6] [0, 1, 2, 3, 4, 5] [(0, .v v), (1, .v (.float .f32 b)), (2, vo 102), (3, vi (-1)), (8, .v (Value.slice none 0 0)), (9, vu ↑b), (10, vi 8), (11, vi 23), (12, vi (-127)), (34, vb true), (44, vu ↑b), (45, vi 8), (46, vi 23), (47, vi 31), (48, vu (((b : Nat) : Int) / 2147483648)), (49, vb (((((b : Nat) : Int) / 2147483648) : Int) != 0))] h11 d11 (fun a12 h12 d12 => ?_)
  clear h11 d11
  refine oP 298 [] [6] [(0, .v v), (1, .v (.float .f32 b)), (2, vo 102), (3, vi (-1)), (8, .v (Value.slice none 0 0)), (9, vu ↑b), (10, vi 8), (11, vi 23), (12, vi (-127)), (13, vb (((((b : Nat) : Int) / 2147483648) : Int) != 0)), (34, vb true)] h12 d12 (fun a13 h13 d13 => ?_)
  clear h12 d12
  show Code.wp _ _ _ _ _
  refine wp_seq ?_
  refine reg_draw (N := 298) (T := TT) (M := fun _ _ => none) (n := 9) (E2 := [(0, .v v), (1, .v (.float .f32 b)), (2, vo 102), (3, vi (-1)), (8, .v (Value.slice none 0 0)), (9, vu ↑b), (10, vi 8), (11, vi 23), (12, vi (-127)), (13, vb (((((b : Nat) : Int) / 2147483648) : Int) != 0)), (14, vi (Go.bits .and .i64 (IntKind.i64.wrap ((((b : Nat) : Int) / 8388608))) 255)), (34, vb true)]) (by kernel_rfl) tabOk h13 (fun _ _ _ h => by cases h) rfl (by kernel_rfl) (by kernel_rfl) sE (fun _ _ _ _ hd h => And.intro (hd.trans (And.left h)) (And.right h)) (fun a14 h14 d14 => ?_)
  replace d14 := d14.trans d13
  clear h13 d13
  rw [show (Go.bits .and .i64 (IntKind.i64.wrap ((((b : Nat) : Int) / 8388608))) 255) = 255 from hex] at h14
  show Code.wp _ _ _ _ _
  refine wp_seq (wp_region ?_)
  refine oP 298 [5] [0, 1, 2, 3, 4] [(0, .v v), (1, .v (.float .f32 b)), (2, vo 102), (3, vi (-1)), (8, .v (Value.slice none 0 0)), (9, vu ↑b), (10, vi 8), (11, vi 23), (12, vi (-127)), (13, vb (((((b : Nat) : Int) / 2147483648) : Int) != 0)), (14, vi 255), (34, vb true), (58, vu ↑b), (59, vi 23), (60, vu 8388608), (61, vu 8388607), (62, vu (Go.bits .and .u64 ↑b 8388607))] h14 d14 (fun a15 h15 d15 => ?_)
  clear h14 d14
  rw [show (Go.bits .and .u64 ↑b 8388607) = ((fr : Nat) : Int) from hfr] at h15
  refine oP 298 [] [5] [(0, .v v), (1, .v (.float .f32 b)), (2, vo 102), (3, vi (-1)), (8, .v (Value.slice none 0 0)), (9, vu ↑b), (10, vi 8), (11, vi 23), (12, vi (-127)), (13, vb (((((b : Nat) : Int) / 2147483648) : Int) != 0)), (14, vi 255), (15, vu ↑fr), (34, vb true)] h15 d15 (fun a16 h16 d16 => ?_)
  clear h15 d15
  show Code.wp _ _ _ _ _
  refine wp_seq ?_
  refine wp_seq (wp_region ?_)
  refine oP 298 [] [0, 1, 2, 3, 4] [(0, .v v), (1, .v (.float .f32 b)), (2, vo 102), (3, vi (-1)), (8, .v (Value.slice none 0 0)), (9, vu ↑b), (10, vi 8), (11, vi 23), (12, vi (-127)), (13, vb (((((b : Nat) : Int) / 2147483648) : Int) != 0)), (14, vi 255), (15, vu ↑fr), (34, vb true), (67, vb true)] h16 d16 (fun a17 h17 d17 => ?_)
  clear h16 d16
  show Code.wp _ _ _ _ _
  refine wp_cond_true (h17.2 67 _ rfl) ?_
  refine wp_seq ?_
  refine wp_seq (wp_region ?_)
  refine oP 298 [] [0, 1] [(0, .v v), (1, .v (.float .f32 b)), (2, vo 102), (3, vi (-1)), (8, .v (Value.slice none 0 0)), (9, vu ↑b), (10, vi 8), (11, vi 23), (12, vi (-127)), (13, vb (((((b : Nat) : Int) / 2147483648) : Int) != 0)), (14, vi 255), (15, vu ↑fr), (34, vb true), (67, vb true), (69, vb ((((fr : Nat) : Int) : Int) != 0))] h17 d17 (fun a18 h18 d18 => ?_)
  clear h17 d17
  rw [show ((((fr : Nat) : Int) : Int) != 0) = true from bne_iff_ne.mpr (by omega)] at h18
  show Code.wp _ _ _ _ _
  refine wp_cond_true (h18.2 69 _ rfl) ?_
  refine wp_seq (wp_region ?_)
  refine oP 298 [1, 2] [0] [(0, .v v), (1, .v (.float .f32 b)), (2, vo 102), (3, vi (-1)), (8, .v (Value.slice none 0 0)), (9, vu ↑b), (10, vi 8), (11, vi 23), (12, vi (-127)), (13, vb (((((b : Nat) : Int) / 2147483648) : Int) != 0)), (14, vi 255), (15, vu ↑fr), (34, vb true), (67, vb true), (69, vb true), (70, .v v)] h18 d18 (fun a19 h19 d19 => ?_)
  clear h18 d18
  refine appS_ops (N := 298) (i := 1) (d := 71) (rest := [2]) rfl rfl rfl (by decide) h19 rfl (h19.2 70 _ rfl) (Kd.R_drew hrow) (below_drew1 hB) (by decide) (fun u W1 a20 hR hB1 h20 d20 => ?_)
  replace d20 := d20.trans d19
  clear h19 d19
  refine oP 298 [] [2] [(0, .v v), (1, .v (.float .f32 b)), (2, vo 102), (3, vi (-1)), (8, .v u), (9, vu ↑b), (10, vi 8), (11, vi 23), (12, vi (-127)), (13, vb (((((b : Nat) : Int) / 2147483648) : Int) != 0)), (14, vi 255), (15, vu ↑fr), (34, vb true), (67, vb true), (69, vb true)] h20 d20 (fun a21 h21 d21 => ?_)
  clear h20 d20
  show Code.wp _ _ _ _ _
  refine wp_ret ?_
  exact ⟨d21, _, results_tmp rfl _ _ _, u, congrArg Ending.returned (h21.2 8 _ rfl), hR, hB1⟩
set_option maxHeartbeats 8000000 in
set_option maxRecDepth 100000 in
theorem ftoa_inf0_walk (w0 w : World) (v : Value) (hB : Below w0.heap.size w0 w) (hrow : Kd.R (Kd.int .u8) 5 w w0.heap.size (fun _ => True) v []) :
    Calls Tryd.prog 27 #[v, .float .f32 2139095040, .int .u8 102, .int .i64 (-1)] w fun e w' => ∃ v', e = .returned v' ∧ Kd.R (Kd.int .u8) 5 w' w0.heap.size (fun _ => True) v' [43, 73, 110, 102] ∧ Below w0.heap.size w0 w' := by
  refine calls_of_wp Tryd.func27 rfl ?_
  have h0 := has_four (β := bn []) (.v v) (.v (.float .f32 2139095040)) (vo 102) (vi (-1)) 294
  have d0 : (⟨#[v, .float .f32 2139095040, .int .u8 102, .int .i64 (-1)] ++ Array.replicate 294 undef, []⟩ : Act).defers = [] := rfl
  refine wp_seq (wp_region ?_)
  refine oP 298 [] [0] [(0, .v v), (1, .v (.float .f32 2139095040)), (2, vo 102), (3, vi (-1)), (8, .v (Value.slice none 0 0))] h0 d0 (fun a1 h1 d1 => ?_)
  clear h0 d0
  show Code.wp _ _ _ _ _
  refine wp_seq (wp_region ?_)
  refine oP 298 [] [0] [(0, .v v), (1, .v (.float .f32 2139095040)), (2, vo 102), (3, vi (-1)), (8, .v (Value.slice none 0 0)), (9, vu 0)] h1 d1 (fun a2 h2 d2 => ?_)
  clear h1 d1
  show Code.wp _ _ _ _ _
  refine wp_seq (wp_region ?_)
  refine oP 298 [] [0, 1, 2] [(0, .v v), (1, .v (.float .f32 2139095040)), (2, vo 102), (3, vi (-1)), (8, .v (Value.slice none 0 0)), (9, vu 0), (10, vi 0), (11, vi 0), (12, vi 0)] h2 d2 (fun a3 h3 d3 => ?_)
  clear h2 d2
  show Code.wp _ _ _ _ _
  refine wp_seq ?_
  refine wp_block ?_
  refine wp_seq (wp_region ?_)
  refine oP 298 [] [0, 1] [(0, .v v), (1, .v (.float .f32 2139095040)), (2, vo 102), (3, vi (-1)), (8, .v (Value.slice none 0 0)), (9, vu 0), (10, vi 0), (11, vi 0), (12, vi 0), (34, vb true)] h3 d3 (fun a4 h4 d4 => ?_)
  clear h3 d3
  show Code.wp _ _ _ _ _
  refine wp_cond_true (h4.2 34 _ rfl) ?_
  refine wp_seq (wp_region ?_)
  refine oP 298 [1, 2, 3] [0] [(0, .v v), (1, .v (.float .f32 2139095040)), (2, vo 102), (3, vi (-1)), (8, .v (Value.slice none 0 0)), (9, vu 0), (10, vi 0), (11, vi 0), (12, vi 0), (34, vb true), (36, .v (.float .f32 2139095040))] h4 d4 (fun a5 h5 d5 => ?_)
  clear h4 d4
  refine gW (s := vw 2139095040) 298 [2, 3] h5 d5 rfl (want_ rfl) rfl (by decide) (op_callV rfl (h5.2 36 _ rfl) (run_f32b 2139095040 _) rfl) (fun a6 h6 d6 => ?_)
  clear h5 d5
  refine oP 298 [] [2, 3] [(0, .v v), (1, .v (.float .f32 2139095040)), (2, vo 102), (3, vi (-1)), (8, .v (Value.slice none 0 0)), (9, vu 2139095040), (10, vi 0), (11, vi 0), (12, vi 0), (34, vb true)] h6 d6 (fun a7 h7 d7 => ?_)
  clear h6 d6
  show Code.wp _ _ _ _ _
  refine wp_seq (wp_region ?_)
  refine oP 298 [] [0] [(0, .v v), (1, .v (.float .f32 2139095040)), (2, vo 102), (3, vi (-1)), (8, .v (Value.slice none 0 0)), (9, vu 2139095040), (10, vi 8), (11, vi 0), (12, vi 0), (34, vb true)] h7 d7 (fun a8 h8 d8 => ?_)
  clear h7 d7
  show Code.wp _ _ _ _ _
  refine wp_seq (wp_region ?_)
  refine oP 298 [] [0] [(0, .v v), (1, .v (.float .f32 2139095040)), (2, vo 102), (3, vi (-1)), (8, .v (Value.slice none 0 0)), (9, vu 2139095040), (10, vi 8), (11, vi 23), (12, vi 0), (34, vb true)] h8 d8 (fun a9 h9 d9 => ?_)
  clear h8 d8
  show Code.wp _ _ _ _ _
  refine wp_region ?_
  refine oP 298 [] [0] [(0, .v v), (1, .v (.float .f32 2139095040)), (2, vo 102), (3, vi (-1)), (8, .v (Value.slice none 0 0)), (9, vu 2139095040), (10, vi 8), (11, vi 23), (12, vi (-127)), (34, vb true)] h9 d9 (fun a10 h10 d10 => ?_)
  clear h9 d9
  show Code.wp _ _ _ _ _
  refine wp_seq (wp_region ?_)
  refine oP 298 [] [0, 1, 2, 3, 4, 5, 6] [(0, .v v), (1, .v (.float .f32 2139095040)), (2, vo 102), (3, vi (-1)), (8, .v (Value.slice none 0 0)), (9, vu 2139095040), (10, vi 8), (11, vi 23), (12, vi (-127)), (13, vb false), (34, vb true)] h10 d10 (fun a11 h11 d11 => ?_)
  clear h10 d10
  show Code.wp _ _ _ _ _
  refine wp_seq ?_
  refine reg_draw (N := 298) (T := TT) (M := fun _ _ => none) (n := 9) (E2 := [(0, .v v), (1, .v (.float .f32 2139095040)), (2, vo 102), (3, vi (-1)), (8, .v (Value.slice none 0 0)), (9, vu 2139095040), (10, vi 8), (11, vi 23), (12, vi (-127)), (13, vb false), (14, vi 255), (34, vb true)]) (by kernel_rfl) tabOk h11 (fun _ _ _ h => by cases h) rfl (by kernel_rfl) (by kernel_rfl) sE (fun _ _ _ _ hd h => And.intro (hd.trans (And.left h)) (And.right h)) (fun a12 h12 d12 => ?_)
  replace d12 := d12.trans d11
  clear h11 d11
  show Code.wp _ _ _ _ _
  refine wp_seq (wp_region ?_)
  refine oP 298 [] [0, 1, 2, 3, 4, 5] [(0, .v v), (1, .v (.float .f32 2139095040)), (2, vo 102), (3, vi (-1)), (8, .v (Value.slice none 0 0)), (9, vu 2139095040), (10, vi 8), (11, vi 23), (12, vi (-127)), (13, vb false), (14, vi 255), (15, vu 0), (34, vb true)] h12 d12 (fun a13 h13 d13 => ?_)
  clear h12 d12
  show Code.wp _ _ _ _ _
  refine wp_seq ?_
  refine wp_seq (wp_region ?_)
  refine oP 298 [] [0, 1, 2, 3, 4] [(0, .v v), (1, .v (.float .f32 2139095040)), (2, vo 102), (3, vi (-1)), (8, .v (Value.slice none 0 0)), (9, vu 2139095040), (10, vi 8), (11, vi 23), (12, vi (-127)), (13, vb false), (14, vi 255), (15, vu 0), (34, vb true), (67, vb true)] h13 d13 (fun a14 h14 d14 => ?_)
  clear h13 d13
  show Code.wp _ _ _ _ _
  refine wp_cond_true (h14.2 67 _ rfl) ?_
  refine wp_seq ?_
  refine wp_seq (wp_region ?_)
  refine oP 298 [] [0, 1] [(0, .v v), (1, .v (.float .f32 2139095040)), (2, vo 102), (3, vi (-1)), (8, .v (Value.slice none 0 0)), (9, vu 2139095040), (10, vi 8), (11, vi 23), (12, vi (-127)), (13, vb false), (14, vi 255), (15, vu 0), (34, vb true), (67, vb true), (69, vb false)] h14 d14 (fun a15 h15 d15 => ?_)
  clear h14 d14
  show Code.wp _ _ _ _ _
  refine wp_cond_false (h15.2 69 _ rfl) ?_
  refine wp_skip ?_
  show Code.wp _ _ _ _ _
  refine wp_seq ?_
  refine wp_seq (wp_region ?_)
  refine oP 298 [] [0] [(0, .v v), (1, .v (.float .f32 2139095040)), (2, vo 102), (3, vi (-1)), (8, .v (Value.slice none 0 0)), (9, vu 2139095040), (10, vi 8), (11, vi 23), (12, vi (-127)), (13, vb false), (14, vi 255), (15, vu 0), (34, vb true), (67, vb true), (69, vb false), (72, vb false)] h15 d15 (fun a16 h16 d16 => ?_)
  clear h15 d15
  show Code.wp _ _ _ _ _
  refine wp_cond_false (h16.2 72 _ rfl) ?_
  refine wp_skip ?_
  show Code.wp _ _ _ _ _
  refine wp_seq (wp_region ?_)
  refine oP 298 [1, 2] [0] [(0, .v v), (1, .v (.float .f32 2139095040)), (2, vo 102), (3, vi (-1)), (8, .v (Value.slice none 0 0)), (9, vu 2139095040), (10, vi 8), (11, vi 23), (12, vi (-127)), (13, vb false), (14, vi 255), (15, vu 0), (34, vb true), (67, vb true), (69, vb false), (72, vb false), (75, .v v)] h16 d16 (fun a17 h17 d17 => ?_)
  clear h16 d16
  refine appS_ops (N := 298) (i := 1) (d := 76) (rest := [2]) rfl rfl rfl (by decide) h17 rfl (h17.2 75 _ rfl) (Kd.R_drew hrow) (below_drew1 hB) (by decide) (fun u W1 a18 hR hB1 h18 d18 => ?_)
  replace d18 := d18.trans d17
  clear h17 d17
  refine oP 298 [] [2] [(0, .v v), (1, .v (.float .f32 2139095040)), (2, vo 102), (3, vi (-1)), (8, .v u), (9, vu 2139095040), (10, vi 8), (11, vi 23), (12, vi (-127)), (13, vb false), (14, vi 255), (15, vu 0), (34, vb true), (67, vb true), (69, vb false), (72, vb false)] h18 d18 (fun a19 h19 d19 => ?_)
  clear h18 d18
  show Code.wp _ _ _ _ _
  refine wp_ret ?_
  exact ⟨d19, _, results_tmp rfl _ _ _, u, congrArg Ending.returned (h19.2 8 _ rfl), hR, hB1⟩
set_option maxHeartbeats 8000000 in
set_option maxRecDepth 100000 in
theorem ftoa_inf1_walk (w0 w : World) (v : Value) (hB : Below w0.heap.size w0 w) (hrow : Kd.R (Kd.int .u8) 5 w w0.heap.size (fun _ => True) v []) :
    Calls Tryd.prog 27 #[v, .float .f32 4286578688, .int .u8 102, .int .i64 (-1)] w fun e w' => ∃ v', e = .returned v' ∧ Kd.R (Kd.int .u8) 5 w' w0.heap.size (fun _ => True) v' [45, 73, 110, 102] ∧ Below w0.heap.size w0 w' := by
  refine calls_of_wp Tryd.func27 rfl ?_
  have h0 := has_four (β := bn []) (.v v) (.v (.float .f32 4286578688)) (vo 102) (vi (-1)) 294
  have d0 : (⟨#[v, .float .f32 4286578688, .int .u8 102, .int .i64 (-1)] ++ Array.replicate 294 undef, []⟩ : Act).defers = [] := rfl
  refine wp_seq (wp_region ?_)
  refine oP 298 [] [0] [(0, .v v), (1, .v (.float .f32 4286578688)), (2, vo 102), (3, vi (-1)), (8, .v (Value.slice none 0 0))] h0 d0 (fun a1 h1 d1 => ?_)
  clear h0 d0
  show Code.wp _ _ _ _ _
  refine wp_seq (wp_region ?_)
  refine oP 298 [] [0] [(0, .v v), (1, .v (.float .f32 4286578688)), (2, vo 102), (3, vi (-1)), (8, .v (Value.slice none 0 0)), (9, vu 0)] h1 d1 (fun a2 h2 d2 => ?_)
  clear h1 d1
  show Code.wp _ _ _ _ _
  refine wp_seq (wp_region ?_)
  refine oP 298 [] [0, 1, 2] [(0, .v v), (1, .v (.float .f32 4286578688)), (2, vo 102), (3, vi (-1)), (8, .v (Value.slice none 0 0)), (9, vu 0), (10, vi 0), (11, vi 0), (12, vi 0)] h2 d2 (fun a3 h3 d3 => ?_)
  clear h2 d2
  show Code.wp _ _ _ _ _
  refine wp_seq ?_
  refine wp_block ?_
  refine wp_seq (wp_region ?_)
  refine oP 298 [] [0, 1] [(0, .v v), (1, .v (.float .f32 4286578688)), (2, vo 102), (3, vi (-1)), (8, .v (Value.slice none 0 0)), (9, vu 0), (10, vi 0), (11, vi 0), (12, vi 0), (34, vb true)] h3 d3 (fun a4 h4 d4 => ?_)
  clear h3 d3
  show Code.wp _ _ _ _ _
  refine wp_cond_true (h4.2 34 _ rfl) ?_
  refine wp_seq (wp_region ?_)
  refine oP 298 [1, 2, 3] [0] [(0, .v v), (1, .v (.float .f32 4286578688)), (2, vo 102), (3, vi (-1)), (8, .v (Value.slice none 0 0)), (9, vu 0), (10, vi 0), (11, vi 0), (12, vi 0), (34, vb true), (36, .v (.float .f32 4286578688))] h4 d4 (fun a5 h5 d5 => ?_)
  clear h4 d4
  refine gW (s := vw 4286578688) 298 [2, 3] h5 d5 rfl (want_ rfl) rfl (by decide) (op_callV rfl (h5.2 36 _ rfl) (run_f32b 4286578688 _) rfl) (fun a6 h6 d6 => ?_)
  clear h5 d5
  refine oP 298 [] [2, 3] [(0, .v v), (1, .v (.float .f32 4286578688)), (2, vo 102), (3, vi (-1)), (8, .v (Value.slice none 0 0)), (9, vu 4286578688), (10, vi 0), (11, vi 0), (12, vi 0), (34, vb true)] h6 d6 (fun a7 h7 d7 => ?_)
  clear h6 d6
  show Code.wp _ _ _ _ _
  refine wp_seq (wp_region ?_)
  refine oP 298 [] [0] [(0, .v v), (1, .v (.float .f32 4286578688)), (2, vo 102), (3, vi (-1)), (8, .v (Value.slice none 0 0)), (9, vu 4286578688), (10, vi 8), (11, vi 0), (12, vi 0), (34, vb true)] h7 d7 (fun a8 h8 d8 => ?_)
  clear h7 d7
  show Code.wp _ _ _ _ _
  refine wp_seq (wp_region ?_)
  refine oP 298 [] [0] [(0, .v v), (1, .v (.float .f32 4286578688)), (2, vo 102), (3, vi (-1)), (8, .v (Value.slice none 0 0)), (9, vu 4286578688), (10, vi 8), (11, vi 23), (12, vi 0), (34, vb true)] h8 d8 (fun a9 h9 d9 => ?_)
  clear h8 d8
  show Code.wp _ _ _ _ _
  refine wp_region ?_
  refine oP 298 [] [0] [(0, .v v), (1, .v (.float .f32 4286578688)), (2, vo 102), (3, vi (-1)), (8, .v (Value.slice none 0 0)), (9, vu 4286578688), (10, vi 8), (11, vi 23), (12, vi (-127)), (34, vb true)] h9 d9 (fun a10 h10 d10 => ?_)
  clear h9 d9
  show Code.wp _ _ _ _ _
  refine wp_seq (wp_region ?_)
  refine oP 298 [] [0, 1, 2, 3, 4, 5, 6] [(0, .v v), (1, .v (.float .f32 4286578688)), (2, vo 102), (3, vi (-1)), (8, .v (Value.slice none 0 0)), (9, vu 4286578688), (10, vi 8), (11, vi 23), (12, vi (-127)), (13, vb true), (34, vb true)] h10 d10 (fun a11 h11 d11 => ?_)
  clear h10 d10
  show Code.wp _ _ _ _ _
  refine wp_seq ?_
  refine reg_draw (N := 298) (T := TT) (M := fun _ _ => none) (n := 9) (E2 := [(0, .v v), (1, .v (.float .f32 4286578688)), (2, vo 102), (3, vi (-1)), (8, .v (Value.slice none 0 0)), (9, vu 4286578688), (10, vi 8), (11, vi 23), (12, vi (-127)), (13, vb true), (14, vi 255), (34, vb true)]) (by kernel_rfl) tabOk h11 (fun _ _ _ h => by cases h) rfl (by kernel_rfl) (by kernel_rfl) sE (fun _ _ _ _ hd h => And.intro (hd.trans (And.left h)) (And.right h)) (fun a12 h12 d12 => ?_)
  replace d12 := d12.trans d11
  clear h11 d11
  show Code.wp _ _ _ _ _
  refine wp_seq (wp_region ?_)
  refine oP 298 [] [0, 1, 2, 3, 4, 5] [(0, .v v), (1, .v (.float .f32 4286578688)), (2, vo 102), (3, vi (-1)), (8, .v (Value.slice none 0 0)), (9, vu 4286578688), (10, vi 8), (11, vi 23), (12, vi (-127)), (13, vb true), (14, vi 255), (15, vu 0), (34, vb true)] h12 d12 (fun a13 h13 d13 => ?_)
  clear h12 d12
  show Code.wp _ _ _ _ _
  refine wp_seq ?_
  refine wp_seq (wp_region ?_)
  refine oP 298 [] [0, 1, 2, 3, 4] [(0, .v v), (1, .v (.float .f32 4286578688)), (2, vo 102), (3, vi (-1)), (8, .v (Value.slice none 0 0)), (9, vu 4286578688), (10, vi 8), (11, vi 23), (12, vi (-127)), (13, vb true), (14, vi 255), (15, vu 0), (34, vb true), (67, vb true)] h13 d13 (fun a14 h14 d14 => ?_)
  clear h13 d13
  show Code.wp _ _ _ _ _
  refine wp_cond_true (h14.2 67 _ rfl) ?_
  refine wp_seq ?_
  refine wp_seq (wp_region ?_)
  refine oP 298 [] [0, 1] [(0, .v v), (1, .v (.float .f32 4286578688)), (2, vo 102), (3, vi (-1)), (8, .v (Value.slice none 0 0)), (9, vu 4286578688), (10, vi 8), (11, vi 23), (12, vi (-127)), (13, vb true), (14, vi 255), (15, vu 0), (34, vb true), (67, vb true), (69, vb false)] h14 d14 (fun a15 h15 d15 => ?_)
  clear h14 d14
  show Code.wp _ _ _ _ _
  refine wp_cond_false (h15.2 69 _ rfl) ?_
  refine wp_skip ?_
  show Code.wp _ _ _ _ _
  refine wp_seq ?_
  refine wp_seq (wp_region ?_)
  refine oP 298 [] [0] [(0, .v v), (1, .v (.float .f32 4286578688)), (2, vo 102), (3, vi (-1)), (8, .v (Value.slice none 0 0)), (9, vu 4286578688), (10, vi 8), (11, vi 23), (12, vi (-127)), (13, vb true), (14, vi 255), (15, vu 0), (34, vb true), (67, vb true), (69, vb false), (72, vb true)] h15 d15 (fun a16 h16 d16 => ?_)
  clear h15 d15
  show Code.wp _ _ _ _ _
  refine wp_cond_true (h16.2 72 _ rfl) ?_
  refine wp_seq (wp_region ?_)
  refine oP 298 [1, 2] [0] [(0, .v v), (1, .v (.float .f32 4286578688)), (2, vo 102), (3, vi (-1)), (8, .v (Value.slice none 0 0)), (9, vu 4286578688), (10, vi 8), (11, vi 23), (12, vi (-127)), (13, vb true), (14, vi 255), (15, vu 0), (34, vb true), (67, vb true), (69, vb false), (72, vb true), (73, .v v)] h16 d16 (fun a17 h17 d17 => ?_)
  clear h16 d16
  refine appS_ops (N := 298) (i := 1) (d := 74) (rest := [2]) rfl rfl rfl (by decide) h17 rfl (h17.2 73 _ rfl) (Kd.R_drew hrow) (below_drew1 hB) (by decide) (fun u W1 a18 hR hB1 h18 d18 => ?_)
  replace d18 := d18.trans d17
  clear h17 d17
  refine oP 298 [] [2] [(0, .v v), (1, .v (.float .f32 4286578688)), (2, vo 102), (3, vi (-1)), (8, .v u), (9, vu 4286578688), (10, vi 8), (11, vi 23), (12, vi (-127)), (13, vb true), (14, vi 255), (15, vu 0), (34, vb true), (67, vb true), (69, vb false), (72, vb true)] h18 d18 (fun a19 h19 d19 => ?_)
  clear h18 d18
  show Code.wp _ _ _ _ _
  refine wp_ret ?_
  exact ⟨d19, _, results_tmp rfl _ _ _, u, congrArg Ending.returned (h19.2 8 _ rfl), hR, hB1⟩
theorem ftoaIs_inf : FtoaIs 2139095040 [43, 73, 110, 102] := fun w0 w v H0 H hB hrow => ftoa_inf0_walk w0 w v hB (Kd.R_mono hrow (fun _ _ => trivial))
theorem ftoaIs_minf : FtoaIs 4286578688 [45, 73, 110, 102] := fun w0 w v H0 H hB hrow => ftoa_inf1_walk w0 w v hB (Kd.R_mono hrow (fun _ _ => trivial))
theorem ftoaIs_nan (b : Nat) (h : 2139095040 < b ∧ b < 2147483648 ∨ 4286578688 < b ∧ b < 4294967296) : FtoaIs b [78, 97, 78] := by
  have hex : Go.bits .and .i64 (IntKind.i64.wrap (((b : Nat) : Int) / 8388608)) 255 = 255 := by
    have h1 : IntKind.i64.wrap (((b : Nat) : Int) / 8388608) = ((b / 8388608 : Nat) : Int) := by rw [IntKind.wrap_i64]; omega
    have h2 : b / 8388608 = 255 ∨ b / 8388608 = 511 := by omega
    rw [h1]
    rcases h2 with h2 | h2 <;> rw [h2] <;> decide
  have hfr : Go.bits .and .u64 ↑b 8388607 = ((b % 8388608 : Nat) : Int) := n_and23 b (by omega)
  intro w0 w v H0 H hB hrow
  rcases h with h | h
  · exact ftoa_nan0_walk 0 b (b % 8388608) (by omega) (by omega) (by omega) (by omega) hex hfr w0 w v hB (Kd.R_mono hrow (fun _ _ => trivial))
  · exact ftoa_nan0_walk 1 b (b % 8388608) (by omega) (by omega) (by omega) (by omega) hex hfr w0 w v hB (Kd.R_mono hrow (fun _ _ => trivial))
end Go.Proofs.YtmgnffklmdhooaaDoor.PAll
