/- math/big's Lsh by 64, Xor of two numbers of one word each (or none), uint128's Big and math/big's Bytes: the words and octets that they leave in memory; for halves below 2^64. -/
import Derived.Test.YtjmgiodkfgdgnaaBigA
namespace Go.Proofs.Ytjmgiodkfgdgnaa.PAll
open Go.RowKit Go.Proofs.YtjmgiodkfgdgnaaW.PrintWords Go.Proofs.YtjmgiodkfgdgnaaW.PrintLast Go.Proofs.YtjmgiodkfgdgnaaW.PrintMore
set_option linter.unusedVariables false
set_option linter.unusedSimpArgs false
set_option maxHeartbeats 8000000 in
set_option maxRecDepth 100000 in
theorem lsh_nil (w : World) :
    Calls Try.prog 39 #[.slice none 0 0, .slice none 0 0, .int .u64 64] w fun e w' => e = .returned (.slice none 0 0) ∧ w' = w := by
  refine calls_of_wp Try.func39 rfl ?_
  have h0 := has_three (β := bn []) (.v (.slice none 0 0)) (.v (.slice none 0 0)) (.v (.int .u64 64)) 68
  have d0 : (⟨#[.slice none 0 0, .slice none 0 0, .int .u64 64] ++ Array.replicate 68 undef, []⟩ : Act).defers = [] := rfl
  refine wp_seq ?_
  refine wp_region ?_
  refine opsP (N := 71) (T := TT) (M := (fun _ _ => none)) tabOk (fun _ _ _ h => by cases h) [] [0] [(0, .v (.slice none 0 0)), (1, .v (.slice none 0 0)), (2, .v (.int .u64 64)), (6, .v (Value.slice none 0 0))] h0 (by kernel_rfl) ⟨by kernel_rfl, by kernel_rfl, by kernel_rfl, by kernel_rfl, trivial⟩ (fun a1 h1 d1 => ?_)
  replace d1 := d1.trans d0
  clear h0 d0
  show Code.wp _ _ _ _ _
  refine wp_seq ?_
  refine wp_seq ?_
  refine wp_region ?_
  refine opsP (N := 71) (T := TT) (M := (fun _ _ => none)) tabOk (fun _ _ _ h => by cases h) [] [0, 1] [(0, .v (.slice none 0 0)), (1, .v (.slice none 0 0)), (2, .v (.int .u64 64)), (6, .v (Value.slice none 0 0)), (10, .v (.bool false))] h1 (by kernel_rfl) ⟨by kernel_rfl, by kernel_rfl, by kernel_rfl, by kernel_rfl, by kernel_rfl, trivial⟩ (fun a2 h2 d2 => ?_)
  replace d2 := d2.trans d1
  clear h1 d1
  show Code.wp _ _ _ _ _
  refine wp_cond_false (h2.2 10 _ rfl) ?_
  refine wp_skip ?_
  show Code.wp _ _ _ _ _
  refine wp_seq ?_
  refine wp_region ?_
  refine opsP (N := 71) (T := TT) (M := (fun _ _ => none)) tabOk (fun _ _ _ h => by cases h) [1, 2] [0] [(0, .v (.slice none 0 0)), (1, .v (.slice none 0 0)), (2, .v (.int .u64 64)), (6, .v (Value.slice none 0 0)), (10, .v (.bool false)), (22, .v (.slice none 0 0))] h2 (by kernel_rfl) ⟨by kernel_rfl, by kernel_rfl, by kernel_rfl, by kernel_rfl, by kernel_rfl, by kernel_rfl, trivial⟩ (fun a3 h3 d3 => ?_)
  replace d3 := d3.trans d2
  clear h2 d2
  refine givenW_ops (N := 71) (i := 1) (d := 23) (s := .v (.int .i64 0)) (l := [2]) rfl (want_ rfl) rfl (by decide) h3 ((op_len rfl Try.underlying47 (h3.2 22 _ rfl)).trans rfl) (fun a4 h4 d4 => ?_)
  replace d4 := d4.trans d3
  clear h3 d3
  refine opsP (N := 71) (T := TT) (M := (fun _ _ => none)) tabOk (fun _ _ _ h => by cases h) [] [2] [(0, .v (.slice none 0 0)), (1, .v (.slice none 0 0)), (2, .v (.int .u64 64)), (6, .v (Value.slice none 0 0)), (7, .v (.int .i64 0)), (10, .v (.bool false))] h4 (by kernel_rfl) ⟨by kernel_rfl, by kernel_rfl, by kernel_rfl, by kernel_rfl, by kernel_rfl, by kernel_rfl, trivial⟩ (fun a5 h5 d5 => ?_)
  replace d5 := d5.trans d4
  clear h4 d4
  show Code.wp _ _ _ _ _
  refine wp_seq ?_
  refine wp_seq ?_
  refine wp_region ?_
  refine opsP (N := 71) (T := TT) (M := (fun _ _ => none)) tabOk (fun _ _ _ h => by cases h) [] [0, 1] [(0, .v (.slice none 0 0)), (1, .v (.slice none 0 0)), (2, .v (.int .u64 64)), (6, .v (Value.slice none 0 0)), (7, .v (.int .i64 0)), (10, .v (.bool false)), (25, .v (.bool true))] h5 (by kernel_rfl) ⟨by kernel_rfl, by kernel_rfl, by kernel_rfl, by kernel_rfl, by kernel_rfl, by kernel_rfl, by kernel_rfl, trivial⟩ (fun a6 h6 d6 => ?_)
  replace d6 := d6.trans d5
  clear h5 d5
  show Code.wp _ _ _ _ _
  refine wp_cond_true (h6.2 25 _ rfl) ?_
  refine wp_seq ?_
  refine wp_region ?_
  refine opsP (N := 71) (T := TT) (M := (fun _ _ => none)) tabOk (fun _ _ _ h => by cases h) [1, 2] [0] [(0, .v (.slice none 0 0)), (1, .v (.slice none 0 0)), (2, .v (.int .u64 64)), (6, .v (Value.slice none 0 0)), (7, .v (.int .i64 0)), (10, .v (.bool false)), (25, .v (.bool true)), (26, .v (.slice none 0 0))] h6 (by kernel_rfl) ⟨by kernel_rfl, by kernel_rfl, by kernel_rfl, by kernel_rfl, by kernel_rfl, by kernel_rfl, by kernel_rfl, by kernel_rfl, trivial⟩ (fun a7 h7 d7 => ?_)
  replace d7 := d7.trans d6
  clear h6 d6
  refine givenW_ops (N := 71) (i := 1) (d := 27) (s := .v (.slice none 0 0)) (l := [2]) rfl (want_ rfl) rfl (by decide) h7 (op_slh (h := 0) rfl sltNat (h7.2 26 _ rfl) rfl (by decide)) (fun a8 h8 d8 => ?_)
  replace d8 := d8.trans d7
  clear h7 d7
  refine opsP (N := 71) (T := TT) (M := (fun _ _ => none)) tabOk (fun _ _ _ h => by cases h) [] [2] [(0, .v (.slice none 0 0)), (1, .v (.slice none 0 0)), (2, .v (.int .u64 64)), (6, .v (.slice none 0 0)), (7, .v (.int .i64 0)), (10, .v (.bool false)), (25, .v (.bool true))] h8 (by kernel_rfl) ⟨by kernel_rfl, by kernel_rfl, by kernel_rfl, by kernel_rfl, by kernel_rfl, by kernel_rfl, by kernel_rfl, trivial⟩ (fun a9 h9 d9 => ?_)
  replace d9 := d9.trans d8
  clear h8 d8
  show Code.wp _ _ _ _ _
  refine wp_ret ?_
  exact ⟨d9, _, results_tmp rfl _ _ _, congrArg Ending.returned (h9.2 6 _ rfl), rfl⟩
set_option maxHeartbeats 8000000 in
set_option maxRecDepth 100000 in
theorem lsh_one (g c : Nat) (x : Int) (hx : x ≠ 0) (hc : c < 3) (w : World) (hw : Wd w g [x]) :
    Calls Try.prog 39 #[.slice (some ⟨g, 0, none⟩) 1 c, .slice (some ⟨g, 0, none⟩) 1 c, .int .u64 64] w fun e w' => e = .returned (.slice (some ⟨w.heap.size, 0, none⟩) 2 7) ∧ Wd w' w.heap.size [0, x, 0, 0, 0, 0, 0] ∧ Below w.heap.size w w' := by
  refine calls_of_wp Try.func39 rfl ?_
  have h0 := has_three (β := bn []) (.v (.slice (some ⟨g, 0, none⟩) 1 c)) (.v (.slice (some ⟨g, 0, none⟩) 1 c)) (.v (.int .u64 64)) 68
  have d0 : (⟨#[.slice (some ⟨g, 0, none⟩) 1 c, .slice (some ⟨g, 0, none⟩) 1 c, .int .u64 64] ++ Array.replicate 68 undef, []⟩ : Act).defers = [] := rfl
  refine wp_seq ?_
  refine wp_region ?_
  refine opsP (N := 71) (T := TT) (M := (fun _ _ => none)) tabOk (fun _ _ _ h => by cases h) [] [0] [(0, .v (.slice (some ⟨g, 0, none⟩) 1 c)), (1, .v (.slice (some ⟨g, 0, none⟩) 1 c)), (2, .v (.int .u64 64)), (6, .v (Value.slice none 0 0))] h0 (by kernel_rfl) ⟨by kernel_rfl, by kernel_rfl, by kernel_rfl, by kernel_rfl, trivial⟩ (fun a1 h1 d1 => ?_)
  replace d1 := d1.trans d0
  clear h0 d0
  show Code.wp _ _ _ _ _
  refine wp_seq ?_
  refine wp_seq ?_
  refine wp_region ?_
  refine opsP (N := 71) (T := TT) (M := (fun _ _ => none)) tabOk (fun _ _ _ h => by cases h) [] [0, 1] [(0, .v (.slice (some ⟨g, 0, none⟩) 1 c)), (1, .v (.slice (some ⟨g, 0, none⟩) 1 c)), (2, .v (.int .u64 64)), (6, .v (Value.slice none 0 0)), (10, .v (.bool false))] h1 (by kernel_rfl) ⟨by kernel_rfl, by kernel_rfl, by kernel_rfl, by kernel_rfl, by kernel_rfl, trivial⟩ (fun a2 h2 d2 => ?_)
  replace d2 := d2.trans d1
  clear h1 d1
  show Code.wp _ _ _ _ _
  refine wp_cond_false (h2.2 10 _ rfl) ?_
  refine wp_skip ?_
  show Code.wp _ _ _ _ _
  refine wp_seq ?_
  refine wp_region ?_
  refine opsP (N := 71) (T := TT) (M := (fun _ _ => none)) tabOk (fun _ _ _ h => by cases h) [1, 2] [0] [(0, .v (.slice (some ⟨g, 0, none⟩) 1 c)), (1, .v (.slice (some ⟨g, 0, none⟩) 1 c)), (2, .v (.int .u64 64)), (6, .v (Value.slice none 0 0)), (10, .v (.bool false)), (22, .v (.slice (some ⟨g, 0, none⟩) 1 c))] h2 (by kernel_rfl) ⟨by kernel_rfl, by kernel_rfl, by kernel_rfl, by kernel_rfl, by kernel_rfl, by kernel_rfl, trivial⟩ (fun a3 h3 d3 => ?_)
  replace d3 := d3.trans d2
  clear h2 d2
  refine givenW_ops (N := 71) (i := 1) (d := 23) (s := .v (.int .i64 1)) (l := [2]) rfl (want_ rfl) rfl (by decide) h3 ((op_len rfl Try.underlying47 (h3.2 22 _ rfl)).trans rfl) (fun a4 h4 d4 => ?_)
  replace d4 := d4.trans d3
  clear h3 d3
  refine opsP (N := 71) (T := TT) (M := (fun _ _ => none)) tabOk (fun _ _ _ h => by cases h) [] [2] [(0, .v (.slice (some ⟨g, 0, none⟩) 1 c)), (1, .v (.slice (some ⟨g, 0, none⟩) 1 c)), (2, .v (.int .u64 64)), (6, .v (Value.slice none 0 0)), (7, .v (.int .i64 1)), (10, .v (.bool false))] h4 (by kernel_rfl) ⟨by kernel_rfl, by kernel_rfl, by kernel_rfl, by kernel_rfl, by kernel_rfl, by kernel_rfl, trivial⟩ (fun a5 h5 d5 => ?_)
  replace d5 := d5.trans d4
  clear h4 d4
  show Code.wp _ _ _ _ _
  refine wp_seq ?_
  refine wp_seq ?_
  refine wp_region ?_
  refine opsP (N := 71) (T := TT) (M := (fun _ _ => none)) tabOk (fun _ _ _ h => by cases h) [] [0, 1] [(0, .v (.slice (some ⟨g, 0, none⟩) 1 c)), (1, .v (.slice (some ⟨g, 0, none⟩) 1 c)), (2, .v (.int .u64 64)), (6, .v (Value.slice none 0 0)), (7, .v (.int .i64 1)), (10, .v (.bool false)), (25, .v (.bool false))] h5 (by kernel_rfl) ⟨by kernel_rfl, by kernel_rfl, by kernel_rfl, by kernel_rfl, by kernel_rfl, by kernel_rfl, by kernel_rfl, trivial⟩ (fun a6 h6 d6 => ?_)
  replace d6 := d6.trans d5
  clear h5 d5
  show Code.wp _ _ _ _ _
  refine wp_cond_false (h6.2 25 _ rfl) ?_
  refine wp_skip ?_
  show Code.wp _ _ _ _ _
  refine wp_seq ?_
  refine wp_region ?_
  refine opsP (N := 71) (T := TT) (M := (fun _ _ => none)) tabOk (fun _ _ _ h => by cases h) [] [0, 1, 2, 3, 4, 5] [(0, .v (.slice (some ⟨g, 0, none⟩) 1 c)), (1, .v (.slice (some ⟨g, 0, none⟩) 1 c)), (2, .v (.int .u64 64)), (6, .v (Value.slice none 0 0)), (7, .v (.int .i64 1)), (8, .v (.int .i64 2)), (10, .v (.bool false)), (25, .v (.bool false))] h6 (by kernel_rfl) ⟨by kernel_rfl, by kernel_rfl, by kernel_rfl, by kernel_rfl, by kernel_rfl, by kernel_rfl, by kernel_rfl, by kernel_rfl, trivial⟩ (fun a7 h7 d7 => ?_)
  replace d7 := d7.trans d6
  clear h6 d6
  show Code.wp _ _ _ _ _
  refine wp_seq ?_
  refine wp_region ?_
  refine opsP (N := 71) (T := TT) (M := (fun _ _ => none)) tabOk (fun _ _ _ h => by cases h) [3, 4] [0, 1, 2] [(0, .v (.slice (some ⟨g, 0, none⟩) 1 c)), (1, .v (.slice (some ⟨g, 0, none⟩) 1 c)), (2, .v (.int .u64 64)), (6, .v (Value.slice none 0 0)), (7, .v (.int .i64 1)), (8, .v (.int .i64 2)), (10, .v (.bool false)), (25, .v (.bool false)), (33, .v (.slice (some ⟨g, 0, none⟩) 1 c)), (34, .v (.int .i64 2)), (35, .v (.int .i64 3))] h7 (by kernel_rfl) ⟨by kernel_rfl, by kernel_rfl, by kernel_rfl, by kernel_rfl, by kernel_rfl, by kernel_rfl, by kernel_rfl, by kernel_rfl, by kernel_rfl, by kernel_rfl, by kernel_rfl, trivial⟩ (fun a8 h8 d8 => ?_)
  replace d8 := d8.trans d7
  clear h7 d7
  refine callW_ops (N := 71) (i := 3) (d := 36) (f := 44) (args := [.v (.slice (some ⟨g, 0, none⟩) 1 c), .v (.int .i64 3)]) (l := [4]) rfl (want_ rfl) rfl (by decide) h8 Try.func44 rfl rfl rfl (by kernel_rfl) (fun v W' => v = .slice (some ⟨w.heap.size, 0, none⟩) 3 7 ∧ Wd W' w.heap.size [0, 0, 0, 0, 0, 0, 0] ∧ Below w.heap.size w W') ((make_more (some ⟨g, 0, none⟩) 1 3 c hc (by decide) (by decide) w).mono fun e w' hh => ⟨_, hh.1, rfl, hh.2⟩) (fun v9 W9 a9 hR9 h9 d9 => ?_)
  replace d9 := d9.trans d8
  clear h8 d8
  obtain ⟨rfl, hw1, hB⟩ := hR9
  have hx1 := hw.below hB
  refine opsP (N := 71) (T := TT) (M := (fun _ _ => none)) tabOk (fun _ _ _ h => by cases h) [] [4] [(0, .v (.slice (some ⟨w.heap.size, 0, none⟩) 3 7)), (1, .v (.slice (some ⟨g, 0, none⟩) 1 c)), (2, .v (.int .u64 64)), (6, .v (Value.slice none 0 0)), (7, .v (.int .i64 1)), (8, .v (.int .i64 2)), (10, .v (.bool false)), (25, .v (.bool false))] h9 (by kernel_rfl) ⟨by kernel_rfl, by kernel_rfl, by kernel_rfl, by kernel_rfl, by kernel_rfl, by kernel_rfl, by kernel_rfl, by kernel_rfl, trivial⟩ (fun a10 h10 d10 => ?_)
  replace d10 := d10.trans d9
  clear h9 d9
  show Code.wp _ _ _ _ _
  refine wp_seq ?_
  refine wp_seq ?_
  refine wp_region ?_
  refine opsP (N := 71) (T := TT) (M := (fun _ _ => none)) tabOk (fun _ _ _ h => by cases h) [] [0, 1, 2] [(0, .v (.slice (some ⟨w.heap.size, 0, none⟩) 3 7)), (1, .v (.slice (some ⟨g, 0, none⟩) 1 c)), (2, .v (.int .u64 0)), (6, .v (Value.slice none 0 0)), (7, .v (.int .i64 1)), (8, .v (.int .i64 2)), (10, .v (.bool false)), (25, .v (.bool false))] h10 (by kernel_rfl) ⟨by kernel_rfl, by kernel_rfl, by kernel_rfl, by kernel_rfl, by kernel_rfl, by kernel_rfl, by kernel_rfl, by kernel_rfl, trivial⟩ (fun a11 h11 d11 => ?_)
  replace d11 := d11.trans d10
  clear h10 d10
  show Code.wp _ _ _ _ _
  refine wp_seq ?_
  refine wp_region ?_
  refine opsP (N := 71) (T := TT) (M := (fun _ _ => none)) tabOk (fun _ _ _ h => by cases h) [] [0, 1] [(0, .v (.slice (some ⟨w.heap.size, 0, none⟩) 3 7)), (1, .v (.slice (some ⟨g, 0, none⟩) 1 c)), (2, .v (.int .u64 0)), (6, .v (Value.slice none 0 0)), (7, .v (.int .i64 1)), (8, .v (.int .i64 2)), (10, .v (.bool false)), (25, .v (.bool false)), (40, .v (.bool true))] h11 (by kernel_rfl) ⟨by kernel_rfl, by kernel_rfl, by kernel_rfl, by kernel_rfl, by kernel_rfl, by kernel_rfl, by kernel_rfl, by kernel_rfl, by kernel_rfl, trivial⟩ (fun a12 h12 d12 => ?_)
  replace d12 := d12.trans d11
  clear h11 d11
  show Code.wp _ _ _ _ _
  refine wp_cond_true (h12.2 40 _ rfl) ?_
  refine wp_seq ?_
  refine wp_region ?_
  refine opsP (N := 71) (T := TT) (M := (fun _ _ => none)) tabOk (fun _ _ _ h => by cases h) [5, 6, 7] [0, 1, 2, 3, 4] [(0, .v (.slice (some ⟨w.heap.size, 0, none⟩) 3 7)), (1, .v (.slice (some ⟨g, 0, none⟩) 1 c)), (2, .v (.int .u64 0)), (6, .v (Value.slice none 0 0)), (7, .v (.int .i64 1)), (8, .v (.int .i64 2)), (10, .v (.bool false)), (25, .v (.bool false)), (40, .v (.bool true)), (41, .v (.slice (some ⟨w.heap.size, 0, none⟩) 3 7)), (42, .v (.int .i64 2)), (43, .v (.int .i64 1)), (44, .v (.int .i64 1)), (45, .v (.int .i64 2))] h12 (by kernel_rfl) ⟨by kernel_rfl, by kernel_rfl, by kernel_rfl, by kernel_rfl, by kernel_rfl, by kernel_rfl, by kernel_rfl, by kernel_rfl, by kernel_rfl, by kernel_rfl, by kernel_rfl, by kernel_rfl, by kernel_rfl, by kernel_rfl, trivial⟩ (fun a13 h13 d13 => ?_)
  replace d13 := d13.trans d12
  clear h12 d12
  refine givenW_ops (N := 71) (i := 5) (d := 46) (s := .v (.slice (some ⟨w.heap.size, 1, none⟩) 1 6)) (l := [6, 7]) rfl (want_ rfl) rfl (by decide) h13 ((op_sllh (l := 1) (h := 2) rfl sltNat (h13.2 41 _ rfl) (h13.2 44 _ rfl) (h13.2 45 _ rfl) (by decide) (by decide)).trans rfl) (fun a14 h14 d14 => ?_)
  replace d14 := d14.trans d13
  clear h13 d13
  refine opsP (N := 71) (T := TT) (M := (fun _ _ => none)) tabOk (fun _ _ _ h => by cases h) [7] [6] [(0, .v (.slice (some ⟨w.heap.size, 0, none⟩) 3 7)), (1, .v (.slice (some ⟨g, 0, none⟩) 1 c)), (2, .v (.int .u64 0)), (6, .v (Value.slice none 0 0)), (7, .v (.int .i64 1)), (8, .v (.int .i64 2)), (10, .v (.bool false)), (25, .v (.bool false)), (40, .v (.bool true)), (41, .v (.slice (some ⟨w.heap.size, 0, none⟩) 3 7)), (42, .v (.int .i64 2)), (43, .v (.int .i64 1)), (44, .v (.int .i64 1)), (45, .v (.int .i64 2)), (46, .v (.slice (some ⟨w.heap.size, 1, none⟩) 1 6)), (47, .v (.slice (some ⟨g, 0, none⟩) 1 c))] h14 (by kernel_rfl) ⟨by kernel_rfl, by kernel_rfl, by kernel_rfl, by kernel_rfl, by kernel_rfl, by kernel_rfl, by kernel_rfl, by kernel_rfl, by kernel_rfl, by kernel_rfl, by kernel_rfl, by kernel_rfl, by kernel_rfl, by kernel_rfl, by kernel_rfl, by kernel_rfl, trivial⟩ (fun a15 h15 d15 => ?_)
  replace d15 := d15.trans d14
  clear h14 d14
  refine new_ops (N := 71) (i := 7) (d := 48) (l := []) rfl rfl rfl (by decide) h15 (op_cpw (xs := [x]) rfl sltNat (h15.2 46 _ rfl) (h15.2 47 _ rfl) hw1 rfl (hx1.src 0 1) (by simp)) (fun a16 h16 d16 => ?_)
  replace d16 := d16.trans d15
  clear h15 d15
  have hw2 : Wd (wdW W9 w.heap.size (layW [0, 0, 0, 0, 0, 0, 0] 1 [x])) w.heap.size [0, x, 0, 0, 0, 0, 0] := wd_wdW hw1 _
  have hF2 := (Fr.ofBelow [w.heap.size] hB).trans (fr_wdW W9 w.heap.size (layW [0, 0, 0, 0, 0, 0, 0] 1 [x]))
  show Code.wp _ _ _ _ _
  refine wp_region ?_
  refine opsP (N := 71) (T := TT) (M := (fun _ _ => none)) tabOk (fun _ _ _ h => by cases h) [2, 3] [0, 1] [(0, .v (.slice (some ⟨w.heap.size, 0, none⟩) 3 7)), (1, .v (.slice (some ⟨g, 0, none⟩) 1 c)), (2, .v (.int .u64 0)), (6, .v (Value.slice none 0 0)), (7, .v (.int .i64 1)), (8, .v (.int .i64 2)), (10, .v (.bool false)), (25, .v (.bool false)), (40, .v (.bool true)), (49, .v (.slice (some ⟨w.heap.size, 0, none⟩) 3 7)), (50, .v (.int .i64 2))] h16 (by kernel_rfl) ⟨by kernel_rfl, by kernel_rfl, by kernel_rfl, by kernel_rfl, by kernel_rfl, by kernel_rfl, by kernel_rfl, by kernel_rfl, by kernel_rfl, by kernel_rfl, by kernel_rfl, trivial⟩ (fun a17 h17 d17 => ?_)
  replace d17 := d17.trans d16
  clear h16 d16
  refine givenW_ops (N := 71) (i := 2) (d := 51) (s := .v (.pointer (some ⟨w.heap.size, 2, none⟩))) (l := [3]) rfl (want_ rfl) rfl (by decide) h17 ((op_indexE (j := 2) rfl (h17.2 49 _ rfl) (h17.2 50 _ rfl) Try.underlying47 Try.sizeOf70 (by decide)).trans rfl) (fun a18 h18 d18 => ?_)
  replace d18 := d18.trans d17
  clear h17 d17
  refine st_ops (i := 3) (l := []) rfl rfl rfl (op_store rfl (h18.2 51 _ rfl) rfl (Or.inl ⟨_, _, rfl⟩) Try.sizeOf70 (hw2.cell (i := 2) (by simp)) (hw2.frozen 2)) ?_
  show Code.wp _ _ _ _ _
  have hw3 : Wd _ w.heap.size [0, x, 0, 0, 0, 0, 0] := hw2.set 2 0
  have hF3 := hF2.trans (Fr.setc w.heap.size 2 (.int .u64 0))
  refine wp_seq ?_
  refine wp_region ?_
  refine opsP (N := 71) (T := TT) (M := (fun _ _ => none)) tabOk (fun _ _ _ h => by cases h) [4, 5] [0, 1, 2, 3] [(0, .v (.slice (some ⟨w.heap.size, 0, none⟩) 3 7)), (1, .v (.slice (some ⟨g, 0, none⟩) 1 c)), (2, .v (.int .u64 0)), (6, .v (Value.slice none 0 0)), (7, .v (.int .i64 1)), (8, .v (.int .i64 2)), (10, .v (.bool false)), (25, .v (.bool false)), (40, .v (.bool true)), (64, .v (.slice (some ⟨w.heap.size, 0, none⟩) 3 7)), (65, .v (.int .i64 2)), (66, .v (.int .i64 1)), (67, .v (.int .i64 1))] h18 (by kernel_rfl) ⟨by kernel_rfl, by kernel_rfl, by kernel_rfl, by kernel_rfl, by kernel_rfl, by kernel_rfl, by kernel_rfl, by kernel_rfl, by kernel_rfl, by kernel_rfl, by kernel_rfl, by kernel_rfl, by kernel_rfl, trivial⟩ (fun a19 h19 d19 => ?_)
  replace d19 := d19.trans d18
  clear h18 d18
  refine givenW_ops (N := 71) (i := 4) (d := 68) (s := .v (.slice (some ⟨w.heap.size, 0, none⟩) 1 7)) (l := [5]) rfl (want_ rfl) rfl (by decide) h19 ((op_sllh (l := 0) (h := 1) rfl sltNat (h19.2 64 _ rfl) rfl (h19.2 67 _ rfl) (by decide) (by decide)).trans rfl) (fun a20 h20 d20 => ?_)
  replace d20 := d20.trans d19
  clear h19 d19
  refine cl_ops (i := 5) (l := []) rfl rfl rfl (op_clw (n := 0) rfl sltNat (h20.2 68 _ rfl) hw3 (by simp)) ?_
  have hw4 : Wd _ w.heap.size [0, x, 0, 0, 0, 0, 0] := wd_wdW hw3 _
  have hF4 := hF3.trans (fr_wdW _ w.heap.size (layW [0, x, 0, 0, 0, 0, 0] 0 [0]))
  have ht : topN [0, x, 0, 0, 0, 0, 0] 3 = 2 := by simp [topN, hx]
  show Code.wp _ _ _ _ _
  refine wp_seq ?_
  refine wp_region ?_
  refine opsP (N := 71) (T := TT) (M := (fun _ _ => none)) tabOk (fun _ _ _ h => by cases h) [1, 2] [0] [(0, .v (.slice (some ⟨w.heap.size, 0, none⟩) 3 7)), (1, .v (.slice (some ⟨g, 0, none⟩) 1 c)), (2, .v (.int .u64 0)), (6, .v (Value.slice none 0 0)), (7, .v (.int .i64 1)), (8, .v (.int .i64 2)), (10, .v (.bool false)), (25, .v (.bool false)), (40, .v (.bool true)), (69, .v (.slice (some ⟨w.heap.size, 0, none⟩) 3 7))] h20 (by kernel_rfl) ⟨by kernel_rfl, by kernel_rfl, by kernel_rfl, by kernel_rfl, by kernel_rfl, by kernel_rfl, by kernel_rfl, by kernel_rfl, by kernel_rfl, by kernel_rfl, trivial⟩ (fun a21 h21 d21 => ?_)
  replace d21 := d21.trans d20
  clear h20 d20
  refine callW_ops (N := 71) (i := 1) (d := 70) (f := 46) (args := [.v (.slice (some ⟨w.heap.size, 0, none⟩) 3 7)]) (l := [2]) rfl (want_ rfl) rfl (by decide) h21 Try.func46 rfl rfl rfl (by kernel_rfl) (fun v W' => v = .slice (some ⟨w.heap.size, 0, none⟩) 2 7 ∧ Wd W' w.heap.size [0, x, 0, 0, 0, 0, 0] ∧ Below w.heap.size w W') ((norm_walk w.heap.size 3 7 _ _ hw4 (by simp) (by decide) (by decide)).mono fun e w' hh => ⟨_, hh.1.trans (by rw [ht]), rfl, hh.2 ▸ hw4, hh.2 ▸ hF4.below _ (Nat.le_refl _) (by simp)⟩) (fun v22 W22 a22 hR22 h22 d22 => ?_)
  replace d22 := d22.trans d21
  clear h21 d21
  obtain ⟨rfl, hw5, hB5⟩ := hR22
  refine opsP (N := 71) (T := TT) (M := (fun _ _ => none)) tabOk (fun _ _ _ h => by cases h) [] [2] [(0, .v (.slice (some ⟨w.heap.size, 0, none⟩) 3 7)), (1, .v (.slice (some ⟨g, 0, none⟩) 1 c)), (2, .v (.int .u64 0)), (6, .v (.slice (some ⟨w.heap.size, 0, none⟩) 2 7)), (7, .v (.int .i64 1)), (8, .v (.int .i64 2)), (10, .v (.bool false)), (25, .v (.bool false)), (40, .v (.bool true))] h22 (by kernel_rfl) ⟨by kernel_rfl, by kernel_rfl, by kernel_rfl, by kernel_rfl, by kernel_rfl, by kernel_rfl, by kernel_rfl, by kernel_rfl, by kernel_rfl, trivial⟩ (fun a23 h23 d23 => ?_)
  replace d23 := d23.trans d22
  clear h22 d22
  show Code.wp _ _ _ _ _
  refine wp_ret ?_
  exact ⟨d23, _, results_tmp rfl _ _ _, congrArg Ending.returned (h23.2 6 _ rfl), hw5, hB5⟩
set_option maxHeartbeats 8000000 in
set_option maxRecDepth 100000 in
theorem Lsh_nil (p : Nat) (b : Bool) (w : World) (hI : IB w p b (.slice none 0 0)) :
    Calls Try.prog 25 #[.pointer (some ⟨p, 0, none⟩), .pointer (some ⟨p, 0, none⟩), .int .u64 64] w fun e w' => e = .returned (.pointer (some ⟨p, 0, none⟩)) ∧ IB w' p b (.slice none 0 0) ∧ Fr [p] w w' := by
  refine calls_of_wp Try.func25 rfl ?_
  have h0 := has_three (β := bn []) (.v (.pointer (some ⟨p, 0, none⟩))) (.v (.pointer (some ⟨p, 0, none⟩))) (.v (.int .u64 64)) 25
  have d0 : (⟨#[.pointer (some ⟨p, 0, none⟩), .pointer (some ⟨p, 0, none⟩), .int .u64 64] ++ Array.replicate 25 undef, []⟩ : Act).defers = [] := rfl
  refine wp_seq ?_
  refine wp_region ?_
  refine opsP (N := 28) (T := TT) (M := (fun _ _ => none)) tabOk (fun _ _ _ h => by cases h) [] [0] [(0, .v (.pointer (some ⟨p, 0, none⟩))), (1, .v (.pointer (some ⟨p, 0, none⟩))), (2, .v (.int .u64 64)), (6, .v (Value.pointer none))] h0 (by kernel_rfl) ⟨by kernel_rfl, by kernel_rfl, by kernel_rfl, by kernel_rfl, trivial⟩ (fun a1 h1 d1 => ?_)
  replace d1 := d1.trans d0
  clear h0 d0
  show Code.wp _ _ _ _ _
  refine wp_seq ?_
  refine start_ (S := fun V => IB V p b (.slice none 0 0)) (ds := [13]) (n := 14) _ (by kernel_rfl) rfl rfl (hI) (fun hS2 => ?_)
  refine segP (S := fun V => IB V p b (.slice none 0 0)) (ds := [13]) (T := TT) (M := fun _ _ => none) (N := 28) tabOk (fun _ _ _ _ _ h => by cases h) (fun _ _ _ _ hd h => And.intro (hd.trans (And.left h)) (And.right h)) hS2 [0, 1] 12 [(0, .v (.pointer (some ⟨p, 0, none⟩))), (1, .v (.pointer (some ⟨p, 0, none⟩))), (2, .v (.int .u64 64)), (6, .v (Value.pointer none)), (7, .v (.pointer (some ⟨p, 0, none⟩))), (8, .v (.pointer (some ⟨p, 0, none⟩)))] h1 (by kernel_rfl) (by kernel_rfl) ⟨by kernel_rfl, by kernel_rfl, by kernel_rfl, by kernel_rfl, by kernel_rfl, by kernel_rfl, trivial⟩ (fun a2 h2 d2 => ?_)
  replace d2 := d2.trans d1
  clear h1 d1
  refine segV (S := fun V => IB V p b (.slice none 0 0)) (ds := [13]) (N := 28) (i := 2) (d := 9) (s := .v (.pointer (some ⟨p, 0, none⟩))) (fun _ _ _ _ hd h => And.intro (hd.trans (And.left h)) (And.right h)) hS2 h2 rfl rfl rfl (by decide) (by kernel_rfl) (fun W' hW => op_nilCheck rfl (h2.2 8 _ rfl)) (fun a3 h3 d3 => ?_)
  replace d3 := d3.trans d2
  clear h2 d2
  refine segV (S := fun V => IB V p b (.slice none 0 0)) (ds := [13]) (N := 28) (i := 3) (d := 10) (s := .v (.pointer (some ⟨p, 1, none⟩))) (fun _ _ _ _ hd h => And.intro (hd.trans (And.left h)) (And.right h)) hS2 h3 rfl rfl rfl (by decide) (by kernel_rfl) (fun W' hW => op_fAbs rfl (h3.2 9 _ rfl)) (fun a4 h4 d4 => ?_)
  replace d4 := d4.trans d3
  clear h3 d3
  refine segV (S := fun V => IB V p b (.slice none 0 0)) (ds := [13]) (N := 28) (i := 4) (d := 11) (s := .v (.slice none 0 0)) (fun _ _ _ _ hd h => And.intro (hd.trans (And.left h)) (And.right h)) hS2 h4 rfl rfl rfl (by decide) (by kernel_rfl) (fun W' hW => op_load rfl (h4.2 10 _ rfl) Try.isAgg47 hW.abs) (fun a5 h5 d5 => ?_)
  replace d5 := d5.trans d4
  clear h4 d4
  refine segP (S := fun V => IB V p b (.slice none 0 0)) (ds := [13]) (T := TT) (M := fun _ _ => none) (N := 28) tabOk (fun _ _ _ _ _ h => by cases h) (fun _ _ _ _ hd h => And.intro (hd.trans (And.left h)) (And.right h)) hS2 [5] 8 [(0, .v (.pointer (some ⟨p, 0, none⟩))), (1, .v (.pointer (some ⟨p, 0, none⟩))), (2, .v (.int .u64 64)), (6, .v (Value.pointer none)), (7, .v (.pointer (some ⟨p, 0, none⟩))), (8, .v (.pointer (some ⟨p, 0, none⟩))), (9, .v (.pointer (some ⟨p, 0, none⟩))), (10, .v (.pointer (some ⟨p, 1, none⟩))), (11, .v (.slice none 0 0)), (12, .v (.pointer (some ⟨p, 0, none⟩)))] h5 (by kernel_rfl) (by kernel_rfl) ⟨by kernel_rfl, by kernel_rfl, by kernel_rfl, by kernel_rfl, by kernel_rfl, by kernel_rfl, by kernel_rfl, by kernel_rfl, by kernel_rfl, by kernel_rfl, trivial⟩ (fun a6 h6 d6 => ?_)
  replace d6 := d6.trans d5
  clear h5 d5
  refine segV (S := fun V => IB V p b (.slice none 0 0)) (ds := [13]) (N := 28) (i := 6) (d := 13) (s := .v (.pointer (some ⟨p, 0, none⟩))) (fun _ _ _ _ hd h => And.intro (hd.trans (And.left h)) (And.right h)) hS2 h6 rfl rfl rfl (by decide) (by kernel_rfl) (fun W' hW => op_nilCheck rfl (h6.2 12 _ rfl)) (fun a7 h7 d7 => ?_)
  replace d7 := d7.trans d6
  clear h6 d6
  refine segV (S := fun V => IB V p b (.slice none 0 0)) (ds := [13]) (N := 28) (i := 7) (d := 14) (s := .v (.pointer (some ⟨p, 1, none⟩))) (fun _ _ _ _ hd h => And.intro (hd.trans (And.left h)) (And.right h)) hS2 h7 rfl rfl rfl (by decide) (by kernel_rfl) (fun W' hW => op_fAbs rfl (h7.2 13 _ rfl)) (fun a8 h8 d8 => ?_)
  replace d8 := d8.trans d7
  clear h7 d7
  refine segV (S := fun V => IB V p b (.slice none 0 0)) (ds := [13]) (N := 28) (i := 8) (d := 15) (s := .v (.slice none 0 0)) (fun _ _ _ _ hd h => And.intro (hd.trans (And.left h)) (And.right h)) hS2 h8 rfl rfl rfl (by decide) (by kernel_rfl) (fun W' hW => op_load rfl (h8.2 14 _ rfl) Try.isAgg47 hW.abs) (fun a9 h9 d9 => ?_)
  replace d9 := d9.trans d8
  clear h8 d8
  refine segP (S := fun V => IB V p b (.slice none 0 0)) (ds := [13]) (T := TT) (M := fun _ _ => none) (N := 28) tabOk (fun _ _ _ _ _ h => by cases h) (fun _ _ _ _ hd h => And.intro (hd.trans (And.left h)) (And.right h)) hS2 [9] 4 [(0, .v (.pointer (some ⟨p, 0, none⟩))), (1, .v (.pointer (some ⟨p, 0, none⟩))), (2, .v (.int .u64 64)), (6, .v (Value.pointer none)), (7, .v (.pointer (some ⟨p, 0, none⟩))), (8, .v (.pointer (some ⟨p, 0, none⟩))), (9, .v (.pointer (some ⟨p, 0, none⟩))), (10, .v (.pointer (some ⟨p, 1, none⟩))), (11, .v (.slice none 0 0)), (12, .v (.pointer (some ⟨p, 0, none⟩))), (13, .v (.pointer (some ⟨p, 0, none⟩))), (14, .v (.pointer (some ⟨p, 1, none⟩))), (15, .v (.slice none 0 0)), (16, .v (.int .u64 64))] h9 (by kernel_rfl) (by kernel_rfl) ⟨by kernel_rfl, by kernel_rfl, by kernel_rfl, by kernel_rfl, by kernel_rfl, by kernel_rfl, by kernel_rfl, by kernel_rfl, by kernel_rfl, by kernel_rfl, by kernel_rfl, by kernel_rfl, by kernel_rfl, by kernel_rfl, trivial⟩ (fun a10 h10 d10 => ?_)
  replace d10 := d10.trans d9
  clear h9 d9
  refine stepR (S := fun V => IB V p b (.slice none 0 0)) (ds := [13]) (N := 28) (j := 10) (d := 17) (f := 39) (args := [.v (.slice none 0 0), .v (.slice none 0 0), .v (.int .u64 64)]) h10 (by kernel_rfl) (by kernel_rfl) Try.func39 rfl rfl (fun (v : Value) (W' : World) => v = .slice none 0 0 ∧ W' = w.drew) (fun v W' hh => by rw [hh.2]; exact hI) ((lsh_nil w.drew).mono fun e w' hh => ⟨_, hh.1, rfl, hh.2⟩) (fun a11 v11 W11 h11 d11 hR11 => ?_)
  replace d11 := d11.trans d10
  clear h10 d10
  have hS11 : (fun V => IB V p b (.slice none 0 0)) W11 := (fun (v : Value) (W' : World) (hh : (fun (v : Value) (W' : World) => v = .slice none 0 0 ∧ W' = w.drew) v W') => (show (fun V => IB V p b (.slice none 0 0)) W' from by rw [hh.2]; exact hI)) _ _ hR11
  obtain ⟨rfl, e1⟩ := hR11
  subst e1
  have hI1 : IB w.drew p b (.slice none 0 0) := hI
  have hF1 := Fr.refl [p] w
  refine segV (S := fun V => IB V p b (.slice none 0 0)) (ds := [13]) (N := 28) (i := 11) (d := 18) (s := .v (.pointer (some ⟨p, 0, none⟩))) (fun _ _ _ _ hd h => And.intro (hd.trans (And.left h)) (And.right h)) hS11 h11 rfl rfl rfl (by decide) (by kernel_rfl) (fun W' hW => op_nilCheck rfl (h11.2 7 _ rfl)) (fun a12 h12 d12 => ?_)
  replace d12 := d12.trans d11
  clear h11 d11
  refine segV (S := fun V => IB V p b (.slice none 0 0)) (ds := [13]) (N := 28) (i := 12) (d := 19) (s := .v (.pointer (some ⟨p, 1, none⟩))) (fun _ _ _ _ hd h => And.intro (hd.trans (And.left h)) (And.right h)) hS11 h12 rfl rfl rfl (by decide) (by kernel_rfl) (fun W' hW => op_fAbs rfl (h12.2 18 _ rfl)) (fun a13 h13 d13 => ?_)
  replace d13 := d13.trans d12
  clear h12 d12
  refine last_ (i := 13) (N := none) #[true, true, true, true, true, true, true, true, true, true, true, true, true, true] rfl rfl (by kernel_rfl) (by simp) (fun K2 hK2 => ?_)
  refine skip_ (want_ rfl) rfl (store_cell rfl (h13.2 19 _ rfl) (h13.2 17 _ rfl) Try.sizeOf47 (hI1.frozen 1) hI1.abs) ?_
  refine hK2.out _ _ ?_
  refine done_ (by kernel_rfl) ?_
  show Code.wp _ _ _ _ _
  have hI2 := hI1.setAbs (.slice none 0 0)
  have hF2 := hF1.trans (Fr.setc p 1 (.slice none 0 0))
  refine wp_seq ?_
  refine wp_region ?_
  refine opsP (N := 28) (T := TT) (M := (fun _ _ => none)) tabOk (fun _ _ _ h => by cases h) [2, 3, 4, 5, 6, 7] [0, 1] [(0, .v (.pointer (some ⟨p, 0, none⟩))), (1, .v (.pointer (some ⟨p, 0, none⟩))), (6, .v (Value.pointer none)), (20, .v (.pointer (some ⟨p, 0, none⟩))), (21, .v (.pointer (some ⟨p, 0, none⟩)))] h13 (by kernel_rfl) ⟨by kernel_rfl, by kernel_rfl, by kernel_rfl, by kernel_rfl, by kernel_rfl, trivial⟩ (fun a14 h14 d14 => ?_)
  replace d14 := d14.trans d13
  clear h13 d13
  refine givenW_ops (N := 28) (i := 2) (d := 22) (s := .v (.pointer (some ⟨p, 0, none⟩))) (l := [3, 4, 5, 6, 7]) rfl (want_ rfl) rfl (by decide) h14 (op_nilCheck rfl (h14.2 21 _ rfl)) (fun a15 h15 d15 => ?_)
  replace d15 := d15.trans d14
  clear h14 d14
  refine givenW_ops (N := 28) (i := 3) (d := 23) (s := .v (.pointer (some ⟨p, 0, none⟩))) (l := [4, 5, 6, 7]) rfl (want_ rfl) rfl (by decide) h15 (op_fNeg rfl (h15.2 22 _ rfl)) (fun a16 h16 d16 => ?_)
  replace d16 := d16.trans d15
  clear h15 d15
  refine givenW_ops (N := 28) (i := 4) (d := 24) (s := .v (.bool b)) (l := [5, 6, 7]) rfl (want_ rfl) rfl (by decide) h16 (op_load rfl (h16.2 23 _ rfl) Try.isAgg4 hI2.neg) (fun a17 h17 d17 => ?_)
  replace d17 := d17.trans d16
  clear h16 d16
  refine givenW_ops (N := 28) (i := 5) (d := 25) (s := .v (.pointer (some ⟨p, 0, none⟩))) (l := [6, 7]) rfl (want_ rfl) rfl (by decide) h17 (op_nilCheck rfl (h17.2 20 _ rfl)) (fun a18 h18 d18 => ?_)
  replace d18 := d18.trans d17
  clear h17 d17
  refine givenW_ops (N := 28) (i := 6) (d := 26) (s := .v (.pointer (some ⟨p, 0, none⟩))) (l := [7]) rfl (want_ rfl) rfl (by decide) h18 (op_fNeg rfl (h18.2 25 _ rfl)) (fun a19 h19 d19 => ?_)
  replace d19 := d19.trans d18
  clear h18 d18
  refine st_ops (i := 7) (l := []) rfl rfl rfl (op_store rfl (h19.2 26 _ rfl) (h19.2 24 _ rfl) (Or.inr ⟨_, rfl⟩) Try.sizeOf4 hI2.neg (hI2.frozen 0)) ?_
  have hI3 := hI2.setNeg b
  have hF3 := hF2.trans (Fr.setc p 0 (.bool b))
  show Code.wp _ _ _ _ _
  refine wp_seq ?_
  refine wp_region ?_
  refine opsP (N := 28) (T := TT) (M := (fun _ _ => none)) tabOk (fun _ _ _ h => by cases h) [] [0, 1] [(0, .v (.pointer (some ⟨p, 0, none⟩))), (1, .v (.pointer (some ⟨p, 0, none⟩))), (6, .v (.pointer (some ⟨p, 0, none⟩)))] h19 (by kernel_rfl) ⟨by kernel_rfl, by kernel_rfl, by kernel_rfl, trivial⟩ (fun a20 h20 d20 => ?_)
  replace d20 := d20.trans d19
  clear h19 d19
  show Code.wp _ _ _ _ _
  refine wp_ret ?_
  exact ⟨d20, _, results_tmp rfl _ _ _, congrArg Ending.returned (h20.2 6 _ rfl), hI3, hF3⟩
set_option maxHeartbeats 8000000 in
set_option maxRecDepth 100000 in
theorem Lsh_one (p g c : Nat) (b : Bool) (x : Int) (hx : x ≠ 0) (hc : c < 3) (w : World) (hI : IB w p b (.slice (some ⟨g, 0, none⟩) 1 c)) (hw : Wd w g [x]) :
    Calls Try.prog 25 #[.pointer (some ⟨p, 0, none⟩), .pointer (some ⟨p, 0, none⟩), .int .u64 64] w fun e w' => e = .returned (.pointer (some ⟨p, 0, none⟩)) ∧ IB w' p b (.slice (some ⟨w.heap.size, 0, none⟩) 2 7) ∧ Wd w' w.heap.size [0, x, 0, 0, 0, 0, 0] ∧ Fr [p] w w' := by
  refine calls_of_wp Try.func25 rfl ?_
  have h0 := has_three (β := bn []) (.v (.pointer (some ⟨p, 0, none⟩))) (.v (.pointer (some ⟨p, 0, none⟩))) (.v (.int .u64 64)) 25
  have d0 : (⟨#[.pointer (some ⟨p, 0, none⟩), .pointer (some ⟨p, 0, none⟩), .int .u64 64] ++ Array.replicate 25 undef, []⟩ : Act).defers = [] := rfl
  refine wp_seq ?_
  refine wp_region ?_
  refine opsP (N := 28) (T := TT) (M := (fun _ _ => none)) tabOk (fun _ _ _ h => by cases h) [] [0] [(0, .v (.pointer (some ⟨p, 0, none⟩))), (1, .v (.pointer (some ⟨p, 0, none⟩))), (2, .v (.int .u64 64)), (6, .v (Value.pointer none))] h0 (by kernel_rfl) ⟨by kernel_rfl, by kernel_rfl, by kernel_rfl, by kernel_rfl, trivial⟩ (fun a1 h1 d1 => ?_)
  replace d1 := d1.trans d0
  clear h0 d0
  show Code.wp _ _ _ _ _
  refine wp_seq ?_
  refine start_ (S := fun V => IB V p b (.slice (some ⟨g, 0, none⟩) 1 c)) (ds := [13]) (n := 14) _ (by kernel_rfl) rfl rfl (hI) (fun hS2 => ?_)
  refine segP (S := fun V => IB V p b (.slice (some ⟨g, 0, none⟩) 1 c)) (ds := [13]) (T := TT) (M := fun _ _ => none) (N := 28) tabOk (fun _ _ _ _ _ h => by cases h) (fun _ _ _ _ hd h => And.intro (hd.trans (And.left h)) (And.right h)) hS2 [0, 1] 12 [(0, .v (.pointer (some ⟨p, 0, none⟩))), (1, .v (.pointer (some ⟨p, 0, none⟩))), (2, .v (.int .u64 64)), (6, .v (Value.pointer none)), (7, .v (.pointer (some ⟨p, 0, none⟩))), (8, .v (.pointer (some ⟨p, 0, none⟩)))] h1 (by kernel_rfl) (by kernel_rfl) ⟨by kernel_rfl, by kernel_rfl, by kernel_rfl, by kernel_rfl, by kernel_rfl, by kernel_rfl, trivial⟩ (fun a2 h2 d2 => ?_)
  replace d2 := d2.trans d1
  clear h1 d1
  refine segV (S := fun V => IB V p b (.slice (some ⟨g, 0, none⟩) 1 c)) (ds := [13]) (N := 28) (i := 2) (d := 9) (s := .v (.pointer (some ⟨p, 0, none⟩))) (fun _ _ _ _ hd h => And.intro (hd.trans (And.left h)) (And.right h)) hS2 h2 rfl rfl rfl (by decide) (by kernel_rfl) (fun W' hW => op_nilCheck rfl (h2.2 8 _ rfl)) (fun a3 h3 d3 => ?_)
  replace d3 := d3.trans d2
  clear h2 d2
  refine segV (S := fun V => IB V p b (.slice (some ⟨g, 0, none⟩) 1 c)) (ds := [13]) (N := 28) (i := 3) (d := 10) (s := .v (.pointer (some ⟨p, 1, none⟩))) (fun _ _ _ _ hd h => And.intro (hd.trans (And.left h)) (And.right h)) hS2 h3 rfl rfl rfl (by decide) (by kernel_rfl) (fun W' hW => op_fAbs rfl (h3.2 9 _ rfl)) (fun a4 h4 d4 => ?_)
  replace d4 := d4.trans d3
  clear h3 d3
  refine segV (S := fun V => IB V p b (.slice (some ⟨g, 0, none⟩) 1 c)) (ds := [13]) (N := 28) (i := 4) (d := 11) (s := .v (.slice (some ⟨g, 0, none⟩) 1 c)) (fun _ _ _ _ hd h => And.intro (hd.trans (And.left h)) (And.right h)) hS2 h4 rfl rfl rfl (by decide) (by kernel_rfl) (fun W' hW => op_load rfl (h4.2 10 _ rfl) Try.isAgg47 hW.abs) (fun a5 h5 d5 => ?_)
  replace d5 := d5.trans d4
  clear h4 d4
  refine segP (S := fun V => IB V p b (.slice (some ⟨g, 0, none⟩) 1 c)) (ds := [13]) (T := TT) (M := fun _ _ => none) (N := 28) tabOk (fun _ _ _ _ _ h => by cases h) (fun _ _ _ _ hd h => And.intro (hd.trans (And.left h)) (And.right h)) hS2 [5] 8 [(0, .v (.pointer (some ⟨p, 0, none⟩))), (1, .v (.pointer (some ⟨p, 0, none⟩))), (2, .v (.int .u64 64)), (6, .v (Value.pointer none)), (7, .v (.pointer (some ⟨p, 0, none⟩))), (8, .v (.pointer (some ⟨p, 0, none⟩))), (9, .v (.pointer (some ⟨p, 0, none⟩))), (10, .v (.pointer (some ⟨p, 1, none⟩))), (11, .v (.slice (some ⟨g, 0, none⟩) 1 c)), (12, .v (.pointer (some ⟨p, 0, none⟩)))] h5 (by kernel_rfl) (by kernel_rfl) ⟨by kernel_rfl, by kernel_rfl, by kernel_rfl, by kernel_rfl, by kernel_rfl, by kernel_rfl, by kernel_rfl, by kernel_rfl, by kernel_rfl, by kernel_rfl, trivial⟩ (fun a6 h6 d6 => ?_)
  replace d6 := d6.trans d5
  clear h5 d5
  refine segV (S := fun V => IB V p b (.slice (some ⟨g, 0, none⟩) 1 c)) (ds := [13]) (N := 28) (i := 6) (d := 13) (s := .v (.pointer (some ⟨p, 0, none⟩))) (fun _ _ _ _ hd h => And.intro (hd.trans (And.left h)) (And.right h)) hS2 h6 rfl rfl rfl (by decide) (by kernel_rfl) (fun W' hW => op_nilCheck rfl (h6.2 12 _ rfl)) (fun a7 h7 d7 => ?_)
  replace d7 := d7.trans d6
  clear h6 d6
  refine segV (S := fun V => IB V p b (.slice (some ⟨g, 0, none⟩) 1 c)) (ds := [13]) (N := 28) (i := 7) (d := 14) (s := .v (.pointer (some ⟨p, 1, none⟩))) (fun _ _ _ _ hd h => And.intro (hd.trans (And.left h)) (And.right h)) hS2 h7 rfl rfl rfl (by decide) (by kernel_rfl) (fun W' hW => op_fAbs rfl (h7.2 13 _ rfl)) (fun a8 h8 d8 => ?_)
  replace d8 := d8.trans d7
  clear h7 d7
  refine segV (S := fun V => IB V p b (.slice (some ⟨g, 0, none⟩) 1 c)) (ds := [13]) (N := 28) (i := 8) (d := 15) (s := .v (.slice (some ⟨g, 0, none⟩) 1 c)) (fun _ _ _ _ hd h => And.intro (hd.trans (And.left h)) (And.right h)) hS2 h8 rfl rfl rfl (by decide) (by kernel_rfl) (fun W' hW => op_load rfl (h8.2 14 _ rfl) Try.isAgg47 hW.abs) (fun a9 h9 d9 => ?_)
  replace d9 := d9.trans d8
  clear h8 d8
  refine segP (S := fun V => IB V p b (.slice (some ⟨g, 0, none⟩) 1 c)) (ds := [13]) (T := TT) (M := fun _ _ => none) (N := 28) tabOk (fun _ _ _ _ _ h => by cases h) (fun _ _ _ _ hd h => And.intro (hd.trans (And.left h)) (And.right h)) hS2 [9] 4 [(0, .v (.pointer (some ⟨p, 0, none⟩))), (1, .v (.pointer (some ⟨p, 0, none⟩))), (2, .v (.int .u64 64)), (6, .v (Value.pointer none)), (7, .v (.pointer (some ⟨p, 0, none⟩))), (8, .v (.pointer (some ⟨p, 0, none⟩))), (9, .v (.pointer (some ⟨p, 0, none⟩))), (10, .v (.pointer (some ⟨p, 1, none⟩))), (11, .v (.slice (some ⟨g, 0, none⟩) 1 c)), (12, .v (.pointer (some ⟨p, 0, none⟩))), (13, .v (.pointer (some ⟨p, 0, none⟩))), (14, .v (.pointer (some ⟨p, 1, none⟩))), (15, .v (.slice (some ⟨g, 0, none⟩) 1 c)), (16, .v (.int .u64 64))] h9 (by kernel_rfl) (by kernel_rfl) ⟨by kernel_rfl, by kernel_rfl, by kernel_rfl, by kernel_rfl, by kernel_rfl, by kernel_rfl, by kernel_rfl, by kernel_rfl, by kernel_rfl, by kernel_rfl, by kernel_rfl, by kernel_rfl, by kernel_rfl, by kernel_rfl, trivial⟩ (fun a10 h10 d10 => ?_)
  replace d10 := d10.trans d9
  clear h9 d9
  refine stepR (S := fun V => IB V p b (.slice (some ⟨g, 0, none⟩) 1 c)) (ds := [13]) (N := 28) (j := 10) (d := 17) (f := 39) (args := [.v (.slice (some ⟨g, 0, none⟩) 1 c), .v (.slice (some ⟨g, 0, none⟩) 1 c), .v (.int .u64 64)]) h10 (by kernel_rfl) (by kernel_rfl) Try.func39 rfl rfl (fun (v : Value) (W' : World) => v = .slice (some ⟨w.heap.size, 0, none⟩) 2 7 ∧ Wd W' w.heap.size [0, x, 0, 0, 0, 0, 0] ∧ Below w.heap.size w W') (fun v W' hh => hI.below hh.2.2) ((lsh_one g c x hx hc w.drew hw).mono fun e w' hh => ⟨_, hh.1, rfl, hh.2.1, ((Below.refl w.heap.size w).drew).trans hh.2.2⟩) (fun a11 v11 W11 h11 d11 hR11 => ?_)
  replace d11 := d11.trans d10
  clear h10 d10
  have hS11 : (fun V => IB V p b (.slice (some ⟨g, 0, none⟩) 1 c)) W11 := (fun (v : Value) (W' : World) (hh : (fun (v : Value) (W' : World) => v = .slice (some ⟨w.heap.size, 0, none⟩) 2 7 ∧ Wd W' w.heap.size [0, x, 0, 0, 0, 0, 0] ∧ Below w.heap.size w W') v W') => (show (fun V => IB V p b (.slice (some ⟨g, 0, none⟩) 1 c)) W' from hI.below hh.2.2)) _ _ hR11
  obtain ⟨rfl, hw1, hB⟩ := hR11
  have hI1 := hI.below hB
  have hF1 := Fr.ofBelow [p] hB
  have hne : w.heap.size ≠ p := fun e => by have := hI.lt; omega
  refine segV (S := fun V => IB V p b (.slice (some ⟨g, 0, none⟩) 1 c)) (ds := [13]) (N := 28) (i := 11) (d := 18) (s := .v (.pointer (some ⟨p, 0, none⟩))) (fun _ _ _ _ hd h => And.intro (hd.trans (And.left h)) (And.right h)) hS11 h11 rfl rfl rfl (by decide) (by kernel_rfl) (fun W' hW => op_nilCheck rfl (h11.2 7 _ rfl)) (fun a12 h12 d12 => ?_)
  replace d12 := d12.trans d11
  clear h11 d11
  refine segV (S := fun V => IB V p b (.slice (some ⟨g, 0, none⟩) 1 c)) (ds := [13]) (N := 28) (i := 12) (d := 19) (s := .v (.pointer (some ⟨p, 1, none⟩))) (fun _ _ _ _ hd h => And.intro (hd.trans (And.left h)) (And.right h)) hS11 h12 rfl rfl rfl (by decide) (by kernel_rfl) (fun W' hW => op_fAbs rfl (h12.2 18 _ rfl)) (fun a13 h13 d13 => ?_)
  replace d13 := d13.trans d12
  clear h12 d12
  refine last_ (i := 13) (N := none) #[true, true, true, true, true, true, true, true, true, true, true, true, true, true] rfl rfl (by kernel_rfl) (by simp) (fun K2 hK2 => ?_)
  refine skip_ (want_ rfl) rfl (store_cell rfl (h13.2 19 _ rfl) (h13.2 17 _ rfl) Try.sizeOf47 (hI1.frozen 1) hI1.abs) ?_
  refine hK2.out _ _ ?_
  refine done_ (by kernel_rfl) ?_
  show Code.wp _ _ _ _ _
  have hI2 := hI1.setAbs (.slice (some ⟨w.heap.size, 0, none⟩) 2 7)
  have hF2 := hF1.trans (Fr.setc p 1 (.slice (some ⟨w.heap.size, 0, none⟩) 2 7))
  have hw2 := hw1.on (Fr.setc p 1 (.slice (some ⟨w.heap.size, 0, none⟩) 2 7)) (by simpa using hne)
  refine wp_seq ?_
  refine wp_region ?_
  refine opsP (N := 28) (T := TT) (M := (fun _ _ => none)) tabOk (fun _ _ _ h => by cases h) [2, 3, 4, 5, 6, 7] [0, 1] [(0, .v (.pointer (some ⟨p, 0, none⟩))), (1, .v (.pointer (some ⟨p, 0, none⟩))), (6, .v (Value.pointer none)), (20, .v (.pointer (some ⟨p, 0, none⟩))), (21, .v (.pointer (some ⟨p, 0, none⟩)))] h13 (by kernel_rfl) ⟨by kernel_rfl, by kernel_rfl, by kernel_rfl, by kernel_rfl, by kernel_rfl, trivial⟩ (fun a14 h14 d14 => ?_)
  replace d14 := d14.trans d13
  clear h13 d13
  refine givenW_ops (N := 28) (i := 2) (d := 22) (s := .v (.pointer (some ⟨p, 0, none⟩))) (l := [3, 4, 5, 6, 7]) rfl (want_ rfl) rfl (by decide) h14 (op_nilCheck rfl (h14.2 21 _ rfl)) (fun a15 h15 d15 => ?_)
  replace d15 := d15.trans d14
  clear h14 d14
  refine givenW_ops (N := 28) (i := 3) (d := 23) (s := .v (.pointer (some ⟨p, 0, none⟩))) (l := [4, 5, 6, 7]) rfl (want_ rfl) rfl (by decide) h15 (op_fNeg rfl (h15.2 22 _ rfl)) (fun a16 h16 d16 => ?_)
  replace d16 := d16.trans d15
  clear h15 d15
  refine givenW_ops (N := 28) (i := 4) (d := 24) (s := .v (.bool b)) (l := [5, 6, 7]) rfl (want_ rfl) rfl (by decide) h16 (op_load rfl (h16.2 23 _ rfl) Try.isAgg4 hI2.neg) (fun a17 h17 d17 => ?_)
  replace d17 := d17.trans d16
  clear h16 d16
  refine givenW_ops (N := 28) (i := 5) (d := 25) (s := .v (.pointer (some ⟨p, 0, none⟩))) (l := [6, 7]) rfl (want_ rfl) rfl (by decide) h17 (op_nilCheck rfl (h17.2 20 _ rfl)) (fun a18 h18 d18 => ?_)
  replace d18 := d18.trans d17
  clear h17 d17
  refine givenW_ops (N := 28) (i := 6) (d := 26) (s := .v (.pointer (some ⟨p, 0, none⟩))) (l := [7]) rfl (want_ rfl) rfl (by decide) h18 (op_fNeg rfl (h18.2 25 _ rfl)) (fun a19 h19 d19 => ?_)
  replace d19 := d19.trans d18
  clear h18 d18
  refine st_ops (i := 7) (l := []) rfl rfl rfl (op_store rfl (h19.2 26 _ rfl) (h19.2 24 _ rfl) (Or.inr ⟨_, rfl⟩) Try.sizeOf4 hI2.neg (hI2.frozen 0)) ?_
  have hI3 := hI2.setNeg b
  have hF3 := hF2.trans (Fr.setc p 0 (.bool b))
  have hw3 := hw2.on (Fr.setc p 0 (.bool b)) (by simpa using hne)
  show Code.wp _ _ _ _ _
  refine wp_seq ?_
  refine wp_region ?_
  refine opsP (N := 28) (T := TT) (M := (fun _ _ => none)) tabOk (fun _ _ _ h => by cases h) [] [0, 1] [(0, .v (.pointer (some ⟨p, 0, none⟩))), (1, .v (.pointer (some ⟨p, 0, none⟩))), (6, .v (.pointer (some ⟨p, 0, none⟩)))] h19 (by kernel_rfl) ⟨by kernel_rfl, by kernel_rfl, by kernel_rfl, trivial⟩ (fun a20 h20 d20 => ?_)
  replace d20 := d20.trans d19
  clear h19 d19
  show Code.wp _ _ _ _ _
  refine wp_ret ?_
  exact ⟨d20, _, results_tmp rfl _ _ _, congrArg Ending.returned (h20.2 6 _ rfl), hI3, hw3, hF3⟩
end Go.Proofs.Ytjmgiodkfgdgnaa.PAll
namespace Go.Proofs.Ytjmgiodkfgdgnaa.PAll
open Go.RowKit Go.Proofs.YtjmgiodkfgdgnaaW.PrintWords Go.Proofs.YtjmgiodkfgdgnaaW.PrintLast Go.Proofs.YtjmgiodkfgdgnaaW.PrintMore
set_option linter.unusedVariables false
set_option linter.unusedSimpArgs false
set_option maxHeartbeats 8000000 in
set_option maxRecDepth 100000 in
theorem xor_a1 (g b : Nat) (x : Int) (y : Nat) (hx : x ≠ 0) (hlt : y < 18446744073709551616) (w : World) (hw : Wd w g [0, x, 0, 0, 0, 0, 0]) (hy : Wd w b [((y : Nat) : Int)]) :
    Calls Try.prog 42 #[.slice (some ⟨g, 0, none⟩) 2 7, .slice (some ⟨g, 0, none⟩) 2 7, .slice (some ⟨b, 0, none⟩) 1 1] w fun e w' => e = .returned (.slice (some ⟨g, 0, none⟩) 2 7) ∧ Wd w' g [((y : Nat) : Int), x, 0, 0, 0, 0, 0] ∧ Fr [g] w w' := by
  refine calls_of_wp Try.func42 rfl ?_
  have h0 := has_three (β := bn []) (.v (.slice (some ⟨g, 0, none⟩) 2 7)) (.v (.slice (some ⟨g, 0, none⟩) 2 7)) (.v (.slice (some ⟨b, 0, none⟩) 1 1)) 50
  have d0 : (⟨#[.slice (some ⟨g, 0, none⟩) 2 7, .slice (some ⟨g, 0, none⟩) 2 7, .slice (some ⟨b, 0, none⟩) 1 1] ++ Array.replicate 50 undef, []⟩ : Act).defers = [] := rfl
  refine wp_seq ?_
  refine wp_region ?_
  refine opsP (N := 53) (T := TT) (M := (fun _ _ => none)) tabOk (fun _ _ _ h => by cases h) [] [0] [(0, .v (.slice (some ⟨g, 0, none⟩) 2 7)), (1, .v (.slice (some ⟨g, 0, none⟩) 2 7)), (2, .v (.slice (some ⟨b, 0, none⟩) 1 1)), (6, .v (Value.slice none 0 0))] h0 (by kernel_rfl) ⟨by kernel_rfl, by kernel_rfl, by kernel_rfl, by kernel_rfl, trivial⟩ (fun a1 h1 d1 => ?_)
  replace d1 := d1.trans d0
  clear h0 d0
  show Code.wp _ _ _ _ _
  refine wp_seq ?_
  refine wp_region ?_
  refine opsP (N := 53) (T := TT) (M := (fun _ _ => none)) tabOk (fun _ _ _ h => by cases h) [1, 2] [0] [(0, .v (.slice (some ⟨g, 0, none⟩) 2 7)), (1, .v (.slice (some ⟨g, 0, none⟩) 2 7)), (2, .v (.slice (some ⟨b, 0, none⟩) 1 1)), (6, .v (Value.slice none 0 0)), (11, .v (.slice (some ⟨g, 0, none⟩) 2 7))] h1 (by kernel_rfl) ⟨by kernel_rfl, by kernel_rfl, by kernel_rfl, by kernel_rfl, by kernel_rfl, trivial⟩ (fun a2 h2 d2 => ?_)
  replace d2 := d2.trans d1
  clear h1 d1
  refine givenW_ops (N := 53) (i := 1) (d := 12) (s := .v (.int .i64 2)) (l := [2]) rfl (want_ rfl) rfl (by decide) h2 ((op_len rfl Try.underlying47 (h2.2 11 _ rfl)).trans rfl) (fun a3 h3 d3 => ?_)
  replace d3 := d3.trans d2
  clear h2 d2
  refine opsP (N := 53) (T := TT) (M := (fun _ _ => none)) tabOk (fun _ _ _ h => by cases h) [] [2] [(0, .v (.slice (some ⟨g, 0, none⟩) 2 7)), (1, .v (.slice (some ⟨g, 0, none⟩) 2 7)), (2, .v (.slice (some ⟨b, 0, none⟩) 1 1)), (6, .v (Value.slice none 0 0)), (7, .v (.int .i64 2))] h3 (by kernel_rfl) ⟨by kernel_rfl, by kernel_rfl, by kernel_rfl, by kernel_rfl, by kernel_rfl, trivial⟩ (fun a4 h4 d4 => ?_)
  replace d4 := d4.trans d3
  clear h3 d3
  show Code.wp _ _ _ _ _
  refine wp_seq ?_
  refine wp_region ?_
  refine opsP (N := 53) (T := TT) (M := (fun _ _ => none)) tabOk (fun _ _ _ h => by cases h) [1, 2] [0] [(0, .v (.slice (some ⟨g, 0, none⟩) 2 7)), (1, .v (.slice (some ⟨g, 0, none⟩) 2 7)), (2, .v (.slice (some ⟨b, 0, none⟩) 1 1)), (6, .v (Value.slice none 0 0)), (7, .v (.int .i64 2)), (13, .v (.slice (some ⟨b, 0, none⟩) 1 1))] h4 (by kernel_rfl) ⟨by kernel_rfl, by kernel_rfl, by kernel_rfl, by kernel_rfl, by kernel_rfl, by kernel_rfl, trivial⟩ (fun a5 h5 d5 => ?_)
  replace d5 := d5.trans d4
  clear h4 d4
  refine givenW_ops (N := 53) (i := 1) (d := 14) (s := .v (.int .i64 1)) (l := [2]) rfl (want_ rfl) rfl (by decide) h5 ((op_len rfl Try.underlying47 (h5.2 13 _ rfl)).trans rfl) (fun a6 h6 d6 => ?_)
  replace d6 := d6.trans d5
  clear h5 d5
  refine opsP (N := 53) (T := TT) (M := (fun _ _ => none)) tabOk (fun _ _ _ h => by cases h) [] [2] [(0, .v (.slice (some ⟨g, 0, none⟩) 2 7)), (1, .v (.slice (some ⟨g, 0, none⟩) 2 7)), (2, .v (.slice (some ⟨b, 0, none⟩) 1 1)), (6, .v (Value.slice none 0 0)), (7, .v (.int .i64 2)), (8, .v (.int .i64 1))] h6 (by kernel_rfl) ⟨by kernel_rfl, by kernel_rfl, by kernel_rfl, by kernel_rfl, by kernel_rfl, by kernel_rfl, trivial⟩ (fun a7 h7 d7 => ?_)
  replace d7 := d7.trans d6
  clear h6 d6
  show Code.wp _ _ _ _ _
  refine wp_seq ?_
  refine wp_region ?_
  refine opsP (N := 53) (T := TT) (M := (fun _ _ => none)) tabOk (fun _ _ _ h => by cases h) [] [0, 1] [(0, .v (.slice (some ⟨g, 0, none⟩) 2 7)), (1, .v (.slice (some ⟨g, 0, none⟩) 2 7)), (2, .v (.slice (some ⟨b, 0, none⟩) 1 1)), (6, .v (Value.slice none 0 0)), (7, .v (.int .i64 2)), (8, .v (.int .i64 1)), (9, .v (.slice (some ⟨g, 0, none⟩) 2 7))] h7 (by kernel_rfl) ⟨by kernel_rfl, by kernel_rfl, by kernel_rfl, by kernel_rfl, by kernel_rfl, by kernel_rfl, by kernel_rfl, trivial⟩ (fun a8 h8 d8 => ?_)
  replace d8 := d8.trans d7
  clear h7 d7
  show Code.wp _ _ _ _ _
  refine wp_seq ?_
  refine wp_seq ?_
  refine wp_region ?_
  refine opsP (N := 53) (T := TT) (M := (fun _ _ => none)) tabOk (fun _ _ _ h => by cases h) [] [0, 1, 2] [(0, .v (.slice (some ⟨g, 0, none⟩) 2 7)), (1, .v (.slice (some ⟨g, 0, none⟩) 2 7)), (2, .v (.slice (some ⟨b, 0, none⟩) 1 1)), (6, .v (Value.slice none 0 0)), (7, .v (.int .i64 2)), (8, .v (.int .i64 1)), (9, .v (.slice (some ⟨g, 0, none⟩) 2 7)), (18, .v (.bool false))] h8 (by kernel_rfl) ⟨by kernel_rfl, by kernel_rfl, by kernel_rfl, by kernel_rfl, by kernel_rfl, by kernel_rfl, by kernel_rfl, by kernel_rfl, trivial⟩ (fun a9 h9 d9 => ?_)
  replace d9 := d9.trans d8
  clear h8 d8
  show Code.wp _ _ _ _ _
  refine wp_cond_false (h9.2 18 _ rfl) ?_
  refine wp_skip ?_
  show Code.wp _ _ _ _ _
  refine wp_seq ?_
  refine wp_region ?_
  refine opsP (N := 53) (T := TT) (M := (fun _ _ => none)) tabOk (fun _ _ _ h => by cases h) [2, 3] [0, 1] [(0, .v (.slice (some ⟨g, 0, none⟩) 2 7)), (1, .v (.slice (some ⟨g, 0, none⟩) 2 7)), (2, .v (.slice (some ⟨b, 0, none⟩) 1 1)), (6, .v (Value.slice none 0 0)), (7, .v (.int .i64 2)), (8, .v (.int .i64 1)), (9, .v (.slice (some ⟨g, 0, none⟩) 2 7)), (18, .v (.bool false)), (22, .v (.slice (some ⟨g, 0, none⟩) 2 7)), (23, .v (.int .i64 2))] h9 (by kernel_rfl) ⟨by kernel_rfl, by kernel_rfl, by kernel_rfl, by kernel_rfl, by kernel_rfl, by kernel_rfl, by kernel_rfl, by kernel_rfl, by kernel_rfl, by kernel_rfl, trivial⟩ (fun a10 h10 d10 => ?_)
  replace d10 := d10.trans d9
  clear h9 d9
  refine callW_ops (N := 53) (i := 2) (d := 24) (f := 44) (args := [.v (.slice (some ⟨g, 0, none⟩) 2 7), .v (.int .i64 2)]) (l := [3]) rfl (want_ rfl) rfl (by decide) h10 Try.func44 rfl rfl rfl (by kernel_rfl) (fun v W' => v = .slice (some ⟨g, 0, none⟩) 2 7 ∧ W' = w) ((make_keep (some ⟨g, 0, none⟩) 2 2 7 (by decide) w).mono fun e w' hh => ⟨_, hh.1, rfl, hh.2⟩) (fun v11 W11 a11 hR11 h11 d11 => ?_)
  replace d11 := d11.trans d10
  clear h10 d10
  obtain ⟨rfl, e1⟩ := hR11
  obtain rfl := e1.symm
  refine opsP (N := 53) (T := TT) (M := (fun _ _ => none)) tabOk (fun _ _ _ h => by cases h) [] [3] [(0, .v (.slice (some ⟨g, 0, none⟩) 2 7)), (1, .v (.slice (some ⟨g, 0, none⟩) 2 7)), (2, .v (.slice (some ⟨b, 0, none⟩) 1 1)), (6, .v (Value.slice none 0 0)), (7, .v (.int .i64 2)), (8, .v (.int .i64 1)), (9, .v (.slice (some ⟨g, 0, none⟩) 2 7)), (18, .v (.bool false))] h11 (by kernel_rfl) ⟨by kernel_rfl, by kernel_rfl, by kernel_rfl, by kernel_rfl, by kernel_rfl, by kernel_rfl, by kernel_rfl, by kernel_rfl, trivial⟩ (fun a12 h12 d12 => ?_)
  replace d12 := d12.trans d11
  clear h11 d11
  show Code.wp _ _ _ _ _
  refine wp_seq ?_
  refine wp_seq ?_
  refine wp_region ?_
  refine opsP (N := 53) (T := TT) (M := (fun _ _ => none)) tabOk (fun _ _ _ h => by cases h) [] [0] [(0, .v (.slice (some ⟨g, 0, none⟩) 2 7)), (1, .v (.slice (some ⟨g, 0, none⟩) 2 7)), (2, .v (.slice (some ⟨b, 0, none⟩) 1 1)), (6, .v (Value.slice none 0 0)), (7, .v (.int .i64 2)), (8, .v (.int .i64 1)), (9, .v (.slice (some ⟨g, 0, none⟩) 2 7)), (10, .v (.int .i64 0)), (18, .v (.bool false))] h12 (by kernel_rfl) ⟨by kernel_rfl, by kernel_rfl, by kernel_rfl, by kernel_rfl, by kernel_rfl, by kernel_rfl, by kernel_rfl, by kernel_rfl, by kernel_rfl, trivial⟩ (fun a13 h13 d13 => ?_)
  replace d13 := d13.trans d12
  clear h12 d12
  show Code.wp _ _ _ _ _
  refine wp_block ?_
  refine wp_loop_rounds 2 ?_
  rw [rounds_succ]
  refine wp_seq ?_
  refine wp_seq ?_
  refine wp_region ?_
  refine opsP (N := 53) (T := TT) (M := (fun _ _ => none)) tabOk (fun _ _ _ h => by cases h) [] [0, 1, 2] [(0, .v (.slice (some ⟨g, 0, none⟩) 2 7)), (1, .v (.slice (some ⟨g, 0, none⟩) 2 7)), (2, .v (.slice (some ⟨b, 0, none⟩) 1 1)), (6, .v (Value.slice none 0 0)), (7, .v (.int .i64 2)), (8, .v (.int .i64 1)), (9, .v (.slice (some ⟨g, 0, none⟩) 2 7)), (10, .v (.int .i64 0)), (18, .v (.bool false)), (27, .v (.bool true))] h13 (by kernel_rfl) ⟨by kernel_rfl, by kernel_rfl, by kernel_rfl, by kernel_rfl, by kernel_rfl, by kernel_rfl, by kernel_rfl, by kernel_rfl, by kernel_rfl, by kernel_rfl, trivial⟩ (fun a14 h14 d14 => ?_)
  replace d14 := d14.trans d13
  clear h13 d13
  show Code.wp _ _ _ _ _
  refine wp_cond_true (h14.2 27 _ rfl) ?_
  refine wp_skip ?_
  show Code.wp _ _ _ _ _
  refine wp_seq ?_
  refine wp_block ?_
  refine start_ (S := fun V => Wd V g [0, x, 0, 0, 0, 0, 0] ∧ Wd V b [((y : Nat) : Int)]) (ds := [12]) (n := 13) _ (by kernel_rfl) rfl rfl (⟨hw, hy⟩) (fun hS15 => ?_)
  refine segP (S := fun V => Wd V g [0, x, 0, 0, 0, 0, 0] ∧ Wd V b [((y : Nat) : Int)]) (ds := [12]) (T := TT) (M := fun _ _ => none) (N := 53) tabOk (fun _ _ _ _ _ h => by cases h) (fun _ _ _ _ hd h => And.intro (hd.trans (And.left h)) (And.right h)) hS15 [0, 1, 2, 3] 9 [(0, .v (.slice (some ⟨g, 0, none⟩) 2 7)), (1, .v (.slice (some ⟨g, 0, none⟩) 2 7)), (2, .v (.slice (some ⟨b, 0, none⟩) 1 1)), (6, .v (Value.slice none 0 0)), (7, .v (.int .i64 2)), (8, .v (.int .i64 1)), (9, .v (.slice (some ⟨g, 0, none⟩) 2 7)), (10, .v (.int .i64 0)), (18, .v (.bool false)), (27, .v (.bool true)), (30, .v (.slice (some ⟨g, 0, none⟩) 2 7)), (31, .v (.int .i64 0)), (32, .v (.slice (some ⟨g, 0, none⟩) 2 7)), (33, .v (.int .i64 0))] h14 (by kernel_rfl) (by kernel_rfl) ⟨by kernel_rfl, by kernel_rfl, by kernel_rfl, by kernel_rfl, by kernel_rfl, by kernel_rfl, by kernel_rfl, by kernel_rfl, by kernel_rfl, by kernel_rfl, by kernel_rfl, by kernel_rfl, by kernel_rfl, by kernel_rfl, trivial⟩ (fun a15 h15 d15 => ?_)
  replace d15 := d15.trans d14
  clear h14 d14
  refine segV (S := fun V => Wd V g [0, x, 0, 0, 0, 0, 0] ∧ Wd V b [((y : Nat) : Int)]) (ds := [12]) (N := 53) (i := 4) (d := 34) (s := .v (.pointer (some ⟨g, 0, none⟩))) (fun _ _ _ _ hd h => And.intro (hd.trans (And.left h)) (And.right h)) hS15 h15 rfl rfl rfl (by decide) (by kernel_rfl) (fun W' hW => (op_indexE (j := 0) rfl (h15.2 32 _ rfl) (h15.2 33 _ rfl) Try.underlying47 Try.sizeOf70 (by decide)).trans rfl) (fun a16 h16 d16 => ?_)
  replace d16 := d16.trans d15
  clear h15 d15
  refine segV (S := fun V => Wd V g [0, x, 0, 0, 0, 0, 0] ∧ Wd V b [((y : Nat) : Int)]) (ds := [12]) (N := 53) (i := 5) (d := 35) (s := .v (.int .u64 0)) (fun _ _ _ _ hd h => And.intro (hd.trans (And.left h)) (And.right h)) hS15 h16 rfl rfl rfl (by decide) (by kernel_rfl) (fun W' hW => op_load rfl (h16.2 34 _ rfl) Try.isAgg70 (hW.1.cell (i := 0) (by simp))) (fun a17 h17 d17 => ?_)
  replace d17 := d17.trans d16
  clear h16 d16
  refine segP (S := fun V => Wd V g [0, x, 0, 0, 0, 0, 0] ∧ Wd V b [((y : Nat) : Int)]) (ds := [12]) (T := TT) (M := fun _ _ => none) (N := 53) tabOk (fun _ _ _ _ _ h => by cases h) (fun _ _ _ _ hd h => And.intro (hd.trans (And.left h)) (And.right h)) hS15 [6, 7] 5 [(0, .v (.slice (some ⟨g, 0, none⟩) 2 7)), (1, .v (.slice (some ⟨g, 0, none⟩) 2 7)), (2, .v (.slice (some ⟨b, 0, none⟩) 1 1)), (6, .v (Value.slice none 0 0)), (7, .v (.int .i64 2)), (8, .v (.int .i64 1)), (9, .v (.slice (some ⟨g, 0, none⟩) 2 7)), (10, .v (.int .i64 0)), (18, .v (.bool false)), (27, .v (.bool true)), (30, .v (.slice (some ⟨g, 0, none⟩) 2 7)), (31, .v (.int .i64 0)), (32, .v (.slice (some ⟨g, 0, none⟩) 2 7)), (33, .v (.int .i64 0)), (34, .v (.pointer (some ⟨g, 0, none⟩))), (35, .v (.int .u64 0)), (36, .v (.slice (some ⟨b, 0, none⟩) 1 1)), (37, .v (.int .i64 0))] h17 (by kernel_rfl) (by kernel_rfl) ⟨by kernel_rfl, by kernel_rfl, by kernel_rfl, by kernel_rfl, by kernel_rfl, by kernel_rfl, by kernel_rfl, by kernel_rfl, by kernel_rfl, by kernel_rfl, by kernel_rfl, by kernel_rfl, by kernel_rfl, by kernel_rfl, by kernel_rfl, by kernel_rfl, by kernel_rfl, by kernel_rfl, trivial⟩ (fun a18 h18 d18 => ?_)
  replace d18 := d18.trans d17
  clear h17 d17
  refine segV (S := fun V => Wd V g [0, x, 0, 0, 0, 0, 0] ∧ Wd V b [((y : Nat) : Int)]) (ds := [12]) (N := 53) (i := 8) (d := 38) (s := .v (.pointer (some ⟨b, 0, none⟩))) (fun _ _ _ _ hd h => And.intro (hd.trans (And.left h)) (And.right h)) hS15 h18 rfl rfl rfl (by decide) (by kernel_rfl) (fun W' hW => (op_indexE (j := 0) rfl (h18.2 36 _ rfl) (h18.2 37 _ rfl) Try.underlying47 Try.sizeOf70 (by decide)).trans rfl) (fun a19 h19 d19 => ?_)
  replace d19 := d19.trans d18
  clear h18 d18
  refine segV (S := fun V => Wd V g [0, x, 0, 0, 0, 0, 0] ∧ Wd V b [((y : Nat) : Int)]) (ds := [12]) (N := 53) (i := 9) (d := 39) (s := .v (.int .u64 ((y : Nat) : Int))) (fun _ _ _ _ hd h => And.intro (hd.trans (And.left h)) (And.right h)) hS15 h19 rfl rfl rfl (by decide) (by kernel_rfl) (fun W' hW => op_load rfl (h19.2 38 _ rfl) Try.isAgg70 (hW.2.cell (i := 0) (by simp))) (fun a20 h20 d20 => ?_)
  replace d20 := d20.trans d19
  clear h19 d19
  refine segP (S := fun V => Wd V g [0, x, 0, 0, 0, 0, 0] ∧ Wd V b [((y : Nat) : Int)]) (ds := [12]) (T := TT) (M := fun _ _ => none) (N := 53) tabOk (fun _ _ _ _ _ h => by cases h) (fun _ _ _ _ hd h => And.intro (hd.trans (And.left h)) (And.right h)) hS15 [10] 2 [(0, .v (.slice (some ⟨g, 0, none⟩) 2 7)), (1, .v (.slice (some ⟨g, 0, none⟩) 2 7)), (2, .v (.slice (some ⟨b, 0, none⟩) 1 1)), (6, .v (Value.slice none 0 0)), (7, .v (.int .i64 2)), (8, .v (.int .i64 1)), (9, .v (.slice (some ⟨g, 0, none⟩) 2 7)), (10, .v (.int .i64 0)), (18, .v (.bool false)), (27, .v (.bool true)), (30, .v (.slice (some ⟨g, 0, none⟩) 2 7)), (31, .v (.int .i64 0)), (32, .v (.slice (some ⟨g, 0, none⟩) 2 7)), (33, .v (.int .i64 0)), (34, .v (.pointer (some ⟨g, 0, none⟩))), (35, .v (.int .u64 0)), (36, .v (.slice (some ⟨b, 0, none⟩) 1 1)), (37, .v (.int .i64 0)), (38, .v (.pointer (some ⟨b, 0, none⟩))), (39, .v (.int .u64 ((y : Nat) : Int))), (40, .v (.int .u64 (Go.bits .xor .u64 0 ((y : Nat) : Int))))] h20 (by kernel_rfl) (by kernel_rfl) ⟨by kernel_rfl, by kernel_rfl, by kernel_rfl, by kernel_rfl, by kernel_rfl, by kernel_rfl, by kernel_rfl, by kernel_rfl, by kernel_rfl, by kernel_rfl, by kernel_rfl, by kernel_rfl, by kernel_rfl, by kernel_rfl, by kernel_rfl, by kernel_rfl, by kernel_rfl, by kernel_rfl, by kernel_rfl, by kernel_rfl, by kernel_rfl, trivial⟩ (fun a21 h21 d21 => ?_)
  replace d21 := d21.trans d20
  clear h20 d20
  refine segV (S := fun V => Wd V g [0, x, 0, 0, 0, 0, 0] ∧ Wd V b [((y : Nat) : Int)]) (ds := [12]) (N := 53) (i := 11) (d := 41) (s := .v (.pointer (some ⟨g, 0, none⟩))) (fun _ _ _ _ hd h => And.intro (hd.trans (And.left h)) (And.right h)) hS15 h21 rfl rfl rfl (by decide) (by kernel_rfl) (fun W' hW => (op_indexE (j := 0) rfl (h21.2 30 _ rfl) (h21.2 31 _ rfl) Try.underlying47 Try.sizeOf70 (by decide)).trans rfl) (fun a22 h22 d22 => ?_)
  replace d22 := d22.trans d21
  clear h21 d21
  rw [xor0 y hlt] at h22
  refine last_ (i := 12) (N := none) #[true, true, true, true, true, true, true, true, true, true, true, true, true] rfl rfl (by kernel_rfl) (by simp) (fun K2 hK2 => ?_)
  refine skip_ (want_ rfl) rfl (op_store rfl (h22.2 41 _ rfl) (h22.2 40 _ rfl) (Or.inl ⟨_, _, rfl⟩) Try.sizeOf70 (hw.cell (i := 0) (by simp)) (hw.frozen 0)) ?_
  refine hK2.out _ _ ?_
  refine done_ (by kernel_rfl) ?_
  show Code.wp _ _ _ _ _
  have hw1 : Wd _ g [((y : Nat) : Int), x, 0, 0, 0, 0, 0] := hw.set 0 ((y : Nat) : Int)
  have hF1 := ((Fr.refl [g] w).drew).trans (Fr.setc g 0 (.int .u64 ((y : Nat) : Int)))
  refine wp_region ?_
  refine opsP (N := 53) (T := TT) (M := (fun _ _ => none)) tabOk (fun _ _ _ h => by cases h) [] [0, 1, 2] [(0, .v (.slice (some ⟨g, 0, none⟩) 2 7)), (1, .v (.slice (some ⟨g, 0, none⟩) 2 7)), (2, .v (.slice (some ⟨b, 0, none⟩) 1 1)), (6, .v (Value.slice none 0 0)), (7, .v (.int .i64 2)), (8, .v (.int .i64 1)), (9, .v (.slice (some ⟨g, 0, none⟩) 2 7)), (10, .v (.int .i64 1)), (18, .v (.bool false)), (27, .v (.bool true))] h22 (by kernel_rfl) ⟨by kernel_rfl, by kernel_rfl, by kernel_rfl, by kernel_rfl, by kernel_rfl, by kernel_rfl, by kernel_rfl, by kernel_rfl, by kernel_rfl, by kernel_rfl, trivial⟩ (fun a23 h23 d23 => ?_)
  replace d23 := d23.trans d22
  clear h22 d22
  show Code.rounds _ _ _ _ _ _
  rw [rounds_succ]
  refine wp_seq ?_
  refine wp_seq ?_
  refine wp_region ?_
  refine opsP (N := 53) (T := TT) (M := (fun _ _ => none)) tabOk (fun _ _ _ h => by cases h) [] [0, 1, 2] [(0, .v (.slice (some ⟨g, 0, none⟩) 2 7)), (1, .v (.slice (some ⟨g, 0, none⟩) 2 7)), (2, .v (.slice (some ⟨b, 0, none⟩) 1 1)), (6, .v (Value.slice none 0 0)), (7, .v (.int .i64 2)), (8, .v (.int .i64 1)), (9, .v (.slice (some ⟨g, 0, none⟩) 2 7)), (10, .v (.int .i64 1)), (18, .v (.bool false)), (27, .v (.bool false))] h23 (by kernel_rfl) ⟨by kernel_rfl, by kernel_rfl, by kernel_rfl, by kernel_rfl, by kernel_rfl, by kernel_rfl, by kernel_rfl, by kernel_rfl, by kernel_rfl, by kernel_rfl, trivial⟩ (fun a24 h24 d24 => ?_)
  replace d24 := d24.trans d23
  clear h23 d23
  show Code.wp _ _ _ _ _
  refine wp_cond_false (h24.2 27 _ rfl) ?_
  refine wp_exit ?_
  refine then_exit (then_exit ?_)
  refine exit_in ?_
  show Code.wp _ _ _ _ _
  refine wp_seq ?_
  refine start_ (S := fun _ => True) (ds := []) (n := 9) _ (by kernel_rfl) rfl rfl (trivial) (fun hS25 => ?_)
  refine segP (S := fun _ => True) (ds := []) (T := TT) (M := fun _ _ => none) (N := 53) tabOk (fun _ _ _ _ _ h => by cases h) (fun _ _ _ _ hd h => And.intro (hd.trans (And.left h)) (And.right h)) hS25 [0, 1, 2] 6 [(0, .v (.slice (some ⟨g, 0, none⟩) 2 7)), (1, .v (.slice (some ⟨g, 0, none⟩) 2 7)), (2, .v (.slice (some ⟨b, 0, none⟩) 1 1)), (6, .v (Value.slice none 0 0)), (7, .v (.int .i64 2)), (8, .v (.int .i64 1)), (9, .v (.slice (some ⟨g, 0, none⟩) 2 7)), (10, .v (.int .i64 1)), (18, .v (.bool false)), (27, .v (.bool false)), (42, .v (.slice (some ⟨g, 0, none⟩) 2 7)), (43, .v (.int .i64 1)), (44, .v (.int .i64 2))] h24 (by kernel_rfl) (by kernel_rfl) ⟨by kernel_rfl, by kernel_rfl, by kernel_rfl, by kernel_rfl, by kernel_rfl, by kernel_rfl, by kernel_rfl, by kernel_rfl, by kernel_rfl, by kernel_rfl, by kernel_rfl, by kernel_rfl, by kernel_rfl, trivial⟩ (fun a25 h25 d25 => ?_)
  replace d25 := d25.trans d24
  clear h24 d24
  refine segV (S := fun _ => True) (ds := []) (N := 53) (i := 3) (d := 45) (s := .v (.slice (some ⟨g, 1, none⟩) 1 6)) (fun _ _ _ _ hd h => And.intro (hd.trans (And.left h)) (And.right h)) hS25 h25 rfl rfl rfl (by decide) (by kernel_rfl) (fun W' hW => (op_sllh (l := 1) (h := 2) rfl sltNat (h25.2 42 _ rfl) (h25.2 43 _ rfl) (h25.2 44 _ rfl) (by decide) (by decide)).trans rfl) (fun a26 h26 d26 => ?_)
  replace d26 := d26.trans d25
  clear h25 d25
  refine segP (S := fun _ => True) (ds := []) (T := TT) (M := fun _ _ => none) (N := 53) tabOk (fun _ _ _ _ _ h => by cases h) (fun _ _ _ _ hd h => And.intro (hd.trans (And.left h)) (And.right h)) hS25 [4, 5, 6] 2 [(0, .v (.slice (some ⟨g, 0, none⟩) 2 7)), (1, .v (.slice (some ⟨g, 0, none⟩) 2 7)), (2, .v (.slice (some ⟨b, 0, none⟩) 1 1)), (6, .v (Value.slice none 0 0)), (7, .v (.int .i64 2)), (8, .v (.int .i64 1)), (9, .v (.slice (some ⟨g, 0, none⟩) 2 7)), (10, .v (.int .i64 1)), (18, .v (.bool false)), (27, .v (.bool false)), (42, .v (.slice (some ⟨g, 0, none⟩) 2 7)), (43, .v (.int .i64 1)), (44, .v (.int .i64 2)), (45, .v (.slice (some ⟨g, 1, none⟩) 1 6)), (46, .v (.slice (some ⟨g, 0, none⟩) 2 7)), (47, .v (.int .i64 1)), (48, .v (.int .i64 2))] h26 (by kernel_rfl) (by kernel_rfl) ⟨by kernel_rfl, by kernel_rfl, by kernel_rfl, by kernel_rfl, by kernel_rfl, by kernel_rfl, by kernel_rfl, by kernel_rfl, by kernel_rfl, by kernel_rfl, by kernel_rfl, by kernel_rfl, by kernel_rfl, by kernel_rfl, by kernel_rfl, by kernel_rfl, by kernel_rfl, trivial⟩ (fun a27 h27 d27 => ?_)
  replace d27 := d27.trans d26
  clear h26 d26
  refine segV (S := fun _ => True) (ds := []) (N := 53) (i := 7) (d := 49) (s := .v (.slice (some ⟨g, 1, none⟩) 1 6)) (fun _ _ _ _ hd h => And.intro (hd.trans (And.left h)) (And.right h)) hS25 h27 rfl rfl rfl (by decide) (by kernel_rfl) (fun W' hW => (op_sllh (l := 1) (h := 2) rfl sltNat (h27.2 46 _ rfl) (h27.2 47 _ rfl) (h27.2 48 _ rfl) (by decide) (by decide)).trans rfl) (fun a28 h28 d28 => ?_)
  replace d28 := d28.trans d27
  clear h27 d27
  have hw2 := fun V (h : Wd V g [((y : Nat) : Int), x, 0, 0, 0, 0, 0]) => (wd_wdW h (layW [((y : Nat) : Int), x, 0, 0, 0, 0, 0] 1 [x]) : Wd _ g [((y : Nat) : Int), x, 0, 0, 0, 0, 0])
  have hS29 : (fun _ => True) (wdW (((World.setCell (w).drew ⟨g, 0, none⟩ (.int .u64 ((y : Nat) : Int)))).drew) g (layW [((y : Nat) : Int), x, 0, 0, 0, 0, 0] 1 [x])) := trivial
  refine stepN (S := fun _ => True) (ds := []) (N := 53) (j := 8) (d := 50) h28 rfl rfl rfl (by decide) (by kernel_rfl) (op_cpw (xs := [x]) rfl sltNat (h28.2 45 _ rfl) (h28.2 49 _ rfl) hw1 rfl (hw1.src 1 1) (by simp)) hS29 (fun a29 h29 d29 => ?_)
  replace d29 := d29.trans d28
  clear h28 d28
  have hw3 : Wd _ g [((y : Nat) : Int), x, 0, 0, 0, 0, 0] := hw2 (((World.setCell (w).drew ⟨g, 0, none⟩ (.int .u64 ((y : Nat) : Int)))).drew) hw1
  refine done_ (by kernel_rfl) ?_
  show Code.wp _ _ _ _ _
  refine wp_seq ?_
  refine wp_region ?_
  refine opsP (N := 53) (T := TT) (M := (fun _ _ => none)) tabOk (fun _ _ _ h => by cases h) [1, 2] [0] [(0, .v (.slice (some ⟨g, 0, none⟩) 2 7)), (1, .v (.slice (some ⟨g, 0, none⟩) 2 7)), (2, .v (.slice (some ⟨b, 0, none⟩) 1 1)), (6, .v (Value.slice none 0 0)), (7, .v (.int .i64 2)), (8, .v (.int .i64 1)), (10, .v (.int .i64 1)), (18, .v (.bool false)), (27, .v (.bool false)), (51, .v (.slice (some ⟨g, 0, none⟩) 2 7))] h29 (by kernel_rfl) ⟨by kernel_rfl, by kernel_rfl, by kernel_rfl, by kernel_rfl, by kernel_rfl, by kernel_rfl, by kernel_rfl, by kernel_rfl, by kernel_rfl, by kernel_rfl, trivial⟩ (fun a30 h30 d30 => ?_)
  replace d30 := d30.trans d29
  clear h29 d29
  have ht : topN [((y : Nat) : Int), x, 0, 0, 0, 0, 0] 2 = 2 := by simp [topN, hx]
  have hF3 := hF1.drew.trans (fr_wdW _ g (layW [((y : Nat) : Int), x, 0, 0, 0, 0, 0] 1 [x]))
  refine callW_ops (N := 53) (i := 1) (d := 52) (f := 46) (args := [.v (.slice (some ⟨g, 0, none⟩) 2 7)]) (l := [2]) rfl (want_ rfl) rfl (by decide) h30 Try.func46 rfl rfl rfl (by kernel_rfl) (fun (v : Value) (w' : World) => v = .slice (some ⟨g, 0, none⟩) 2 7 ∧ Wd w' g [((y : Nat) : Int), x, 0, 0, 0, 0, 0] ∧ Fr [g] w w') ((norm_walk g 2 7 _ _ hw3 (by simp) (by decide) (by decide)).mono fun e w' hh => ⟨_, hh.1.trans (by rw [ht]), rfl, hh.2 ▸ hw3, hh.2 ▸ hF3⟩) (fun v31 W31 a31 hR31 h31 d31 => ?_)
  replace d31 := d31.trans d30
  clear h30 d30
  obtain ⟨rfl, hw5, hF5⟩ := hR31
  refine opsP (N := 53) (T := TT) (M := (fun _ _ => none)) tabOk (fun _ _ _ h => by cases h) [] [2] [(0, .v (.slice (some ⟨g, 0, none⟩) 2 7)), (1, .v (.slice (some ⟨g, 0, none⟩) 2 7)), (2, .v (.slice (some ⟨b, 0, none⟩) 1 1)), (6, .v (.slice (some ⟨g, 0, none⟩) 2 7)), (7, .v (.int .i64 2)), (8, .v (.int .i64 1)), (10, .v (.int .i64 1)), (18, .v (.bool false)), (27, .v (.bool false))] h31 (by kernel_rfl) ⟨by kernel_rfl, by kernel_rfl, by kernel_rfl, by kernel_rfl, by kernel_rfl, by kernel_rfl, by kernel_rfl, by kernel_rfl, by kernel_rfl, trivial⟩ (fun a32 h32 d32 => ?_)
  replace d32 := d32.trans d31
  clear h31 d31
  show Code.wp _ _ _ _ _
  refine wp_ret ?_
  exact ⟨d32, _, results_tmp rfl _ _ _, congrArg Ending.returned (h32.2 6 _ rfl), hw5, hF5⟩
set_option maxHeartbeats 8000000 in
set_option maxRecDepth 100000 in
theorem xor_a0 (g : Nat) (x : Int) (hx : x ≠ 0) (w : World) (hw : Wd w g [0, x, 0, 0, 0, 0, 0]) :
    Calls Try.prog 42 #[.slice (some ⟨g, 0, none⟩) 2 7, .slice (some ⟨g, 0, none⟩) 2 7, .slice none 0 0] w fun e w' => e = .returned (.slice (some ⟨g, 0, none⟩) 2 7) ∧ Wd w' g [0, x, 0, 0, 0, 0, 0] ∧ Fr [g] w w' := by
  refine calls_of_wp Try.func42 rfl ?_
  have h0 := has_three (β := bn []) (.v (.slice (some ⟨g, 0, none⟩) 2 7)) (.v (.slice (some ⟨g, 0, none⟩) 2 7)) (.v (.slice none 0 0)) 50
  have d0 : (⟨#[.slice (some ⟨g, 0, none⟩) 2 7, .slice (some ⟨g, 0, none⟩) 2 7, .slice none 0 0] ++ Array.replicate 50 undef, []⟩ : Act).defers = [] := rfl
  refine wp_seq ?_
  refine wp_region ?_
  refine opsP (N := 53) (T := TT) (M := (fun _ _ => none)) tabOk (fun _ _ _ h => by cases h) [] [0] [(0, .v (.slice (some ⟨g, 0, none⟩) 2 7)), (1, .v (.slice (some ⟨g, 0, none⟩) 2 7)), (2, .v (.slice none 0 0)), (6, .v (Value.slice none 0 0))] h0 (by kernel_rfl) ⟨by kernel_rfl, by kernel_rfl, by kernel_rfl, by kernel_rfl, trivial⟩ (fun a1 h1 d1 => ?_)
  replace d1 := d1.trans d0
  clear h0 d0
  show Code.wp _ _ _ _ _
  refine wp_seq ?_
  refine wp_region ?_
  refine opsP (N := 53) (T := TT) (M := (fun _ _ => none)) tabOk (fun _ _ _ h => by cases h) [1, 2] [0] [(0, .v (.slice (some ⟨g, 0, none⟩) 2 7)), (1, .v (.slice (some ⟨g, 0, none⟩) 2 7)), (2, .v (.slice none 0 0)), (6, .v (Value.slice none 0 0)), (11, .v (.slice (some ⟨g, 0, none⟩) 2 7))] h1 (by kernel_rfl) ⟨by kernel_rfl, by kernel_rfl, by kernel_rfl, by kernel_rfl, by kernel_rfl, trivial⟩ (fun a2 h2 d2 => ?_)
  replace d2 := d2.trans d1
  clear h1 d1
  refine givenW_ops (N := 53) (i := 1) (d := 12) (s := .v (.int .i64 2)) (l := [2]) rfl (want_ rfl) rfl (by decide) h2 ((op_len rfl Try.underlying47 (h2.2 11 _ rfl)).trans rfl) (fun a3 h3 d3 => ?_)
  replace d3 := d3.trans d2
  clear h2 d2
  refine opsP (N := 53) (T := TT) (M := (fun _ _ => none)) tabOk (fun _ _ _ h => by cases h) [] [2] [(0, .v (.slice (some ⟨g, 0, none⟩) 2 7)), (1, .v (.slice (some ⟨g, 0, none⟩) 2 7)), (2, .v (.slice none 0 0)), (6, .v (Value.slice none 0 0)), (7, .v (.int .i64 2))] h3 (by kernel_rfl) ⟨by kernel_rfl, by kernel_rfl, by kernel_rfl, by kernel_rfl, by kernel_rfl, trivial⟩ (fun a4 h4 d4 => ?_)
  replace d4 := d4.trans d3
  clear h3 d3
  show Code.wp _ _ _ _ _
  refine wp_seq ?_
  refine wp_region ?_
  refine opsP (N := 53) (T := TT) (M := (fun _ _ => none)) tabOk (fun _ _ _ h => by cases h) [1, 2] [0] [(0, .v (.slice (some ⟨g, 0, none⟩) 2 7)), (1, .v (.slice (some ⟨g, 0, none⟩) 2 7)), (2, .v (.slice none 0 0)), (6, .v (Value.slice none 0 0)), (7, .v (.int .i64 2)), (13, .v (.slice none 0 0))] h4 (by kernel_rfl) ⟨by kernel_rfl, by kernel_rfl, by kernel_rfl, by kernel_rfl, by kernel_rfl, by kernel_rfl, trivial⟩ (fun a5 h5 d5 => ?_)
  replace d5 := d5.trans d4
  clear h4 d4
  refine givenW_ops (N := 53) (i := 1) (d := 14) (s := .v (.int .i64 0)) (l := [2]) rfl (want_ rfl) rfl (by decide) h5 ((op_len rfl Try.underlying47 (h5.2 13 _ rfl)).trans rfl) (fun a6 h6 d6 => ?_)
  replace d6 := d6.trans d5
  clear h5 d5
  refine opsP (N := 53) (T := TT) (M := (fun _ _ => none)) tabOk (fun _ _ _ h => by cases h) [] [2] [(0, .v (.slice (some ⟨g, 0, none⟩) 2 7)), (1, .v (.slice (some ⟨g, 0, none⟩) 2 7)), (2, .v (.slice none 0 0)), (6, .v (Value.slice none 0 0)), (7, .v (.int .i64 2)), (8, .v (.int .i64 0))] h6 (by kernel_rfl) ⟨by kernel_rfl, by kernel_rfl, by kernel_rfl, by kernel_rfl, by kernel_rfl, by kernel_rfl, trivial⟩ (fun a7 h7 d7 => ?_)
  replace d7 := d7.trans d6
  clear h6 d6
  show Code.wp _ _ _ _ _
  refine wp_seq ?_
  refine wp_region ?_
  refine opsP (N := 53) (T := TT) (M := (fun _ _ => none)) tabOk (fun _ _ _ h => by cases h) [] [0, 1] [(0, .v (.slice (some ⟨g, 0, none⟩) 2 7)), (1, .v (.slice (some ⟨g, 0, none⟩) 2 7)), (2, .v (.slice none 0 0)), (6, .v (Value.slice none 0 0)), (7, .v (.int .i64 2)), (8, .v (.int .i64 0)), (9, .v (.slice (some ⟨g, 0, none⟩) 2 7))] h7 (by kernel_rfl) ⟨by kernel_rfl, by kernel_rfl, by kernel_rfl, by kernel_rfl, by kernel_rfl, by kernel_rfl, by kernel_rfl, trivial⟩ (fun a8 h8 d8 => ?_)
  replace d8 := d8.trans d7
  clear h7 d7
  show Code.wp _ _ _ _ _
  refine wp_seq ?_
  refine wp_seq ?_
  refine wp_region ?_
  refine opsP (N := 53) (T := TT) (M := (fun _ _ => none)) tabOk (fun _ _ _ h => by cases h) [] [0, 1, 2] [(0, .v (.slice (some ⟨g, 0, none⟩) 2 7)), (1, .v (.slice (some ⟨g, 0, none⟩) 2 7)), (2, .v (.slice none 0 0)), (6, .v (Value.slice none 0 0)), (7, .v (.int .i64 2)), (8, .v (.int .i64 0)), (9, .v (.slice (some ⟨g, 0, none⟩) 2 7)), (18, .v (.bool false))] h8 (by kernel_rfl) ⟨by kernel_rfl, by kernel_rfl, by kernel_rfl, by kernel_rfl, by kernel_rfl, by kernel_rfl, by kernel_rfl, by kernel_rfl, trivial⟩ (fun a9 h9 d9 => ?_)
  replace d9 := d9.trans d8
  clear h8 d8
  show Code.wp _ _ _ _ _
  refine wp_cond_false (h9.2 18 _ rfl) ?_
  refine wp_skip ?_
  show Code.wp _ _ _ _ _
  refine wp_seq ?_
  refine wp_region ?_
  refine opsP (N := 53) (T := TT) (M := (fun _ _ => none)) tabOk (fun _ _ _ h => by cases h) [2, 3] [0, 1] [(0, .v (.slice (some ⟨g, 0, none⟩) 2 7)), (1, .v (.slice (some ⟨g, 0, none⟩) 2 7)), (2, .v (.slice none 0 0)), (6, .v (Value.slice none 0 0)), (7, .v (.int .i64 2)), (8, .v (.int .i64 0)), (9, .v (.slice (some ⟨g, 0, none⟩) 2 7)), (18, .v (.bool false)), (22, .v (.slice (some ⟨g, 0, none⟩) 2 7)), (23, .v (.int .i64 2))] h9 (by kernel_rfl) ⟨by kernel_rfl, by kernel_rfl, by kernel_rfl, by kernel_rfl, by kernel_rfl, by kernel_rfl, by kernel_rfl, by kernel_rfl, by kernel_rfl, by kernel_rfl, trivial⟩ (fun a10 h10 d10 => ?_)
  replace d10 := d10.trans d9
  clear h9 d9
  refine callW_ops (N := 53) (i := 2) (d := 24) (f := 44) (args := [.v (.slice (some ⟨g, 0, none⟩) 2 7), .v (.int .i64 2)]) (l := [3]) rfl (want_ rfl) rfl (by decide) h10 Try.func44 rfl rfl rfl (by kernel_rfl) (fun v W' => v = .slice (some ⟨g, 0, none⟩) 2 7 ∧ W' = w) ((make_keep (some ⟨g, 0, none⟩) 2 2 7 (by decide) w).mono fun e w' hh => ⟨_, hh.1, rfl, hh.2⟩) (fun v11 W11 a11 hR11 h11 d11 => ?_)
  replace d11 := d11.trans d10
  clear h10 d10
  obtain ⟨rfl, e1⟩ := hR11
  obtain rfl := e1.symm
  refine opsP (N := 53) (T := TT) (M := (fun _ _ => none)) tabOk (fun _ _ _ h => by cases h) [] [3] [(0, .v (.slice (some ⟨g, 0, none⟩) 2 7)), (1, .v (.slice (some ⟨g, 0, none⟩) 2 7)), (2, .v (.slice none 0 0)), (6, .v (Value.slice none 0 0)), (7, .v (.int .i64 2)), (8, .v (.int .i64 0)), (9, .v (.slice (some ⟨g, 0, none⟩) 2 7)), (18, .v (.bool false))] h11 (by kernel_rfl) ⟨by kernel_rfl, by kernel_rfl, by kernel_rfl, by kernel_rfl, by kernel_rfl, by kernel_rfl, by kernel_rfl, by kernel_rfl, trivial⟩ (fun a12 h12 d12 => ?_)
  replace d12 := d12.trans d11
  clear h11 d11
  show Code.wp _ _ _ _ _
  refine wp_seq ?_
  refine wp_seq ?_
  refine wp_region ?_
  refine opsP (N := 53) (T := TT) (M := (fun _ _ => none)) tabOk (fun _ _ _ h => by cases h) [] [0] [(0, .v (.slice (some ⟨g, 0, none⟩) 2 7)), (1, .v (.slice (some ⟨g, 0, none⟩) 2 7)), (2, .v (.slice none 0 0)), (6, .v (Value.slice none 0 0)), (7, .v (.int .i64 2)), (8, .v (.int .i64 0)), (9, .v (.slice (some ⟨g, 0, none⟩) 2 7)), (10, .v (.int .i64 0)), (18, .v (.bool false))] h12 (by kernel_rfl) ⟨by kernel_rfl, by kernel_rfl, by kernel_rfl, by kernel_rfl, by kernel_rfl, by kernel_rfl, by kernel_rfl, by kernel_rfl, by kernel_rfl, trivial⟩ (fun a13 h13 d13 => ?_)
  replace d13 := d13.trans d12
  clear h12 d12
  show Code.wp _ _ _ _ _
  refine wp_block ?_
  refine wp_loop_rounds 1 ?_
  rw [rounds_succ]
  refine wp_seq ?_
  refine wp_seq ?_
  refine wp_region ?_
  refine opsP (N := 53) (T := TT) (M := (fun _ _ => none)) tabOk (fun _ _ _ h => by cases h) [] [0, 1, 2] [(0, .v (.slice (some ⟨g, 0, none⟩) 2 7)), (1, .v (.slice (some ⟨g, 0, none⟩) 2 7)), (2, .v (.slice none 0 0)), (6, .v (Value.slice none 0 0)), (7, .v (.int .i64 2)), (8, .v (.int .i64 0)), (9, .v (.slice (some ⟨g, 0, none⟩) 2 7)), (10, .v (.int .i64 0)), (18, .v (.bool false)), (27, .v (.bool false))] h13 (by kernel_rfl) ⟨by kernel_rfl, by kernel_rfl, by kernel_rfl, by kernel_rfl, by kernel_rfl, by kernel_rfl, by kernel_rfl, by kernel_rfl, by kernel_rfl, by kernel_rfl, trivial⟩ (fun a14 h14 d14 => ?_)
  replace d14 := d14.trans d13
  clear h13 d13
  show Code.wp _ _ _ _ _
  refine wp_cond_false (h14.2 27 _ rfl) ?_
  refine wp_exit ?_
  refine then_exit (then_exit ?_)
  refine exit_in ?_
  show Code.wp _ _ _ _ _
  have hw1 := hw
  have hF1 := Fr.refl [g] w
  refine wp_seq ?_
  refine start_ (S := fun _ => True) (ds := []) (n := 9) _ (by kernel_rfl) rfl rfl (trivial) (fun hS15 => ?_)
  refine segP (S := fun _ => True) (ds := []) (T := TT) (M := fun _ _ => none) (N := 53) tabOk (fun _ _ _ _ _ h => by cases h) (fun _ _ _ _ hd h => And.intro (hd.trans (And.left h)) (And.right h)) hS15 [0, 1, 2] 6 [(0, .v (.slice (some ⟨g, 0, none⟩) 2 7)), (1, .v (.slice (some ⟨g, 0, none⟩) 2 7)), (2, .v (.slice none 0 0)), (6, .v (Value.slice none 0 0)), (7, .v (.int .i64 2)), (8, .v (.int .i64 0)), (9, .v (.slice (some ⟨g, 0, none⟩) 2 7)), (10, .v (.int .i64 0)), (18, .v (.bool false)), (27, .v (.bool false)), (42, .v (.slice (some ⟨g, 0, none⟩) 2 7)), (43, .v (.int .i64 0)), (44, .v (.int .i64 2))] h14 (by kernel_rfl) (by kernel_rfl) ⟨by kernel_rfl, by kernel_rfl, by kernel_rfl, by kernel_rfl, by kernel_rfl, by kernel_rfl, by kernel_rfl, by kernel_rfl, by kernel_rfl, by kernel_rfl, by kernel_rfl, by kernel_rfl, by kernel_rfl, trivial⟩ (fun a15 h15 d15 => ?_)
  replace d15 := d15.trans d14
  clear h14 d14
  refine segV (S := fun _ => True) (ds := []) (N := 53) (i := 3) (d := 45) (s := .v (.slice (some ⟨g, 0, none⟩) 2 7)) (fun _ _ _ _ hd h => And.intro (hd.trans (And.left h)) (And.right h)) hS15 h15 rfl rfl rfl (by decide) (by kernel_rfl) (fun W' hW => (op_sllh (l := 0) (h := 2) rfl sltNat (h15.2 42 _ rfl) (h15.2 43 _ rfl) (h15.2 44 _ rfl) (by decide) (by decide)).trans rfl) (fun a16 h16 d16 => ?_)
  replace d16 := d16.trans d15
  clear h15 d15
  refine segP (S := fun _ => True) (ds := []) (T := TT) (M := fun _ _ => none) (N := 53) tabOk (fun _ _ _ _ _ h => by cases h) (fun _ _ _ _ hd h => And.intro (hd.trans (And.left h)) (And.right h)) hS15 [4, 5, 6] 2 [(0, .v (.slice (some ⟨g, 0, none⟩) 2 7)), (1, .v (.slice (some ⟨g, 0, none⟩) 2 7)), (2, .v (.slice none 0 0)), (6, .v (Value.slice none 0 0)), (7, .v (.int .i64 2)), (8, .v (.int .i64 0)), (9, .v (.slice (some ⟨g, 0, none⟩) 2 7)), (10, .v (.int .i64 0)), (18, .v (.bool false)), (27, .v (.bool false)), (42, .v (.slice (some ⟨g, 0, none⟩) 2 7)), (43, .v (.int .i64 0)), (44, .v (.int .i64 2)), (45, .v (.slice (some ⟨g, 0, none⟩) 2 7)), (46, .v (.slice (some ⟨g, 0, none⟩) 2 7)), (47, .v (.int .i64 0)), (48, .v (.int .i64 2))] h16 (by kernel_rfl) (by kernel_rfl) ⟨by kernel_rfl, by kernel_rfl, by kernel_rfl, by kernel_rfl, by kernel_rfl, by kernel_rfl, by kernel_rfl, by kernel_rfl, by kernel_rfl, by kernel_rfl, by kernel_rfl, by kernel_rfl, by kernel_rfl, by kernel_rfl, by kernel_rfl, by kernel_rfl, by kernel_rfl, trivial⟩ (fun a17 h17 d17 => ?_)
  replace d17 := d17.trans d16
  clear h16 d16
  refine segV (S := fun _ => True) (ds := []) (N := 53) (i := 7) (d := 49) (s := .v (.slice (some ⟨g, 0, none⟩) 2 7)) (fun _ _ _ _ hd h => And.intro (hd.trans (And.left h)) (And.right h)) hS15 h17 rfl rfl rfl (by decide) (by kernel_rfl) (fun W' hW => (op_sllh (l := 0) (h := 2) rfl sltNat (h17.2 46 _ rfl) (h17.2 47 _ rfl) (h17.2 48 _ rfl) (by decide) (by decide)).trans rfl) (fun a18 h18 d18 => ?_)
  replace d18 := d18.trans d17
  clear h17 d17
  have hw2 := fun V (h : Wd V g [0, x, 0, 0, 0, 0, 0]) => (wd_wdW h (layW [0, x, 0, 0, 0, 0, 0] 0 [0, x]) : Wd _ g [0, x, 0, 0, 0, 0, 0])
  have hS19 : (fun _ => True) (wdW ((w).drew) g (layW [0, x, 0, 0, 0, 0, 0] 0 [0, x])) := trivial
  refine stepN (S := fun _ => True) (ds := []) (N := 53) (j := 8) (d := 50) h18 rfl rfl rfl (by decide) (by kernel_rfl) (op_cpw (xs := [0, x]) rfl sltNat (h18.2 45 _ rfl) (h18.2 49 _ rfl) hw1 rfl (hw1.src 0 2) (by simp)) hS19 (fun a19 h19 d19 => ?_)
  replace d19 := d19.trans d18
  clear h18 d18
  have hw3 : Wd _ g [0, x, 0, 0, 0, 0, 0] := hw2 ((w).drew) hw1
  refine done_ (by kernel_rfl) ?_
  show Code.wp _ _ _ _ _
  refine wp_seq ?_
  refine wp_region ?_
  refine opsP (N := 53) (T := TT) (M := (fun _ _ => none)) tabOk (fun _ _ _ h => by cases h) [1, 2] [0] [(0, .v (.slice (some ⟨g, 0, none⟩) 2 7)), (1, .v (.slice (some ⟨g, 0, none⟩) 2 7)), (2, .v (.slice none 0 0)), (6, .v (Value.slice none 0 0)), (7, .v (.int .i64 2)), (8, .v (.int .i64 0)), (10, .v (.int .i64 0)), (18, .v (.bool false)), (27, .v (.bool false)), (51, .v (.slice (some ⟨g, 0, none⟩) 2 7))] h19 (by kernel_rfl) ⟨by kernel_rfl, by kernel_rfl, by kernel_rfl, by kernel_rfl, by kernel_rfl, by kernel_rfl, by kernel_rfl, by kernel_rfl, by kernel_rfl, by kernel_rfl, trivial⟩ (fun a20 h20 d20 => ?_)
  replace d20 := d20.trans d19
  clear h19 d19
  have ht : topN [0, x, 0, 0, 0, 0, 0] 2 = 2 := by simp [topN, hx]
  have hF3 := hF1.drew.trans (fr_wdW _ g (layW [0, x, 0, 0, 0, 0, 0] 0 [0, x]))
  refine callW_ops (N := 53) (i := 1) (d := 52) (f := 46) (args := [.v (.slice (some ⟨g, 0, none⟩) 2 7)]) (l := [2]) rfl (want_ rfl) rfl (by decide) h20 Try.func46 rfl rfl rfl (by kernel_rfl) (fun (v : Value) (w' : World) => v = .slice (some ⟨g, 0, none⟩) 2 7 ∧ Wd w' g [0, x, 0, 0, 0, 0, 0] ∧ Fr [g] w w') ((norm_walk g 2 7 _ _ hw3 (by simp) (by decide) (by decide)).mono fun e w' hh => ⟨_, hh.1.trans (by rw [ht]), rfl, hh.2 ▸ hw3, hh.2 ▸ hF3⟩) (fun v21 W21 a21 hR21 h21 d21 => ?_)
  replace d21 := d21.trans d20
  clear h20 d20
  obtain ⟨rfl, hw5, hF5⟩ := hR21
  refine opsP (N := 53) (T := TT) (M := (fun _ _ => none)) tabOk (fun _ _ _ h => by cases h) [] [2] [(0, .v (.slice (some ⟨g, 0, none⟩) 2 7)), (1, .v (.slice (some ⟨g, 0, none⟩) 2 7)), (2, .v (.slice none 0 0)), (6, .v (.slice (some ⟨g, 0, none⟩) 2 7)), (7, .v (.int .i64 2)), (8, .v (.int .i64 0)), (10, .v (.int .i64 0)), (18, .v (.bool false)), (27, .v (.bool false))] h21 (by kernel_rfl) ⟨by kernel_rfl, by kernel_rfl, by kernel_rfl, by kernel_rfl, by kernel_rfl, by kernel_rfl, by kernel_rfl, by kernel_rfl, by kernel_rfl, trivial⟩ (fun a22 h22 d22 => ?_)
  replace d22 := d22.trans d21
  clear h21 d21
  show Code.wp _ _ _ _ _
  refine wp_ret ?_
  exact ⟨d22, _, results_tmp rfl _ _ _, congrArg Ending.returned (h22.2 6 _ rfl), hw5, hF5⟩
set_option maxHeartbeats 8000000 in
set_option maxRecDepth 100000 in
theorem xor_b (b : Nat) (y : Nat) (h0 : y ≠ 0) (w : World) (hy : Wd w b [((y : Nat) : Int)]) :
    Calls Try.prog 42 #[.slice none 0 0, .slice none 0 0, .slice (some ⟨b, 0, none⟩) 1 1] w fun e w' => e = .returned (.slice (some ⟨w.heap.size, 0, none⟩) 1 1) ∧ Wd w' w.heap.size [((y : Nat) : Int)] ∧ Below w.heap.size w w' := by
  refine calls_of_wp Try.func42 rfl ?_
  have h0 := has_three (β := bn []) (.v (.slice none 0 0)) (.v (.slice none 0 0)) (.v (.slice (some ⟨b, 0, none⟩) 1 1)) 50
  have d0 : (⟨#[.slice none 0 0, .slice none 0 0, .slice (some ⟨b, 0, none⟩) 1 1] ++ Array.replicate 50 undef, []⟩ : Act).defers = [] := rfl
  refine wp_seq ?_
  refine wp_region ?_
  refine opsP (N := 53) (T := TT) (M := (fun _ _ => none)) tabOk (fun _ _ _ h => by cases h) [] [0] [(0, .v (.slice none 0 0)), (1, .v (.slice none 0 0)), (2, .v (.slice (some ⟨b, 0, none⟩) 1 1)), (6, .v (Value.slice none 0 0))] h0 (by kernel_rfl) ⟨by kernel_rfl, by kernel_rfl, by kernel_rfl, by kernel_rfl, trivial⟩ (fun a1 h1 d1 => ?_)
  replace d1 := d1.trans d0
  clear h0 d0
  show Code.wp _ _ _ _ _
  refine wp_seq ?_
  refine wp_region ?_
  refine opsP (N := 53) (T := TT) (M := (fun _ _ => none)) tabOk (fun _ _ _ h => by cases h) [1, 2] [0] [(0, .v (.slice none 0 0)), (1, .v (.slice none 0 0)), (2, .v (.slice (some ⟨b, 0, none⟩) 1 1)), (6, .v (Value.slice none 0 0)), (11, .v (.slice none 0 0))] h1 (by kernel_rfl) ⟨by kernel_rfl, by kernel_rfl, by kernel_rfl, by kernel_rfl, by kernel_rfl, trivial⟩ (fun a2 h2 d2 => ?_)
  replace d2 := d2.trans d1
  clear h1 d1
  refine givenW_ops (N := 53) (i := 1) (d := 12) (s := .v (.int .i64 0)) (l := [2]) rfl (want_ rfl) rfl (by decide) h2 ((op_len rfl Try.underlying47 (h2.2 11 _ rfl)).trans rfl) (fun a3 h3 d3 => ?_)
  replace d3 := d3.trans d2
  clear h2 d2
  refine opsP (N := 53) (T := TT) (M := (fun _ _ => none)) tabOk (fun _ _ _ h => by cases h) [] [2] [(0, .v (.slice none 0 0)), (1, .v (.slice none 0 0)), (2, .v (.slice (some ⟨b, 0, none⟩) 1 1)), (6, .v (Value.slice none 0 0)), (7, .v (.int .i64 0))] h3 (by kernel_rfl) ⟨by kernel_rfl, by kernel_rfl, by kernel_rfl, by kernel_rfl, by kernel_rfl, trivial⟩ (fun a4 h4 d4 => ?_)
  replace d4 := d4.trans d3
  clear h3 d3
  show Code.wp _ _ _ _ _
  refine wp_seq ?_
  refine wp_region ?_
  refine opsP (N := 53) (T := TT) (M := (fun _ _ => none)) tabOk (fun _ _ _ h => by cases h) [1, 2] [0] [(0, .v (.slice none 0 0)), (1, .v (.slice none 0 0)), (2, .v (.slice (some ⟨b, 0, none⟩) 1 1)), (6, .v (Value.slice none 0 0)), (7, .v (.int .i64 0)), (13, .v (.slice (some ⟨b, 0, none⟩) 1 1))] h4 (by kernel_rfl) ⟨by kernel_rfl, by kernel_rfl, by kernel_rfl, by kernel_rfl, by kernel_rfl, by kernel_rfl, trivial⟩ (fun a5 h5 d5 => ?_)
  replace d5 := d5.trans d4
  clear h4 d4
  refine givenW_ops (N := 53) (i := 1) (d := 14) (s := .v (.int .i64 1)) (l := [2]) rfl (want_ rfl) rfl (by decide) h5 ((op_len rfl Try.underlying47 (h5.2 13 _ rfl)).trans rfl) (fun a6 h6 d6 => ?_)
  replace d6 := d6.trans d5
  clear h5 d5
  refine opsP (N := 53) (T := TT) (M := (fun _ _ => none)) tabOk (fun _ _ _ h => by cases h) [] [2] [(0, .v (.slice none 0 0)), (1, .v (.slice none 0 0)), (2, .v (.slice (some ⟨b, 0, none⟩) 1 1)), (6, .v (Value.slice none 0 0)), (7, .v (.int .i64 0)), (8, .v (.int .i64 1))] h6 (by kernel_rfl) ⟨by kernel_rfl, by kernel_rfl, by kernel_rfl, by kernel_rfl, by kernel_rfl, by kernel_rfl, trivial⟩ (fun a7 h7 d7 => ?_)
  replace d7 := d7.trans d6
  clear h6 d6
  show Code.wp _ _ _ _ _
  refine wp_seq ?_
  refine wp_region ?_
  refine opsP (N := 53) (T := TT) (M := (fun _ _ => none)) tabOk (fun _ _ _ h => by cases h) [] [0, 1] [(0, .v (.slice none 0 0)), (1, .v (.slice none 0 0)), (2, .v (.slice (some ⟨b, 0, none⟩) 1 1)), (6, .v (Value.slice none 0 0)), (7, .v (.int .i64 0)), (8, .v (.int .i64 1)), (9, .v (.slice none 0 0))] h7 (by kernel_rfl) ⟨by kernel_rfl, by kernel_rfl, by kernel_rfl, by kernel_rfl, by kernel_rfl, by kernel_rfl, by kernel_rfl, trivial⟩ (fun a8 h8 d8 => ?_)
  replace d8 := d8.trans d7
  clear h7 d7
  show Code.wp _ _ _ _ _
  refine wp_seq ?_
  refine wp_seq ?_
  refine wp_region ?_
  refine opsP (N := 53) (T := TT) (M := (fun _ _ => none)) tabOk (fun _ _ _ h => by cases h) [] [0, 1, 2] [(0, .v (.slice none 0 0)), (1, .v (.slice none 0 0)), (2, .v (.slice (some ⟨b, 0, none⟩) 1 1)), (6, .v (Value.slice none 0 0)), (7, .v (.int .i64 0)), (8, .v (.int .i64 1)), (9, .v (.slice none 0 0)), (18, .v (.bool true))] h8 (by kernel_rfl) ⟨by kernel_rfl, by kernel_rfl, by kernel_rfl, by kernel_rfl, by kernel_rfl, by kernel_rfl, by kernel_rfl, by kernel_rfl, trivial⟩ (fun a9 h9 d9 => ?_)
  replace d9 := d9.trans d8
  clear h8 d8
  show Code.wp _ _ _ _ _
  refine wp_cond_true (h9.2 18 _ rfl) ?_
  refine wp_seq ?_
  refine wp_region ?_
  refine opsP (N := 53) (T := TT) (M := (fun _ _ => none)) tabOk (fun _ _ _ h => by cases h) [] [0, 1, 2, 3] [(0, .v (.slice none 0 0)), (1, .v (.slice none 0 0)), (2, .v (.slice (some ⟨b, 0, none⟩) 1 1)), (6, .v (Value.slice none 0 0)), (7, .v (.int .i64 1)), (8, .v (.int .i64 0)), (9, .v (.slice none 0 0)), (18, .v (.bool true))] h9 (by kernel_rfl) ⟨by kernel_rfl, by kernel_rfl, by kernel_rfl, by kernel_rfl, by kernel_rfl, by kernel_rfl, by kernel_rfl, by kernel_rfl, trivial⟩ (fun a10 h10 d10 => ?_)
  replace d10 := d10.trans d9
  clear h9 d9
  show Code.wp _ _ _ _ _
  refine wp_region ?_
  refine opsP (N := 53) (T := TT) (M := (fun _ _ => none)) tabOk (fun _ _ _ h => by cases h) [] [0, 1] [(0, .v (.slice none 0 0)), (1, .v (.slice none 0 0)), (2, .v (.slice (some ⟨b, 0, none⟩) 1 1)), (6, .v (Value.slice none 0 0)), (7, .v (.int .i64 1)), (8, .v (.int .i64 0)), (9, .v (.slice (some ⟨b, 0, none⟩) 1 1)), (18, .v (.bool true))] h10 (by kernel_rfl) ⟨by kernel_rfl, by kernel_rfl, by kernel_rfl, by kernel_rfl, by kernel_rfl, by kernel_rfl, by kernel_rfl, by kernel_rfl, trivial⟩ (fun a11 h11 d11 => ?_)
  replace d11 := d11.trans d10
  clear h10 d10
  show Code.wp _ _ _ _ _
  refine wp_seq ?_
  refine wp_region ?_
  refine opsP (N := 53) (T := TT) (M := (fun _ _ => none)) tabOk (fun _ _ _ h => by cases h) [2, 3] [0, 1] [(0, .v (.slice none 0 0)), (1, .v (.slice none 0 0)), (2, .v (.slice (some ⟨b, 0, none⟩) 1 1)), (6, .v (Value.slice none 0 0)), (7, .v (.int .i64 1)), (8, .v (.int .i64 0)), (9, .v (.slice (some ⟨b, 0, none⟩) 1 1)), (18, .v (.bool true)), (22, .v (.slice none 0 0)), (23, .v (.int .i64 1))] h11 (by kernel_rfl) ⟨by kernel_rfl, by kernel_rfl, by kernel_rfl, by kernel_rfl, by kernel_rfl, by kernel_rfl, by kernel_rfl, by kernel_rfl, by kernel_rfl, by kernel_rfl, trivial⟩ (fun a12 h12 d12 => ?_)
  replace d12 := d12.trans d11
  clear h11 d11
  refine callW_ops (N := 53) (i := 2) (d := 24) (f := 44) (args := [.v (.slice none 0 0), .v (.int .i64 1)]) (l := [3]) rfl (want_ rfl) rfl (by decide) h12 Try.func44 rfl rfl rfl (by kernel_rfl) (fun v W' => v = .slice (some ⟨w.heap.size, 0, none⟩) 1 1 ∧ Wd W' w.heap.size [0] ∧ Below w.heap.size w W') ((make_one none 0 0 (by decide) w).mono fun e w' hh => ⟨_, hh.1, rfl, hh.2⟩) (fun v13 W13 a13 hR13 h13 d13 => ?_)
  replace d13 := d13.trans d12
  clear h12 d12
  obtain ⟨rfl, hw1, hB⟩ := hR13
  have hy1 := hy.below hB
  refine opsP (N := 53) (T := TT) (M := (fun _ _ => none)) tabOk (fun _ _ _ h => by cases h) [] [3] [(0, .v (.slice (some ⟨w.heap.size, 0, none⟩) 1 1)), (1, .v (.slice none 0 0)), (2, .v (.slice (some ⟨b, 0, none⟩) 1 1)), (6, .v (Value.slice none 0 0)), (7, .v (.int .i64 1)), (8, .v (.int .i64 0)), (9, .v (.slice (some ⟨b, 0, none⟩) 1 1)), (18, .v (.bool true))] h13 (by kernel_rfl) ⟨by kernel_rfl, by kernel_rfl, by kernel_rfl, by kernel_rfl, by kernel_rfl, by kernel_rfl, by kernel_rfl, by kernel_rfl, trivial⟩ (fun a14 h14 d14 => ?_)
  replace d14 := d14.trans d13
  clear h13 d13
  show Code.wp _ _ _ _ _
  refine wp_seq ?_
  refine wp_seq ?_
  refine wp_region ?_
  refine opsP (N := 53) (T := TT) (M := (fun _ _ => none)) tabOk (fun _ _ _ h => by cases h) [] [0] [(0, .v (.slice (some ⟨w.heap.size, 0, none⟩) 1 1)), (1, .v (.slice none 0 0)), (2, .v (.slice (some ⟨b, 0, none⟩) 1 1)), (6, .v (Value.slice none 0 0)), (7, .v (.int .i64 1)), (8, .v (.int .i64 0)), (9, .v (.slice (some ⟨b, 0, none⟩) 1 1)), (10, .v (.int .i64 0)), (18, .v (.bool true))] h14 (by kernel_rfl) ⟨by kernel_rfl, by kernel_rfl, by kernel_rfl, by kernel_rfl, by kernel_rfl, by kernel_rfl, by kernel_rfl, by kernel_rfl, by kernel_rfl, trivial⟩ (fun a15 h15 d15 => ?_)
  replace d15 := d15.trans d14
  clear h14 d14
  show Code.wp _ _ _ _ _
  refine wp_block ?_
  refine wp_loop_rounds 1 ?_
  rw [rounds_succ]
  refine wp_seq ?_
  refine wp_seq ?_
  refine wp_region ?_
  refine opsP (N := 53) (T := TT) (M := (fun _ _ => none)) tabOk (fun _ _ _ h => by cases h) [] [0, 1, 2] [(0, .v (.slice (some ⟨w.heap.size, 0, none⟩) 1 1)), (1, .v (.slice none 0 0)), (2, .v (.slice (some ⟨b, 0, none⟩) 1 1)), (6, .v (Value.slice none 0 0)), (7, .v (.int .i64 1)), (8, .v (.int .i64 0)), (9, .v (.slice (some ⟨b, 0, none⟩) 1 1)), (10, .v (.int .i64 0)), (18, .v (.bool true)), (27, .v (.bool false))] h15 (by kernel_rfl) ⟨by kernel_rfl, by kernel_rfl, by kernel_rfl, by kernel_rfl, by kernel_rfl, by kernel_rfl, by kernel_rfl, by kernel_rfl, by kernel_rfl, by kernel_rfl, trivial⟩ (fun a16 h16 d16 => ?_)
  replace d16 := d16.trans d15
  clear h15 d15
  show Code.wp _ _ _ _ _
  refine wp_cond_false (h16.2 27 _ rfl) ?_
  refine wp_exit ?_
  refine then_exit (then_exit ?_)
  refine exit_in ?_
  show Code.wp _ _ _ _ _
  refine wp_seq ?_
  refine start_ (S := fun _ => True) (ds := []) (n := 9) _ (by kernel_rfl) rfl rfl (trivial) (fun hS17 => ?_)
  refine segP (S := fun _ => True) (ds := []) (T := TT) (M := fun _ _ => none) (N := 53) tabOk (fun _ _ _ _ _ h => by cases h) (fun _ _ _ _ hd h => And.intro (hd.trans (And.left h)) (And.right h)) hS17 [0, 1, 2] 6 [(0, .v (.slice (some ⟨w.heap.size, 0, none⟩) 1 1)), (1, .v (.slice none 0 0)), (2, .v (.slice (some ⟨b, 0, none⟩) 1 1)), (6, .v (Value.slice none 0 0)), (7, .v (.int .i64 1)), (8, .v (.int .i64 0)), (9, .v (.slice (some ⟨b, 0, none⟩) 1 1)), (10, .v (.int .i64 0)), (18, .v (.bool true)), (27, .v (.bool false)), (42, .v (.slice (some ⟨w.heap.size, 0, none⟩) 1 1)), (43, .v (.int .i64 0)), (44, .v (.int .i64 1))] h16 (by kernel_rfl) (by kernel_rfl) ⟨by kernel_rfl, by kernel_rfl, by kernel_rfl, by kernel_rfl, by kernel_rfl, by kernel_rfl, by kernel_rfl, by kernel_rfl, by kernel_rfl, by kernel_rfl, by kernel_rfl, by kernel_rfl, by kernel_rfl, trivial⟩ (fun a17 h17 d17 => ?_)
  replace d17 := d17.trans d16
  clear h16 d16
  refine segV (S := fun _ => True) (ds := []) (N := 53) (i := 3) (d := 45) (s := .v (.slice (some ⟨w.heap.size, 0, none⟩) 1 1)) (fun _ _ _ _ hd h => And.intro (hd.trans (And.left h)) (And.right h)) hS17 h17 rfl rfl rfl (by decide) (by kernel_rfl) (fun W' hW => (op_sllh (l := 0) (h := 1) rfl sltNat (h17.2 42 _ rfl) (h17.2 43 _ rfl) (h17.2 44 _ rfl) (by decide) (by decide)).trans rfl) (fun a18 h18 d18 => ?_)
  replace d18 := d18.trans d17
  clear h17 d17
  refine segP (S := fun _ => True) (ds := []) (T := TT) (M := fun _ _ => none) (N := 53) tabOk (fun _ _ _ _ _ h => by cases h) (fun _ _ _ _ hd h => And.intro (hd.trans (And.left h)) (And.right h)) hS17 [4, 5, 6] 2 [(0, .v (.slice (some ⟨w.heap.size, 0, none⟩) 1 1)), (1, .v (.slice none 0 0)), (2, .v (.slice (some ⟨b, 0, none⟩) 1 1)), (6, .v (Value.slice none 0 0)), (7, .v (.int .i64 1)), (8, .v (.int .i64 0)), (9, .v (.slice (some ⟨b, 0, none⟩) 1 1)), (10, .v (.int .i64 0)), (18, .v (.bool true)), (27, .v (.bool false)), (42, .v (.slice (some ⟨w.heap.size, 0, none⟩) 1 1)), (43, .v (.int .i64 0)), (44, .v (.int .i64 1)), (45, .v (.slice (some ⟨w.heap.size, 0, none⟩) 1 1)), (46, .v (.slice (some ⟨b, 0, none⟩) 1 1)), (47, .v (.int .i64 0)), (48, .v (.int .i64 1))] h18 (by kernel_rfl) (by kernel_rfl) ⟨by kernel_rfl, by kernel_rfl, by kernel_rfl, by kernel_rfl, by kernel_rfl, by kernel_rfl, by kernel_rfl, by kernel_rfl, by kernel_rfl, by kernel_rfl, by kernel_rfl, by kernel_rfl, by kernel_rfl, by kernel_rfl, by kernel_rfl, by kernel_rfl, by kernel_rfl, trivial⟩ (fun a19 h19 d19 => ?_)
  replace d19 := d19.trans d18
  clear h18 d18
  refine segV (S := fun _ => True) (ds := []) (N := 53) (i := 7) (d := 49) (s := .v (.slice (some ⟨b, 0, none⟩) 1 1)) (fun _ _ _ _ hd h => And.intro (hd.trans (And.left h)) (And.right h)) hS17 h19 rfl rfl rfl (by decide) (by kernel_rfl) (fun W' hW => (op_sllh (l := 0) (h := 1) rfl sltNat (h19.2 46 _ rfl) (h19.2 47 _ rfl) (h19.2 48 _ rfl) (by decide) (by decide)).trans rfl) (fun a20 h20 d20 => ?_)
  replace d20 := d20.trans d19
  clear h19 d19
  have hw2 := fun V (h : Wd V w.heap.size [0]) => (wd_wdW h (layW [0] 0 [((y : Nat) : Int)]) : Wd _ w.heap.size [((y : Nat) : Int)])
  have hS21 : (fun _ => True) (wdW ((W13).drew) w.heap.size (layW [0] 0 [((y : Nat) : Int)])) := trivial
  refine stepN (S := fun _ => True) (ds := []) (N := 53) (j := 8) (d := 50) h20 rfl rfl rfl (by decide) (by kernel_rfl) (op_cpw (xs := [((y : Nat) : Int)]) rfl sltNat (h20.2 45 _ rfl) (h20.2 49 _ rfl) hw1 rfl (hy1.src 0 1) (by simp)) hS21 (fun a21 h21 d21 => ?_)
  replace d21 := d21.trans d20
  clear h20 d20
  have hw3 : Wd _ w.heap.size [((y : Nat) : Int)] := hw2 ((W13).drew) hw1
  refine done_ (by kernel_rfl) ?_
  show Code.wp _ _ _ _ _
  refine wp_seq ?_
  refine wp_region ?_
  refine opsP (N := 53) (T := TT) (M := (fun _ _ => none)) tabOk (fun _ _ _ h => by cases h) [1, 2] [0] [(0, .v (.slice (some ⟨w.heap.size, 0, none⟩) 1 1)), (1, .v (.slice none 0 0)), (2, .v (.slice (some ⟨b, 0, none⟩) 1 1)), (6, .v (Value.slice none 0 0)), (7, .v (.int .i64 1)), (8, .v (.int .i64 0)), (10, .v (.int .i64 0)), (18, .v (.bool true)), (27, .v (.bool false)), (51, .v (.slice (some ⟨w.heap.size, 0, none⟩) 1 1))] h21 (by kernel_rfl) ⟨by kernel_rfl, by kernel_rfl, by kernel_rfl, by kernel_rfl, by kernel_rfl, by kernel_rfl, by kernel_rfl, by kernel_rfl, by kernel_rfl, by kernel_rfl, trivial⟩ (fun a22 h22 d22 => ?_)
  replace d22 := d22.trans d21
  clear h21 d21
  have ht : topN [((y : Nat) : Int)] 1 = 1 := by simp [topN, h0]
  have hF3 := (Fr.ofBelow [w.heap.size] hB).drew.trans (fr_wdW _ w.heap.size (layW [0] 0 [((y : Nat) : Int)]))
  refine callW_ops (N := 53) (i := 1) (d := 52) (f := 46) (args := [.v (.slice (some ⟨w.heap.size, 0, none⟩) 1 1)]) (l := [2]) rfl (want_ rfl) rfl (by decide) h22 Try.func46 rfl rfl rfl (by kernel_rfl) (fun (v : Value) (w' : World) => v = .slice (some ⟨w.heap.size, 0, none⟩) 1 1 ∧ Wd w' w.heap.size [((y : Nat) : Int)] ∧ Below w.heap.size w w') ((norm_walk w.heap.size 1 1 _ _ hw3 (by simp) (by decide) (by decide)).mono fun e w' hh => ⟨_, hh.1.trans (by rw [ht]), rfl, hh.2 ▸ hw3, hh.2 ▸ hF3.below _ (Nat.le_refl _) (by simp)⟩) (fun v23 W23 a23 hR23 h23 d23 => ?_)
  replace d23 := d23.trans d22
  clear h22 d22
  obtain ⟨rfl, hw5, hF5⟩ := hR23
  refine opsP (N := 53) (T := TT) (M := (fun _ _ => none)) tabOk (fun _ _ _ h => by cases h) [] [2] [(0, .v (.slice (some ⟨w.heap.size, 0, none⟩) 1 1)), (1, .v (.slice none 0 0)), (2, .v (.slice (some ⟨b, 0, none⟩) 1 1)), (6, .v (.slice (some ⟨w.heap.size, 0, none⟩) 1 1)), (7, .v (.int .i64 1)), (8, .v (.int .i64 0)), (10, .v (.int .i64 0)), (18, .v (.bool true)), (27, .v (.bool false))] h23 (by kernel_rfl) ⟨by kernel_rfl, by kernel_rfl, by kernel_rfl, by kernel_rfl, by kernel_rfl, by kernel_rfl, by kernel_rfl, by kernel_rfl, by kernel_rfl, trivial⟩ (fun a24 h24 d24 => ?_)
  replace d24 := d24.trans d23
  clear h23 d23
  show Code.wp _ _ _ _ _
  refine wp_ret ?_
  exact ⟨d24, _, results_tmp rfl _ _ _, congrArg Ending.returned (h24.2 6 _ rfl), hw5, hF5⟩
set_option maxHeartbeats 8000000 in
set_option maxRecDepth 100000 in
theorem xor_c (w : World) :
    Calls Try.prog 42 #[.slice none 0 0, .slice none 0 0, .slice none 0 0] w fun e w' => e = .returned (.slice none 0 0) ∧ Fr [] w w' := by
  refine calls_of_wp Try.func42 rfl ?_
  have h0 := has_three (β := bn []) (.v (.slice none 0 0)) (.v (.slice none 0 0)) (.v (.slice none 0 0)) 50
  have d0 : (⟨#[.slice none 0 0, .slice none 0 0, .slice none 0 0] ++ Array.replicate 50 undef, []⟩ : Act).defers = [] := rfl
  refine wp_seq ?_
  refine wp_region ?_
  refine opsP (N := 53) (T := TT) (M := (fun _ _ => none)) tabOk (fun _ _ _ h => by cases h) [] [0] [(0, .v (.slice none 0 0)), (1, .v (.slice none 0 0)), (2, .v (.slice none 0 0)), (6, .v (Value.slice none 0 0))] h0 (by kernel_rfl) ⟨by kernel_rfl, by kernel_rfl, by kernel_rfl, by kernel_rfl, trivial⟩ (fun a1 h1 d1 => ?_)
  replace d1 := d1.trans d0
  clear h0 d0
  show Code.wp _ _ _ _ _
  refine wp_seq ?_
  refine wp_region ?_
  refine opsP (N := 53) (T := TT) (M := (fun _ _ => none)) tabOk (fun _ _ _ h => by cases h) [1, 2] [0] [(0, .v (.slice none 0 0)), (1, .v (.slice none 0 0)), (2, .v (.slice none 0 0)), (6, .v (Value.slice none 0 0)), (11, .v (.slice none 0 0))] h1 (by kernel_rfl) ⟨by kernel_rfl, by kernel_rfl, by kernel_rfl, by kernel_rfl, by kernel_rfl, trivial⟩ (fun a2 h2 d2 => ?_)
  replace d2 := d2.trans d1
  clear h1 d1
  refine givenW_ops (N := 53) (i := 1) (d := 12) (s := .v (.int .i64 0)) (l := [2]) rfl (want_ rfl) rfl (by decide) h2 ((op_len rfl Try.underlying47 (h2.2 11 _ rfl)).trans rfl) (fun a3 h3 d3 => ?_)
  replace d3 := d3.trans d2
  clear h2 d2
  refine opsP (N := 53) (T := TT) (M := (fun _ _ => none)) tabOk (fun _ _ _ h => by cases h) [] [2] [(0, .v (.slice none 0 0)), (1, .v (.slice none 0 0)), (2, .v (.slice none 0 0)), (6, .v (Value.slice none 0 0)), (7, .v (.int .i64 0))] h3 (by kernel_rfl) ⟨by kernel_rfl, by kernel_rfl, by kernel_rfl, by kernel_rfl, by kernel_rfl, trivial⟩ (fun a4 h4 d4 => ?_)
  replace d4 := d4.trans d3
  clear h3 d3
  show Code.wp _ _ _ _ _
  refine wp_seq ?_
  refine wp_region ?_
  refine opsP (N := 53) (T := TT) (M := (fun _ _ => none)) tabOk (fun _ _ _ h => by cases h) [1, 2] [0] [(0, .v (.slice none 0 0)), (1, .v (.slice none 0 0)), (2, .v (.slice none 0 0)), (6, .v (Value.slice none 0 0)), (7, .v (.int .i64 0)), (13, .v (.slice none 0 0))] h4 (by kernel_rfl) ⟨by kernel_rfl, by kernel_rfl, by kernel_rfl, by kernel_rfl, by kernel_rfl, by kernel_rfl, trivial⟩ (fun a5 h5 d5 => ?_)
  replace d5 := d5.trans d4
  clear h4 d4
  refine givenW_ops (N := 53) (i := 1) (d := 14) (s := .v (.int .i64 0)) (l := [2]) rfl (want_ rfl) rfl (by decide) h5 ((op_len rfl Try.underlying47 (h5.2 13 _ rfl)).trans rfl) (fun a6 h6 d6 => ?_)
  replace d6 := d6.trans d5
  clear h5 d5
  refine opsP (N := 53) (T := TT) (M := (fun _ _ => none)) tabOk (fun _ _ _ h => by cases h) [] [2] [(0, .v (.slice none 0 0)), (1, .v (.slice none 0 0)), (2, .v (.slice none 0 0)), (6, .v (Value.slice none 0 0)), (7, .v (.int .i64 0)), (8, .v (.int .i64 0))] h6 (by kernel_rfl) ⟨by kernel_rfl, by kernel_rfl, by kernel_rfl, by kernel_rfl, by kernel_rfl, by kernel_rfl, trivial⟩ (fun a7 h7 d7 => ?_)
  replace d7 := d7.trans d6
  clear h6 d6
  show Code.wp _ _ _ _ _
  refine wp_seq ?_
  refine wp_region ?_
  refine opsP (N := 53) (T := TT) (M := (fun _ _ => none)) tabOk (fun _ _ _ h => by cases h) [] [0, 1] [(0, .v (.slice none 0 0)), (1, .v (.slice none 0 0)), (2, .v (.slice none 0 0)), (6, .v (Value.slice none 0 0)), (7, .v (.int .i64 0)), (8, .v (.int .i64 0)), (9, .v (.slice none 0 0))] h7 (by kernel_rfl) ⟨by kernel_rfl, by kernel_rfl, by kernel_rfl, by kernel_rfl, by kernel_rfl, by kernel_rfl, by kernel_rfl, trivial⟩ (fun a8 h8 d8 => ?_)
  replace d8 := d8.trans d7
  clear h7 d7
  show Code.wp _ _ _ _ _
  refine wp_seq ?_
  refine wp_seq ?_
  refine wp_region ?_
  refine opsP (N := 53) (T := TT) (M := (fun _ _ => none)) tabOk (fun _ _ _ h => by cases h) [] [0, 1, 2] [(0, .v (.slice none 0 0)), (1, .v (.slice none 0 0)), (2, .v (.slice none 0 0)), (6, .v (Value.slice none 0 0)), (7, .v (.int .i64 0)), (8, .v (.int .i64 0)), (9, .v (.slice none 0 0)), (18, .v (.bool false))] h8 (by kernel_rfl) ⟨by kernel_rfl, by kernel_rfl, by kernel_rfl, by kernel_rfl, by kernel_rfl, by kernel_rfl, by kernel_rfl, by kernel_rfl, trivial⟩ (fun a9 h9 d9 => ?_)
  replace d9 := d9.trans d8
  clear h8 d8
  show Code.wp _ _ _ _ _
  refine wp_cond_false (h9.2 18 _ rfl) ?_
  refine wp_skip ?_
  show Code.wp _ _ _ _ _
  refine wp_seq ?_
  refine wp_region ?_
  refine opsP (N := 53) (T := TT) (M := (fun _ _ => none)) tabOk (fun _ _ _ h => by cases h) [2, 3] [0, 1] [(0, .v (.slice none 0 0)), (1, .v (.slice none 0 0)), (2, .v (.slice none 0 0)), (6, .v (Value.slice none 0 0)), (7, .v (.int .i64 0)), (8, .v (.int .i64 0)), (9, .v (.slice none 0 0)), (18, .v (.bool false)), (22, .v (.slice none 0 0)), (23, .v (.int .i64 0))] h9 (by kernel_rfl) ⟨by kernel_rfl, by kernel_rfl, by kernel_rfl, by kernel_rfl, by kernel_rfl, by kernel_rfl, by kernel_rfl, by kernel_rfl, by kernel_rfl, by kernel_rfl, trivial⟩ (fun a10 h10 d10 => ?_)
  replace d10 := d10.trans d9
  clear h9 d9
  refine callW_ops (N := 53) (i := 2) (d := 24) (f := 44) (args := [.v (.slice none 0 0), .v (.int .i64 0)]) (l := [3]) rfl (want_ rfl) rfl (by decide) h10 Try.func44 rfl rfl rfl (by kernel_rfl) (fun v W' => v = .slice none 0 0 ∧ W' = w) ((make_keep none 0 0 0 (by decide) w).mono fun e w' hh => ⟨_, hh.1, rfl, hh.2⟩) (fun v11 W11 a11 hR11 h11 d11 => ?_)
  replace d11 := d11.trans d10
  clear h10 d10
  obtain ⟨rfl, e1⟩ := hR11
  obtain rfl := e1.symm
  refine opsP (N := 53) (T := TT) (M := (fun _ _ => none)) tabOk (fun _ _ _ h => by cases h) [] [3] [(0, .v (.slice none 0 0)), (1, .v (.slice none 0 0)), (2, .v (.slice none 0 0)), (6, .v (Value.slice none 0 0)), (7, .v (.int .i64 0)), (8, .v (.int .i64 0)), (9, .v (.slice none 0 0)), (18, .v (.bool false))] h11 (by kernel_rfl) ⟨by kernel_rfl, by kernel_rfl, by kernel_rfl, by kernel_rfl, by kernel_rfl, by kernel_rfl, by kernel_rfl, by kernel_rfl, trivial⟩ (fun a12 h12 d12 => ?_)
  replace d12 := d12.trans d11
  clear h11 d11
  show Code.wp _ _ _ _ _
  refine wp_seq ?_
  refine wp_seq ?_
  refine wp_region ?_
  refine opsP (N := 53) (T := TT) (M := (fun _ _ => none)) tabOk (fun _ _ _ h => by cases h) [] [0] [(0, .v (.slice none 0 0)), (1, .v (.slice none 0 0)), (2, .v (.slice none 0 0)), (6, .v (Value.slice none 0 0)), (7, .v (.int .i64 0)), (8, .v (.int .i64 0)), (9, .v (.slice none 0 0)), (10, .v (.int .i64 0)), (18, .v (.bool false))] h12 (by kernel_rfl) ⟨by kernel_rfl, by kernel_rfl, by kernel_rfl, by kernel_rfl, by kernel_rfl, by kernel_rfl, by kernel_rfl, by kernel_rfl, by kernel_rfl, trivial⟩ (fun a13 h13 d13 => ?_)
  replace d13 := d13.trans d12
  clear h12 d12
  show Code.wp _ _ _ _ _
  refine wp_block ?_
  refine wp_loop_rounds 1 ?_
  rw [rounds_succ]
  refine wp_seq ?_
  refine wp_seq ?_
  refine wp_region ?_
  refine opsP (N := 53) (T := TT) (M := (fun _ _ => none)) tabOk (fun _ _ _ h => by cases h) [] [0, 1, 2] [(0, .v (.slice none 0 0)), (1, .v (.slice none 0 0)), (2, .v (.slice none 0 0)), (6, .v (Value.slice none 0 0)), (7, .v (.int .i64 0)), (8, .v (.int .i64 0)), (9, .v (.slice none 0 0)), (10, .v (.int .i64 0)), (18, .v (.bool false)), (27, .v (.bool false))] h13 (by kernel_rfl) ⟨by kernel_rfl, by kernel_rfl, by kernel_rfl, by kernel_rfl, by kernel_rfl, by kernel_rfl, by kernel_rfl, by kernel_rfl, by kernel_rfl, by kernel_rfl, trivial⟩ (fun a14 h14 d14 => ?_)
  replace d14 := d14.trans d13
  clear h13 d13
  show Code.wp _ _ _ _ _
  refine wp_cond_false (h14.2 27 _ rfl) ?_
  refine wp_exit ?_
  refine then_exit (then_exit ?_)
  refine exit_in ?_
  show Code.wp _ _ _ _ _
  have hF1 := Fr.refl [] w
  refine wp_seq ?_
  refine start_ (S := fun _ => True) (ds := []) (n := 9) _ (by kernel_rfl) rfl rfl (trivial) (fun hS15 => ?_)
  refine segP (S := fun _ => True) (ds := []) (T := TT) (M := fun _ _ => none) (N := 53) tabOk (fun _ _ _ _ _ h => by cases h) (fun _ _ _ _ hd h => And.intro (hd.trans (And.left h)) (And.right h)) hS15 [0, 1, 2] 6 [(0, .v (.slice none 0 0)), (1, .v (.slice none 0 0)), (2, .v (.slice none 0 0)), (6, .v (Value.slice none 0 0)), (7, .v (.int .i64 0)), (8, .v (.int .i64 0)), (9, .v (.slice none 0 0)), (10, .v (.int .i64 0)), (18, .v (.bool false)), (27, .v (.bool false)), (42, .v (.slice none 0 0)), (43, .v (.int .i64 0)), (44, .v (.int .i64 0))] h14 (by kernel_rfl) (by kernel_rfl) ⟨by kernel_rfl, by kernel_rfl, by kernel_rfl, by kernel_rfl, by kernel_rfl, by kernel_rfl, by kernel_rfl, by kernel_rfl, by kernel_rfl, by kernel_rfl, by kernel_rfl, by kernel_rfl, by kernel_rfl, trivial⟩ (fun a15 h15 d15 => ?_)
  replace d15 := d15.trans d14
  clear h14 d14
  refine segV (S := fun _ => True) (ds := []) (N := 53) (i := 3) (d := 45) (s := .v (.slice none 0 0)) (fun _ _ _ _ hd h => And.intro (hd.trans (And.left h)) (And.right h)) hS15 h15 rfl rfl rfl (by decide) (by kernel_rfl) (fun W' hW => (op_sllh (l := 0) (h := 0) rfl sltNat (h15.2 42 _ rfl) (h15.2 43 _ rfl) (h15.2 44 _ rfl) (by decide) (by decide)).trans rfl) (fun a16 h16 d16 => ?_)
  replace d16 := d16.trans d15
  clear h15 d15
  refine segP (S := fun _ => True) (ds := []) (T := TT) (M := fun _ _ => none) (N := 53) tabOk (fun _ _ _ _ _ h => by cases h) (fun _ _ _ _ hd h => And.intro (hd.trans (And.left h)) (And.right h)) hS15 [4, 5, 6] 2 [(0, .v (.slice none 0 0)), (1, .v (.slice none 0 0)), (2, .v (.slice none 0 0)), (6, .v (Value.slice none 0 0)), (7, .v (.int .i64 0)), (8, .v (.int .i64 0)), (9, .v (.slice none 0 0)), (10, .v (.int .i64 0)), (18, .v (.bool false)), (27, .v (.bool false)), (42, .v (.slice none 0 0)), (43, .v (.int .i64 0)), (44, .v (.int .i64 0)), (45, .v (.slice none 0 0)), (46, .v (.slice none 0 0)), (47, .v (.int .i64 0)), (48, .v (.int .i64 0))] h16 (by kernel_rfl) (by kernel_rfl) ⟨by kernel_rfl, by kernel_rfl, by kernel_rfl, by kernel_rfl, by kernel_rfl, by kernel_rfl, by kernel_rfl, by kernel_rfl, by kernel_rfl, by kernel_rfl, by kernel_rfl, by kernel_rfl, by kernel_rfl, by kernel_rfl, by kernel_rfl, by kernel_rfl, by kernel_rfl, trivial⟩ (fun a17 h17 d17 => ?_)
  replace d17 := d17.trans d16
  clear h16 d16
  refine segV (S := fun _ => True) (ds := []) (N := 53) (i := 7) (d := 49) (s := .v (.slice none 0 0)) (fun _ _ _ _ hd h => And.intro (hd.trans (And.left h)) (And.right h)) hS15 h17 rfl rfl rfl (by decide) (by kernel_rfl) (fun W' hW => (op_sllh (l := 0) (h := 0) rfl sltNat (h17.2 46 _ rfl) (h17.2 47 _ rfl) (h17.2 48 _ rfl) (by decide) (by decide)).trans rfl) (fun a18 h18 d18 => ?_)
  replace d18 := d18.trans d17
  clear h17 d17
  have hS19 : (fun _ => True) (w).drew := trivial
  refine stepN (S := fun _ => True) (ds := []) (N := 53) (j := 8) (d := 50) h18 rfl rfl rfl (by decide) (by kernel_rfl) (op_cp0 rfl sltNat (h18.2 45 _ rfl) (h18.2 49 _ rfl)) hS19 (fun a19 h19 d19 => ?_)
  replace d19 := d19.trans d18
  clear h18 d18
  refine done_ (by kernel_rfl) ?_
  show Code.wp _ _ _ _ _
  refine wp_seq ?_
  refine wp_region ?_
  refine opsP (N := 53) (T := TT) (M := (fun _ _ => none)) tabOk (fun _ _ _ h => by cases h) [1, 2] [0] [(0, .v (.slice none 0 0)), (1, .v (.slice none 0 0)), (2, .v (.slice none 0 0)), (6, .v (Value.slice none 0 0)), (7, .v (.int .i64 0)), (8, .v (.int .i64 0)), (10, .v (.int .i64 0)), (18, .v (.bool false)), (27, .v (.bool false)), (51, .v (.slice none 0 0))] h19 (by kernel_rfl) ⟨by kernel_rfl, by kernel_rfl, by kernel_rfl, by kernel_rfl, by kernel_rfl, by kernel_rfl, by kernel_rfl, by kernel_rfl, by kernel_rfl, by kernel_rfl, trivial⟩ (fun a20 h20 d20 => ?_)
  replace d20 := d20.trans d19
  clear h19 d19
  refine callW_ops (N := 53) (i := 1) (d := 52) (f := 46) (args := [.v (.slice none 0 0)]) (l := [2]) rfl (want_ rfl) rfl (by decide) h20 Try.func46 rfl rfl rfl (by kernel_rfl) (fun (v : Value) (w' : World) => v = .slice none 0 0 ∧ Fr [] w w') ((norm_nil _).mono fun e w' hh => ⟨_, hh.1, rfl, hh.2 ▸ hF1.drew⟩) (fun v21 W21 a21 hR21 h21 d21 => ?_)
  replace d21 := d21.trans d20
  clear h20 d20
  obtain ⟨rfl, hw5⟩ := hR21
  refine opsP (N := 53) (T := TT) (M := (fun _ _ => none)) tabOk (fun _ _ _ h => by cases h) [] [2] [(0, .v (.slice none 0 0)), (1, .v (.slice none 0 0)), (2, .v (.slice none 0 0)), (6, .v (.slice none 0 0)), (7, .v (.int .i64 0)), (8, .v (.int .i64 0)), (10, .v (.int .i64 0)), (18, .v (.bool false)), (27, .v (.bool false))] h21 (by kernel_rfl) ⟨by kernel_rfl, by kernel_rfl, by kernel_rfl, by kernel_rfl, by kernel_rfl, by kernel_rfl, by kernel_rfl, by kernel_rfl, by kernel_rfl, trivial⟩ (fun a22 h22 d22 => ?_)
  replace d22 := d22.trans d21
  clear h21 d21
  show Code.wp _ _ _ _ _
  refine wp_ret ?_
  exact ⟨d22, _, results_tmp rfl _ _ _, congrArg Ending.returned (h22.2 6 _ rfl), hw5⟩
end Go.Proofs.Ytjmgiodkfgdgnaa.PAll
namespace Go.Proofs.Ytjmgiodkfgdgnaa.PAll
open Go.RowKit Go.Proofs.YtjmgiodkfgdgnaaW.PrintWords Go.Proofs.YtjmgiodkfgdgnaaW.PrintLast Go.Proofs.YtjmgiodkfgdgnaaW.PrintMore
set_option linter.unusedVariables false
set_option linter.unusedSimpArgs false
theorem op_eqFF {ρ : Operand → Value} {o : Oper} {W : World} {t' : TypeId} {x y : Operand} (ho : o.op = .binOp .eql 4 x y t') (hx : ρ x = .bool false) (hy : ρ y = .bool false) : (execOp ρ o).run Try.prog W = .ok (.value (.bool true)) W := by
  have hb : (binOp .eql 4 (.bool false) (.bool false)).run Try.prog W = .ok (.bool true) W := by kernel_rfl
  unfold execOp
  rw [ho]
  simp [go_sem, eqGuard, hx, hy, hb]
theorem Fr.more {S : List Nat} {a b : World} (h : Fr S a b) (p : Nat) : Fr (p :: S) a b := ⟨h.1, h.2.1, h.2.2.1, h.2.2.2.1, fun k hk hn => h.2.2.2.2 k hk (fun hh => hn (List.mem_cons_of_mem _ hh))⟩
theorem Fr.here {S : List Nat} {a b : World} {p : Nat} (h : Fr [p] a b) : Fr (p :: S) a b := ⟨h.1, h.2.1, h.2.2.1, h.2.2.2.1, fun k hk hn => h.2.2.2.2 k hk (fun hh => hn (by
  rw [List.mem_singleton.1 hh]
  exact List.mem_cons_self))⟩
set_option maxHeartbeats 8000000 in
set_option maxRecDepth 100000 in
theorem Xor_of {S : List Nat} {R : World → Prop} {p q : Nat} {A B C : Option Addr} {n c m d k l : Nat} (w : World) (hI : IB w p false (.slice A n c)) (hJ : IB w q false (.slice B m d)) (hp : p ∉ S) (hq : q ∉ S) (hC : Calls Try.prog 42 #[.slice A n c, .slice A n c, .slice B m d] w.drew.drew fun e w' => e = .returned (.slice C k l) ∧ R w' ∧ Fr S w w') :
    Calls Try.prog 26 #[.pointer (some ⟨p, 0, none⟩), .pointer (some ⟨p, 0, none⟩), .pointer (some ⟨q, 0, none⟩)] w fun e w' => e = .returned (.pointer (some ⟨p, 0, none⟩)) ∧ IB w' p false (.slice C k l) ∧ Fr (p :: S) w w' ∧ ∃ V, R V ∧ Fr [p] V w' := by
  refine calls_of_wp Try.func26 rfl ?_
  have h0 := has_three (β := bn []) (.v (.pointer (some ⟨p, 0, none⟩))) (.v (.pointer (some ⟨p, 0, none⟩))) (.v (.pointer (some ⟨q, 0, none⟩))) 101
  have d0 : (⟨#[.pointer (some ⟨p, 0, none⟩), .pointer (some ⟨p, 0, none⟩), .pointer (some ⟨q, 0, none⟩)] ++ Array.replicate 101 undef, []⟩ : Act).defers = [] := rfl
  refine wp_seq ?_
  refine wp_region ?_
  refine opsP (N := 104) (T := TT) (M := (fun _ _ => none)) tabOk (fun _ _ _ h => by cases h) [] [0] [(0, .v (.pointer (some ⟨p, 0, none⟩))), (1, .v (.pointer (some ⟨p, 0, none⟩))), (2, .v (.pointer (some ⟨q, 0, none⟩))), (6, .v (Value.pointer none))] h0 (by kernel_rfl) ⟨by kernel_rfl, by kernel_rfl, by kernel_rfl, by kernel_rfl, trivial⟩ (fun a1 h1 d1 => ?_)
  replace d1 := d1.trans d0
  clear h0 d0
  show Code.wp _ _ _ _ _
  refine wp_seq ?_
  refine wp_seq ?_
  refine start_ (S := fun V => IB V p false (.slice A n c) ∧ IB V q false (.slice B m d)) (ds := []) (n := 9) _ (by kernel_rfl) rfl rfl (⟨hI, hJ⟩) (fun hS2 => ?_)
  refine segP (S := fun V => IB V p false (.slice A n c) ∧ IB V q false (.slice B m d)) (ds := []) (T := TT) (M := fun _ _ => none) (N := 104) tabOk (fun _ _ _ _ _ h => by cases h) (fun _ _ _ _ hd h => And.intro (hd.trans (And.left h)) (And.right h)) hS2 [0] 8 [(0, .v (.pointer (some ⟨p, 0, none⟩))), (1, .v (.pointer (some ⟨p, 0, none⟩))), (2, .v (.pointer (some ⟨q, 0, none⟩))), (6, .v (Value.pointer none)), (10, .v (.pointer (some ⟨p, 0, none⟩)))] h1 (by kernel_rfl) (by kernel_rfl) ⟨by kernel_rfl, by kernel_rfl, by kernel_rfl, by kernel_rfl, by kernel_rfl, trivial⟩ (fun a2 h2 d2 => ?_)
  replace d2 := d2.trans d1
  clear h1 d1
  refine segV (S := fun V => IB V p false (.slice A n c) ∧ IB V q false (.slice B m d)) (ds := []) (N := 104) (i := 1) (d := 11) (s := .v (.pointer (some ⟨p, 0, none⟩))) (fun _ _ _ _ hd h => And.intro (hd.trans (And.left h)) (And.right h)) hS2 h2 rfl rfl rfl (by decide) (by kernel_rfl) (fun W' hW => op_nilCheck rfl (h2.2 10 _ rfl)) (fun a3 h3 d3 => ?_)
  replace d3 := d3.trans d2
  clear h2 d2
  refine segV (S := fun V => IB V p false (.slice A n c) ∧ IB V q false (.slice B m d)) (ds := []) (N := 104) (i := 2) (d := 12) (s := .v (.pointer (some ⟨p, 0, none⟩))) (fun _ _ _ _ hd h => And.intro (hd.trans (And.left h)) (And.right h)) hS2 h3 rfl rfl rfl (by decide) (by kernel_rfl) (fun W' hW => op_fNeg rfl (h3.2 11 _ rfl)) (fun a4 h4 d4 => ?_)
  replace d4 := d4.trans d3
  clear h3 d3
  refine segV (S := fun V => IB V p false (.slice A n c) ∧ IB V q false (.slice B m d)) (ds := []) (N := 104) (i := 3) (d := 13) (s := .v (.bool false)) (fun _ _ _ _ hd h => And.intro (hd.trans (And.left h)) (And.right h)) hS2 h4 rfl rfl rfl (by decide) (by kernel_rfl) (fun W' hW => op_load rfl (h4.2 12 _ rfl) Try.isAgg4 hW.1.neg) (fun a5 h5 d5 => ?_)
  replace d5 := d5.trans d4
  clear h4 d4
  refine segP (S := fun V => IB V p false (.slice A n c) ∧ IB V q false (.slice B m d)) (ds := []) (T := TT) (M := fun _ _ => none) (N := 104) tabOk (fun _ _ _ _ _ h => by cases h) (fun _ _ _ _ hd h => And.intro (hd.trans (And.left h)) (And.right h)) hS2 [4] 4 [(0, .v (.pointer (some ⟨p, 0, none⟩))), (1, .v (.pointer (some ⟨p, 0, none⟩))), (2, .v (.pointer (some ⟨q, 0, none⟩))), (6, .v (Value.pointer none)), (10, .v (.pointer (some ⟨p, 0, none⟩))), (11, .v (.pointer (some ⟨p, 0, none⟩))), (12, .v (.pointer (some ⟨p, 0, none⟩))), (13, .v (.bool false)), (14, .v (.pointer (some ⟨q, 0, none⟩)))] h5 (by kernel_rfl) (by kernel_rfl) ⟨by kernel_rfl, by kernel_rfl, by kernel_rfl, by kernel_rfl, by kernel_rfl, by kernel_rfl, by kernel_rfl, by kernel_rfl, by kernel_rfl, trivial⟩ (fun a6 h6 d6 => ?_)
  replace d6 := d6.trans d5
  clear h5 d5
  refine segV (S := fun V => IB V p false (.slice A n c) ∧ IB V q false (.slice B m d)) (ds := []) (N := 104) (i := 5) (d := 15) (s := .v (.pointer (some ⟨q, 0, none⟩))) (fun _ _ _ _ hd h => And.intro (hd.trans (And.left h)) (And.right h)) hS2 h6 rfl rfl rfl (by decide) (by kernel_rfl) (fun W' hW => op_nilCheck rfl (h6.2 14 _ rfl)) (fun a7 h7 d7 => ?_)
  replace d7 := d7.trans d6
  clear h6 d6
  refine segV (S := fun V => IB V p false (.slice A n c) ∧ IB V q false (.slice B m d)) (ds := []) (N := 104) (i := 6) (d := 16) (s := .v (.pointer (some ⟨q, 0, none⟩))) (fun _ _ _ _ hd h => And.intro (hd.trans (And.left h)) (And.right h)) hS2 h7 rfl rfl rfl (by decide) (by kernel_rfl) (fun W' hW => op_fNeg rfl (h7.2 15 _ rfl)) (fun a8 h8 d8 => ?_)
  replace d8 := d8.trans d7
  clear h7 d7
  refine segV (S := fun V => IB V p false (.slice A n c) ∧ IB V q false (.slice B m d)) (ds := []) (N := 104) (i := 7) (d := 17) (s := .v (.bool false)) (fun _ _ _ _ hd h => And.intro (hd.trans (And.left h)) (And.right h)) hS2 h8 rfl rfl rfl (by decide) (by kernel_rfl) (fun W' hW => op_load rfl (h8.2 16 _ rfl) Try.isAgg4 hW.2.neg) (fun a9 h9 d9 => ?_)
  replace d9 := d9.trans d8
  clear h8 d8
  refine segV (S := fun V => IB V p false (.slice A n c) ∧ IB V q false (.slice B m d)) (ds := []) (N := 104) (i := 8) (d := 18) (s := .v (.bool true)) (fun _ _ _ _ hd h => And.intro (hd.trans (And.left h)) (And.right h)) hS2 h9 rfl rfl rfl (by decide) (by kernel_rfl) (fun W' hW => op_eqFF rfl (h9.2 13 _ rfl) (h9.2 17 _ rfl)) (fun a10 h10 d10 => ?_)
  replace d10 := d10.trans d9
  clear h9 d9
  refine done_ (by kernel_rfl) ?_
  show Code.wp _ _ _ _ _
  refine wp_cond_true (h10.2 18 _ rfl) ?_
  refine wp_seq ?_
  refine wp_seq ?_
  refine wp_region ?_
  refine opsP (N := 104) (T := TT) (M := (fun _ _ => none)) tabOk (fun _ _ _ h => by cases h) [1, 2, 3] [0] [(0, .v (.pointer (some ⟨p, 0, none⟩))), (1, .v (.pointer (some ⟨p, 0, none⟩))), (2, .v (.pointer (some ⟨q, 0, none⟩))), (6, .v (Value.pointer none)), (18, .v (.bool true)), (19, .v (.pointer (some ⟨p, 0, none⟩)))] h10 (by kernel_rfl) ⟨by kernel_rfl, by kernel_rfl, by kernel_rfl, by kernel_rfl, by kernel_rfl, by kernel_rfl, trivial⟩ (fun a11 h11 d11 => ?_)
  replace d11 := d11.trans d10
  clear h10 d10
  refine givenW_ops (N := 104) (i := 1) (d := 20) (s := .v (.pointer (some ⟨p, 0, none⟩))) (l := [2, 3]) rfl (want_ rfl) rfl (by decide) h11 (op_nilCheck rfl (h11.2 19 _ rfl)) (fun a12 h12 d12 => ?_)
  replace d12 := d12.trans d11
  clear h11 d11
  refine givenW_ops (N := 104) (i := 2) (d := 21) (s := .v (.pointer (some ⟨p, 0, none⟩))) (l := [3]) rfl (want_ rfl) rfl (by decide) h12 (op_fNeg rfl (h12.2 20 _ rfl)) (fun a13 h13 d13 => ?_)
  replace d13 := d13.trans d12
  clear h12 d12
  refine givenW_ops (N := 104) (i := 3) (d := 22) (s := .v (.bool false)) (l := []) rfl (want_ rfl) rfl (by decide) h13 (op_load rfl (h13.2 21 _ rfl) Try.isAgg4 hI.neg) (fun a14 h14 d14 => ?_)
  replace d14 := d14.trans d13
  clear h13 d13
  show Code.wp _ _ _ _ _
  refine wp_cond_false (h14.2 22 _ rfl) ?_
  refine wp_skip ?_
  show Code.wp _ _ _ _ _
  refine wp_seq ?_
  refine start_ (S := fun V => IB V p false (.slice A n c) ∧ IB V q false (.slice B m d)) (ds := [16]) (n := 17) _ (by kernel_rfl) rfl rfl (⟨hI, hJ⟩) (fun hS15 => ?_)
  refine segP (S := fun V => IB V p false (.slice A n c) ∧ IB V q false (.slice B m d)) (ds := [16]) (T := TT) (M := fun _ _ => none) (N := 104) tabOk (fun _ _ _ _ _ h => by cases h) (fun _ _ _ _ hd h => And.intro (hd.trans (And.left h)) (And.right h)) hS15 [0, 1] 15 [(0, .v (.pointer (some ⟨p, 0, none⟩))), (1, .v (.pointer (some ⟨p, 0, none⟩))), (2, .v (.pointer (some ⟨q, 0, none⟩))), (6, .v (Value.pointer none)), (18, .v (.bool true)), (22, .v (.bool false)), (49, .v (.pointer (some ⟨p, 0, none⟩))), (50, .v (.pointer (some ⟨p, 0, none⟩)))] h14 (by kernel_rfl) (by kernel_rfl) ⟨by kernel_rfl, by kernel_rfl, by kernel_rfl, by kernel_rfl, by kernel_rfl, by kernel_rfl, by kernel_rfl, by kernel_rfl, trivial⟩ (fun a15 h15 d15 => ?_)
  replace d15 := d15.trans d14
  clear h14 d14
  refine segV (S := fun V => IB V p false (.slice A n c) ∧ IB V q false (.slice B m d)) (ds := [16]) (N := 104) (i := 2) (d := 51) (s := .v (.pointer (some ⟨p, 0, none⟩))) (fun _ _ _ _ hd h => And.intro (hd.trans (And.left h)) (And.right h)) hS15 h15 rfl rfl rfl (by decide) (by kernel_rfl) (fun W' hW => op_nilCheck rfl (h15.2 50 _ rfl)) (fun a16 h16 d16 => ?_)
  replace d16 := d16.trans d15
  clear h15 d15
  refine segV (S := fun V => IB V p false (.slice A n c) ∧ IB V q false (.slice B m d)) (ds := [16]) (N := 104) (i := 3) (d := 52) (s := .v (.pointer (some ⟨p, 1, none⟩))) (fun _ _ _ _ hd h => And.intro (hd.trans (And.left h)) (And.right h)) hS15 h16 rfl rfl rfl (by decide) (by kernel_rfl) (fun W' hW => op_fAbs rfl (h16.2 51 _ rfl)) (fun a17 h17 d17 => ?_)
  replace d17 := d17.trans d16
  clear h16 d16
  refine segV (S := fun V => IB V p false (.slice A n c) ∧ IB V q false (.slice B m d)) (ds := [16]) (N := 104) (i := 4) (d := 53) (s := .v (.slice A n c)) (fun _ _ _ _ hd h => And.intro (hd.trans (And.left h)) (And.right h)) hS15 h17 rfl rfl rfl (by decide) (by kernel_rfl) (fun W' hW => op_load rfl (h17.2 52 _ rfl) Try.isAgg47 hW.1.abs) (fun a18 h18 d18 => ?_)
  replace d18 := d18.trans d17
  clear h17 d17
  refine segP (S := fun V => IB V p false (.slice A n c) ∧ IB V q false (.slice B m d)) (ds := [16]) (T := TT) (M := fun _ _ => none) (N := 104) tabOk (fun _ _ _ _ _ h => by cases h) (fun _ _ _ _ hd h => And.intro (hd.trans (And.left h)) (And.right h)) hS15 [5] 11 [(0, .v (.pointer (some ⟨p, 0, none⟩))), (1, .v (.pointer (some ⟨p, 0, none⟩))), (2, .v (.pointer (some ⟨q, 0, none⟩))), (6, .v (Value.pointer none)), (18, .v (.bool true)), (22, .v (.bool false)), (49, .v (.pointer (some ⟨p, 0, none⟩))), (50, .v (.pointer (some ⟨p, 0, none⟩))), (51, .v (.pointer (some ⟨p, 0, none⟩))), (52, .v (.pointer (some ⟨p, 1, none⟩))), (53, .v (.slice A n c)), (54, .v (.pointer (some ⟨p, 0, none⟩)))] h18 (by kernel_rfl) (by kernel_rfl) ⟨by kernel_rfl, by kernel_rfl, by kernel_rfl, by kernel_rfl, by kernel_rfl, by kernel_rfl, by kernel_rfl, by kernel_rfl, by kernel_rfl, by kernel_rfl, by kernel_rfl, by kernel_rfl, trivial⟩ (fun a19 h19 d19 => ?_)
  replace d19 := d19.trans d18
  clear h18 d18
  refine segV (S := fun V => IB V p false (.slice A n c) ∧ IB V q false (.slice B m d)) (ds := [16]) (N := 104) (i := 6) (d := 55) (s := .v (.pointer (some ⟨p, 0, none⟩))) (fun _ _ _ _ hd h => And.intro (hd.trans (And.left h)) (And.right h)) hS15 h19 rfl rfl rfl (by decide) (by kernel_rfl) (fun W' hW => op_nilCheck rfl (h19.2 54 _ rfl)) (fun a20 h20 d20 => ?_)
  replace d20 := d20.trans d19
  clear h19 d19
  refine segV (S := fun V => IB V p false (.slice A n c) ∧ IB V q false (.slice B m d)) (ds := [16]) (N := 104) (i := 7) (d := 56) (s := .v (.pointer (some ⟨p, 1, none⟩))) (fun _ _ _ _ hd h => And.intro (hd.trans (And.left h)) (And.right h)) hS15 h20 rfl rfl rfl (by decide) (by kernel_rfl) (fun W' hW => op_fAbs rfl (h20.2 55 _ rfl)) (fun a21 h21 d21 => ?_)
  replace d21 := d21.trans d20
  clear h20 d20
  refine segV (S := fun V => IB V p false (.slice A n c) ∧ IB V q false (.slice B m d)) (ds := [16]) (N := 104) (i := 8) (d := 57) (s := .v (.slice A n c)) (fun _ _ _ _ hd h => And.intro (hd.trans (And.left h)) (And.right h)) hS15 h21 rfl rfl rfl (by decide) (by kernel_rfl) (fun W' hW => op_load rfl (h21.2 56 _ rfl) Try.isAgg47 hW.1.abs) (fun a22 h22 d22 => ?_)
  replace d22 := d22.trans d21
  clear h21 d21
  refine segP (S := fun V => IB V p false (.slice A n c) ∧ IB V q false (.slice B m d)) (ds := [16]) (T := TT) (M := fun _ _ => none) (N := 104) tabOk (fun _ _ _ _ _ h => by cases h) (fun _ _ _ _ hd h => And.intro (hd.trans (And.left h)) (And.right h)) hS15 [9] 7 [(0, .v (.pointer (some ⟨p, 0, none⟩))), (1, .v (.pointer (some ⟨p, 0, none⟩))), (2, .v (.pointer (some ⟨q, 0, none⟩))), (6, .v (Value.pointer none)), (18, .v (.bool true)), (22, .v (.bool false)), (49, .v (.pointer (some ⟨p, 0, none⟩))), (50, .v (.pointer (some ⟨p, 0, none⟩))), (51, .v (.pointer (some ⟨p, 0, none⟩))), (52, .v (.pointer (some ⟨p, 1, none⟩))), (53, .v (.slice A n c)), (54, .v (.pointer (some ⟨p, 0, none⟩))), (55, .v (.pointer (some ⟨p, 0, none⟩))), (56, .v (.pointer (some ⟨p, 1, none⟩))), (57, .v (.slice A n c)), (58, .v (.pointer (some ⟨q, 0, none⟩)))] h22 (by kernel_rfl) (by kernel_rfl) ⟨by kernel_rfl, by kernel_rfl, by kernel_rfl, by kernel_rfl, by kernel_rfl, by kernel_rfl, by kernel_rfl, by kernel_rfl, by kernel_rfl, by kernel_rfl, by kernel_rfl, by kernel_rfl, by kernel_rfl, by kernel_rfl, by kernel_rfl, by kernel_rfl, trivial⟩ (fun a23 h23 d23 => ?_)
  replace d23 := d23.trans d22
  clear h22 d22
  refine segV (S := fun V => IB V p false (.slice A n c) ∧ IB V q false (.slice B m d)) (ds := [16]) (N := 104) (i := 10) (d := 59) (s := .v (.pointer (some ⟨q, 0, none⟩))) (fun _ _ _ _ hd h => And.intro (hd.trans (And.left h)) (And.right h)) hS15 h23 rfl rfl rfl (by decide) (by kernel_rfl) (fun W' hW => op_nilCheck rfl (h23.2 58 _ rfl)) (fun a24 h24 d24 => ?_)
  replace d24 := d24.trans d23
  clear h23 d23
  refine segV (S := fun V => IB V p false (.slice A n c) ∧ IB V q false (.slice B m d)) (ds := [16]) (N := 104) (i := 11) (d := 60) (s := .v (.pointer (some ⟨q, 1, none⟩))) (fun _ _ _ _ hd h => And.intro (hd.trans (And.left h)) (And.right h)) hS15 h24 rfl rfl rfl (by decide) (by kernel_rfl) (fun W' hW => op_fAbs rfl (h24.2 59 _ rfl)) (fun a25 h25 d25 => ?_)
  replace d25 := d25.trans d24
  clear h24 d24
  refine segV (S := fun V => IB V p false (.slice A n c) ∧ IB V q false (.slice B m d)) (ds := [16]) (N := 104) (i := 12) (d := 61) (s := .v (.slice B m d)) (fun _ _ _ _ hd h => And.intro (hd.trans (And.left h)) (And.right h)) hS15 h25 rfl rfl rfl (by decide) (by kernel_rfl) (fun W' hW => op_load rfl (h25.2 60 _ rfl) Try.isAgg47 hW.2.abs) (fun a26 h26 d26 => ?_)
  replace d26 := d26.trans d25
  clear h25 d25
  refine stepR (S := fun V => IB V p false (.slice A n c) ∧ IB V q false (.slice B m d)) (ds := [16]) (N := 104) (j := 13) (d := 62) (f := 42) (args := [.v (.slice A n c), .v (.slice A n c), .v (.slice B m d)]) h26 (by kernel_rfl) (by kernel_rfl) Try.func42 rfl rfl (fun (v : Value) (W' : World) => v = .slice C k l ∧ R W' ∧ Fr S w W') (fun v W' hh => ⟨hI.on hh.2.2 hp, hJ.on hh.2.2 hq⟩) (hC.mono fun e w' hh => ⟨_, hh.1, rfl, hh.2⟩) (fun a27 v27 W27 h27 d27 hR27 => ?_)
  replace d27 := d27.trans d26
  clear h26 d26
  have hS27 : (fun V => IB V p false (.slice A n c) ∧ IB V q false (.slice B m d)) W27 := (fun (v : Value) (W' : World) (hh : (fun (v : Value) (W' : World) => v = .slice C k l ∧ R W' ∧ Fr S w W') v W') => (show (fun V => IB V p false (.slice A n c) ∧ IB V q false (.slice B m d)) W' from ⟨hI.on hh.2.2 hp, hJ.on hh.2.2 hq⟩)) _ _ hR27
  obtain ⟨rfl, hR, hF⟩ := hR27
  have hI1 := hI.on hF hp
  refine segV (S := fun V => IB V p false (.slice A n c) ∧ IB V q false (.slice B m d)) (ds := [16]) (N := 104) (i := 14) (d := 63) (s := .v (.pointer (some ⟨p, 0, none⟩))) (fun _ _ _ _ hd h => And.intro (hd.trans (And.left h)) (And.right h)) hS27 h27 rfl rfl rfl (by decide) (by kernel_rfl) (fun W' hW => op_nilCheck rfl (h27.2 49 _ rfl)) (fun a28 h28 d28 => ?_)
  replace d28 := d28.trans d27
  clear h27 d27
  refine segV (S := fun V => IB V p false (.slice A n c) ∧ IB V q false (.slice B m d)) (ds := [16]) (N := 104) (i := 15) (d := 64) (s := .v (.pointer (some ⟨p, 1, none⟩))) (fun _ _ _ _ hd h => And.intro (hd.trans (And.left h)) (And.right h)) hS27 h28 rfl rfl rfl (by decide) (by kernel_rfl) (fun W' hW => op_fAbs rfl (h28.2 63 _ rfl)) (fun a29 h29 d29 => ?_)
  replace d29 := d29.trans d28
  clear h28 d28
  refine last_ (i := 16) (N := none) #[true, true, true, true, true, true, true, true, true, true, true, true, true, true, true, true, true] rfl rfl (by kernel_rfl) (by simp) (fun K2 hK2 => ?_)
  refine skip_ (want_ rfl) rfl (store_cell rfl (h29.2 64 _ rfl) (h29.2 62 _ rfl) Try.sizeOf47 (hI1.frozen 1) hI1.abs) ?_
  refine hK2.out _ _ ?_
  refine done_ (by kernel_rfl) ?_
  show Code.wp _ _ _ _ _
  have hI2 := hI1.setAbs (.slice C k l)
  have hF2 := Fr.setc (W := W27) p 1 (.slice C k l)
  refine wp_seq ?_
  refine wp_region ?_
  refine opsP (N := 104) (T := TT) (M := (fun _ _ => none)) tabOk (fun _ _ _ h => by cases h) [1, 2, 3] [0] [(0, .v (.pointer (some ⟨p, 0, none⟩))), (1, .v (.pointer (some ⟨p, 0, none⟩))), (2, .v (.pointer (some ⟨q, 0, none⟩))), (6, .v (Value.pointer none)), (18, .v (.bool true)), (22, .v (.bool false)), (65, .v (.pointer (some ⟨p, 0, none⟩)))] h29 (by kernel_rfl) ⟨by kernel_rfl, by kernel_rfl, by kernel_rfl, by kernel_rfl, by kernel_rfl, by kernel_rfl, by kernel_rfl, trivial⟩ (fun a30 h30 d30 => ?_)
  replace d30 := d30.trans d29
  clear h29 d29
  refine givenW_ops (N := 104) (i := 1) (d := 66) (s := .v (.pointer (some ⟨p, 0, none⟩))) (l := [2, 3]) rfl (want_ rfl) rfl (by decide) h30 (op_nilCheck rfl (h30.2 65 _ rfl)) (fun a31 h31 d31 => ?_)
  replace d31 := d31.trans d30
  clear h30 d30
  refine givenW_ops (N := 104) (i := 2) (d := 67) (s := .v (.pointer (some ⟨p, 0, none⟩))) (l := [3]) rfl (want_ rfl) rfl (by decide) h31 (op_fNeg rfl (h31.2 66 _ rfl)) (fun a32 h32 d32 => ?_)
  replace d32 := d32.trans d31
  clear h31 d31
  refine st_ops (i := 3) (l := []) rfl rfl rfl (op_store rfl (h32.2 67 _ rfl) rfl (Or.inr ⟨_, rfl⟩) Try.sizeOf4 hI2.neg (hI2.frozen 0)) ?_
  have hI3 := hI2.setNeg false
  have hF3 := hF2.trans (Fr.setc p 0 (.bool false))
  show Code.wp _ _ _ _ _
  refine wp_seq ?_
  refine wp_region ?_
  refine opsP (N := 104) (T := TT) (M := (fun _ _ => none)) tabOk (fun _ _ _ h => by cases h) [] [0, 1] [(0, .v (.pointer (some ⟨p, 0, none⟩))), (1, .v (.pointer (some ⟨p, 0, none⟩))), (2, .v (.pointer (some ⟨q, 0, none⟩))), (6, .v (.pointer (some ⟨p, 0, none⟩))), (18, .v (.bool true)), (22, .v (.bool false))] h32 (by kernel_rfl) ⟨by kernel_rfl, by kernel_rfl, by kernel_rfl, by kernel_rfl, by kernel_rfl, by kernel_rfl, trivial⟩ (fun a33 h33 d33 => ?_)
  replace d33 := d33.trans d32
  clear h32 d32
  show Code.wp _ _ _ _ _
  refine wp_ret ?_
  exact ⟨d33, _, results_tmp rfl _ _ _, congrArg Ending.returned (h33.2 6 _ rfl), hI3, (hF.more p).trans hF3.here, _, hR, hF3⟩
end Go.Proofs.Ytjmgiodkfgdgnaa.PAll
namespace Go.Proofs.Ytjmgiodkfgdgnaa.PAll
open Go.RowKit Go.Proofs.YtjmgiodkfgdgnaaW.PrintWords Go.Proofs.YtjmgiodkfgdgnaaW.PrintLast Go.Proofs.YtjmgiodkfgdgnaaW.PrintMore
set_option linter.unusedVariables false
set_option linter.unusedSimpArgs false
theorem allocInt : AllocOk Try.prog 49 #[.bool false, .slice none 0 0] := by
  intro ρ o W ho
  unfold execOp
  rw [ho]
  simp [go_sem]
theorem op_allocI {ρ : Operand → Value} {o : Oper} {W : World} (ho : o.op = .alloc 49) : (execOp ρ o).run Try.prog W = .ok (.value (.pointer (some ⟨W.heap.size, 0, none⟩))) (W.alloc (.cells #[.bool false, .slice none 0 0] 49)) := allocInt ρ o W ho
theorem op_boxA {P : Program} {ρ : Operand → Value} {o : Oper} {W : World} {t : TypeId} {x : Operand} {cs : Array Value} (ho : o.op = .box t x) (hx : ρ x = .agg cs) : (execOp ρ o).run P W = .ok (.value (.pointer (some ⟨W.heap.size, 0, none⟩))) (W.alloc (.cells cs t)) := by
  unfold execOp
  rw [ho]
  simp [go_sem, hx]
theorem newR_ops {P : Program} {ops : Array Oper} {Q : Exit → Act → World → Prop} {N : Nat} {β : Nat → Nat} {i d : Nat} {o : Oper} {v : Value} {l : List Nat} {a : Act} {w w1 : World} {E : List (Nat × SV)} (ho : ops[i]? = some o) (hg : o.guard = none) (hd : o.dst = some d) (hN : d < N) (hA : Has N β E a) (hrun : (execOp a.eval o).run P w = .ok (.value v) w1) (R : World → Prop) (hR : R w1)
    (h : ∀ a' W', R W' → Has N β ((d, .v v) :: E) a' → a'.defers = a.defers → wpOps P ops Q l a' W') : wpOps P ops Q (i :: l) a w := new_ops ho hg hd hN hA hrun (fun a' h1 h2 => h a' w1 hR h1 h2)
/-- The block b holds the two halves of a number of 128 bits. -/
def UB (W : World) (b : Nat) (lo hi : Int) : Prop := W.heap[b]? = some (.cells #[.int .u64 lo, .int .u64 hi] 38 (0, 0))
theorem UB.lt {W : World} {b : Nat} {lo hi : Int} (h : UB W b lo hi) : b < W.heap.size := (Array.getElem?_eq_some_iff.1 h).1
theorem UB.lo {W : World} {b : Nat} {lo hi : Int} (h : UB W b lo hi) : W.cell? ⟨b, 0, none⟩ = some (.int .u64 lo) := by
  unfold UB at h
  simp [World.cell?, h]
theorem UB.hi {W : World} {b : Nat} {lo hi : Int} (h : UB W b lo hi) : W.cell? ⟨b, 1, none⟩ = some (.int .u64 hi) := by
  unfold UB at h
  simp [World.cell?, h]
theorem UB.on {W W' : World} {b : Nat} {lo hi : Int} {S : List Nat} (h : UB W b lo hi) (hF : Fr S W W') (hg : b ∉ S) : UB W' b lo hi := (hF.2.2.2.2 b h.lt hg).trans h
theorem UB.new (W : World) (lo hi : Int) : UB (W.alloc (.cells #[.int .u64 lo, .int .u64 hi] 38)) W.heap.size lo hi := (MapKept.heap_alloc W _).1
theorem IB.new (W : World) : IB (W.alloc (.cells #[.bool false, .slice none 0 0] 49)) W.heap.size false (.slice none 0 0) := (MapKept.heap_alloc W _).1
theorem fr_alloc (S : List Nat) (W : World) (o : Obj) : Fr S W (W.alloc o) := (Fr.refl S W).alloc o
theorem op_fU {ρ : Operand → Value} {o : Oper} {W : World} {x : Operand} {p : Nat} (ho : o.op = .fieldAddr 38 x 1) (hx : ρ x = .pointer (some ⟨p, 0, none⟩)) : (execOp ρ o).run Try.prog W = .ok (.value (.pointer (some ⟨p, 1, none⟩))) W :=
  (op_field (n := 0) ho hx Try.underlying38 rfl Try.sizeOf22).trans rfl
theorem op_fU0 {ρ : Operand → Value} {o : Oper} {W : World} {x : Operand} {p : Nat} (ho : o.op = .fieldAddr 38 x 0) (hx : ρ x = .pointer (some ⟨p, 0, none⟩)) : (execOp ρ o).run Try.prog W = .ok (.value (.pointer (some ⟨p, 0, none⟩))) W :=
  (op_field (n := 0) ho hx Try.underlying38 rfl Try.sizeOf22).trans rfl
/-- The block p holds the number of the words l. -/
def BigIs (W : World) (p : Nat) (l : List Int) : Prop := ∃ A n c, IB W p false (.slice A n c) ∧ n ≤ c ∧ c ≤ 7 ∧ l.length = n ∧ (0 < n → ∃ g m, A = some ⟨g, 0, none⟩ ∧ Wd W g m ∧ n ≤ m.length ∧ m.take n = l)
set_option maxHeartbeats 8000000 in
set_option maxRecDepth 100000 in
theorem big_a1 (lo hi : Nat) (hx : ((hi : Nat) : Int) ≠ 0) (hy : ((lo : Nat) : Int) ≠ 0) (hl : lo < 18446744073709551616) (w : World) :
    Calls Try.prog 12 #[.agg #[.int .u64 ((lo : Nat) : Int), .int .u64 ((hi : Nat) : Int)]] w fun e w' => ∃ p, e = .returned (.pointer (some ⟨p, 0, none⟩)) ∧ BigIs w' p [((lo : Nat) : Int), ((hi : Nat) : Int)] ∧ Below w.heap.size w w' := by
  refine calls_of_wp Try.func12 rfl ?_
  have h0 := has_one (β := bn []) (.v (.agg #[.int .u64 ((lo : Nat) : Int), .int .u64 ((hi : Nat) : Int)])) 18
  have d0 : (⟨#[.agg #[.int .u64 ((lo : Nat) : Int), .int .u64 ((hi : Nat) : Int)]] ++ Array.replicate 18 undef, []⟩ : Act).defers = [] := rfl
  refine wp_seq ?_
  refine wp_region ?_
  refine newR_ops (N := 19) (i := 0) (d := 1) (v := (.pointer (some ⟨w.heap.size, 0, none⟩))) (l := [1]) rfl rfl rfl (by decide) h0 (op_boxA rfl (h0.2 0 _ rfl)) (fun V => UB V w.heap.size ((lo : Nat) : Int) ((hi : Nat) : Int) ∧ Below w.heap.size w V) (⟨UB.new w _ _, (Below.refl w.heap.size w).alloc (Nat.le_refl _) _⟩) (fun a1 W1 r1 h1 d1 => ?_)
  replace d1 := d1.trans d0
  clear h0 d0
  obtain ⟨hU, hB⟩ := r1
  have hlt := hU.lt
  obtain ⟨u, hu⟩ : ∃ u, u = w.heap.size := ⟨_, rfl⟩
  rw [← hu] at hU hlt
  have hBu : w.heap.size ≤ u := by omega
  rw [← hu] at h1
  refine opsP (N := 19) (T := TT) (M := (fun _ _ => none)) tabOk (fun _ _ _ h => by cases h) [] [1] [(1, .v (.pointer (some ⟨u, 0, none⟩))), (2, .v (Value.pointer none))] h1 (by kernel_rfl) ⟨by kernel_rfl, by kernel_rfl, trivial⟩ (fun a2 h2 d2 => ?_)
  replace d2 := d2.trans d1
  clear h1 d1
  show Code.wp _ _ _ _ _
  refine wp_seq ?_
  refine wp_region ?_
  obtain ⟨p, hp⟩ : ∃ p, p = W1.heap.size := ⟨_, rfl⟩
  refine newR_ops (N := 19) (i := 0) (d := 4) (v := (.pointer (some ⟨p, 0, none⟩))) (l := [1, 2, 3, 4]) rfl rfl rfl (by decide) h2 (by rw [hp]; exact op_allocI rfl) (fun V => IB V p false (.slice none 0 0) ∧ Below w.heap.size w V ∧ Fr [] W1 V) (⟨by rw [hp]; exact IB.new W1, hB.trans ((Below.refl w.heap.size W1).alloc hB.size _), fr_alloc [] _ _⟩) (fun a3 W3 r3 h3 d3 => ?_)
  replace d3 := d3.trans d2
  clear h2 d2
  obtain ⟨hpI, hB, hF⟩ := r3
  replace hU := hU.on hF (by simp)
  refine givenW_ops (N := 19) (i := 1) (d := 5) (s := .v (.pointer (some ⟨u, 1, none⟩))) (l := [2, 3, 4]) rfl (want_ rfl) rfl (by decide) h3 (op_fU rfl (h3.2 1 _ rfl)) (fun a4 h4 d4 => ?_)
  replace d4 := d4.trans d3
  clear h3 d3
  refine givenW_ops (N := 19) (i := 2) (d := 6) (s := .v (.int .u64 ((hi : Nat) : Int))) (l := [3, 4]) rfl (want_ rfl) rfl (by decide) h4 (op_load rfl (h4.2 5 _ rfl) Try.isAgg22 hU.hi) (fun a5 h5 d5 => ?_)
  replace d5 := d5.trans d4
  clear h4 d4
  obtain ⟨g1, hg1⟩ : ∃ g1, g1 = W3.heap.size := ⟨_, rfl⟩
  refine callW_ops (N := 19) (i := 3) (d := 7) (f := 24) (args := [.v (.pointer (some ⟨p, 0, none⟩)), .v (.int .u64 ((hi : Nat) : Int))]) (l := [4]) rfl (want_ rfl) rfl (by decide) h5 Try.func24 rfl rfl rfl (by kernel_rfl) (fun (v : Value) (W' : World) => v = .pointer (some ⟨p, 0, none⟩) ∧ IB W' p false (.slice (some ⟨g1, 0, none⟩) 1 1) ∧ Wd W' g1 [((hi : Nat) : Int)] ∧ Fr [p] W3 W') ((SetU_word p false ((hi : Nat) : Int) hx _ hpI).mono fun e w' hh => ⟨_, hh.1, rfl, hg1 ▸ hh.2⟩) (fun v6 W6 a6 hR6 h6 d6 => ?_)
  replace d6 := d6.trans d5
  clear h5 d5
  obtain ⟨rfl, hpI, hw, hF⟩ := hR6
  have hup : u ≠ p := by omega
  replace hU := hU.on hF (by simpa using hup)
  replace hB := hB.trans (hF.below w.heap.size hB.size (by simp; omega))
  refine opsP (N := 19) (T := TT) (M := (fun _ _ => none)) tabOk (fun _ _ _ h => by cases h) [] [4] [(1, .v (.pointer (some ⟨u, 0, none⟩))), (2, .v (Value.pointer none)), (3, .v (.pointer (some ⟨p, 0, none⟩)))] h6 (by kernel_rfl) ⟨by kernel_rfl, by kernel_rfl, by kernel_rfl, trivial⟩ (fun a7 h7 d7 => ?_)
  replace d7 := d7.trans d6
  clear h6 d6
  show Code.wp _ _ _ _ _
  refine wp_seq ?_
  refine wp_region ?_
  refine opsP (N := 19) (T := TT) (M := (fun _ _ => none)) tabOk (fun _ _ _ h => by cases h) [2, 3] [0, 1] [(1, .v (.pointer (some ⟨u, 0, none⟩))), (2, .v (Value.pointer none)), (3, .v (.pointer (some ⟨p, 0, none⟩))), (8, .v (.pointer (some ⟨p, 0, none⟩))), (9, .v (.pointer (some ⟨p, 0, none⟩)))] h7 (by kernel_rfl) ⟨by kernel_rfl, by kernel_rfl, by kernel_rfl, by kernel_rfl, by kernel_rfl, trivial⟩ (fun a8 h8 d8 => ?_)
  replace d8 := d8.trans d7
  clear h7 d7
  obtain ⟨g2, hg2⟩ : ∃ g2, g2 = W6.heap.size := ⟨_, rfl⟩
  refine callW_ops (N := 19) (i := 2) (d := 10) (f := 25) (args := [.v (.pointer (some ⟨p, 0, none⟩)), .v (.pointer (some ⟨p, 0, none⟩)), .v (.int .u64 64)]) (l := [3]) rfl (want_ rfl) rfl (by decide) h8 Try.func25 rfl rfl rfl (by kernel_rfl) (fun (v : Value) (W' : World) => v = .pointer (some ⟨p, 0, none⟩) ∧ IB W' p false (.slice (some ⟨g2, 0, none⟩) 2 7) ∧ Wd W' g2 [0, ((hi : Nat) : Int), 0, 0, 0, 0, 0] ∧ Fr [p] W6 W') ((Lsh_one p g1 1 false ((hi : Nat) : Int) hx (by decide) _ hpI hw).mono fun e w' hh => ⟨_, hh.1, rfl, hg2 ▸ hh.2⟩) (fun v9 W9 a9 hR9 h9 d9 => ?_)
  replace d9 := d9.trans d8
  clear h8 d8
  have hpg2 : p < g2 := by have := hpI.lt; omega
  obtain ⟨rfl, hpI, hw, hF⟩ := hR9
  replace hU := hU.on hF (by simpa using hup)
  replace hB := hB.trans (hF.below w.heap.size hB.size (by simp; omega))
  refine opsP (N := 19) (T := TT) (M := (fun _ _ => none)) tabOk (fun _ _ _ h => by cases h) [] [3] [(1, .v (.pointer (some ⟨u, 0, none⟩))), (2, .v (Value.pointer none)), (3, .v (.pointer (some ⟨p, 0, none⟩)))] h9 (by kernel_rfl) ⟨by kernel_rfl, by kernel_rfl, by kernel_rfl, trivial⟩ (fun a10 h10 d10 => ?_)
  replace d10 := d10.trans d9
  clear h9 d9
  show Code.wp _ _ _ _ _
  refine wp_seq ?_
  refine wp_region ?_
  refine opsP (N := 19) (T := TT) (M := (fun _ _ => none)) tabOk (fun _ _ _ h => by cases h) [2, 3, 4, 5, 6, 7] [0, 1] [(1, .v (.pointer (some ⟨u, 0, none⟩))), (2, .v (Value.pointer none)), (3, .v (.pointer (some ⟨p, 0, none⟩))), (11, .v (.pointer (some ⟨p, 0, none⟩))), (12, .v (.pointer (some ⟨p, 0, none⟩)))] h10 (by kernel_rfl) ⟨by kernel_rfl, by kernel_rfl, by kernel_rfl, by kernel_rfl, by kernel_rfl, trivial⟩ (fun a11 h11 d11 => ?_)
  replace d11 := d11.trans d10
  clear h10 d10
  have hplt := hpI.lt
  obtain ⟨q, hq⟩ : ∃ q, q = W9.heap.size := ⟨_, rfl⟩
  refine newR_ops (N := 19) (i := 2) (d := 13) (v := (.pointer (some ⟨q, 0, none⟩))) (l := [3, 4, 5, 6, 7]) rfl rfl rfl (by decide) h11 (by rw [hq]; exact op_allocI rfl) (fun V => IB V q false (.slice none 0 0) ∧ Below w.heap.size w V ∧ Fr [] W9 V) (⟨by rw [hq]; exact IB.new W9, hB.trans ((Below.refl w.heap.size W9).alloc hB.size _), fr_alloc [] _ _⟩) (fun a12 W12 r12 h12 d12 => ?_)
  replace d12 := d12.trans d11
  clear h11 d11
  obtain ⟨hqI, hB, hF⟩ := r12
  replace hU := hU.on hF (by simp)
  replace hpI := hpI.on hF (by simp)
  have hg2q : g2 < q := by have := hw.lt; omega
  replace hw := hw.on hF (by simp)
  refine givenW_ops (N := 19) (i := 3) (d := 14) (s := .v (.pointer (some ⟨u, 0, none⟩))) (l := [4, 5, 6, 7]) rfl (want_ rfl) rfl (by decide) h12 (op_fU0 rfl (h12.2 1 _ rfl)) (fun a13 h13 d13 => ?_)
  replace d13 := d13.trans d12
  clear h12 d12
  refine givenW_ops (N := 19) (i := 4) (d := 15) (s := .v (.int .u64 ((lo : Nat) : Int))) (l := [5, 6, 7]) rfl (want_ rfl) rfl (by decide) h13 (op_load rfl (h13.2 14 _ rfl) Try.isAgg22 hU.lo) (fun a14 h14 d14 => ?_)
  replace d14 := d14.trans d13
  clear h13 d13
  obtain ⟨g3, hg3⟩ : ∃ g3, g3 = W12.heap.size := ⟨_, rfl⟩
  have hqg3 : q < g3 := by have := hqI.lt; omega
  refine callW_ops (N := 19) (i := 5) (d := 16) (f := 24) (args := [.v (.pointer (some ⟨q, 0, none⟩)), .v (.int .u64 ((lo : Nat) : Int))]) (l := [6, 7]) rfl (want_ rfl) rfl (by decide) h14 Try.func24 rfl rfl rfl (by kernel_rfl) (fun (v : Value) (W' : World) => v = .pointer (some ⟨q, 0, none⟩) ∧ IB W' q false (.slice (some ⟨g3, 0, none⟩) 1 1) ∧ Wd W' g3 [((lo : Nat) : Int)] ∧ Fr [q] W12 W') ((SetU_word q false ((lo : Nat) : Int) hy _ hqI).mono fun e w' hh => ⟨_, hh.1, rfl, hg3 ▸ hh.2⟩) (fun v15 W15 a15 hR15 h15 d15 => ?_)
  replace d15 := d15.trans d14
  clear h14 d14
  obtain ⟨rfl, hqI, hv, hF⟩ := hR15
  have hpq : p < q := by omega
  replace hpI := hpI.on hF (by simp; omega)
  replace hB := hB.trans (hF.below w.heap.size hB.size (by simp; omega))
  replace hw := hw.on hF (by simp; omega)
  have hX := Xor_of (S := [g2]) (R := fun V => Wd V g2 [((lo : Nat) : Int), ((hi : Nat) : Int), 0, 0, 0, 0, 0]) (C := (some ⟨g2, 0, none⟩)) (k := 2) (l := 7) W15 hpI hqI (by simp; omega) (by simp; omega) ((xor_a1 g2 g3 ((hi : Nat) : Int) lo hx hl W15.drew.drew hw hv).mono fun e w' hh => ⟨hh.1, hh.2.1, hh.2.2⟩)
  refine callW_ops (N := 19) (i := 6) (d := 17) (f := 26) (args := [.v (.pointer (some ⟨p, 0, none⟩)), .v (.pointer (some ⟨p, 0, none⟩)), .v (.pointer (some ⟨q, 0, none⟩))]) (l := [7]) rfl (want_ rfl) rfl (by decide) h15 Try.func26 rfl rfl rfl (by kernel_rfl) (fun (v : Value) (W' : World) => v = .pointer (some ⟨p, 0, none⟩) ∧ IB W' p false (.slice (some ⟨g2, 0, none⟩) 2 7) ∧ Fr (p :: [g2]) W15 W' ∧ ∃ V, (fun V => Wd V g2 [((lo : Nat) : Int), ((hi : Nat) : Int), 0, 0, 0, 0, 0]) V ∧ Fr [p] V W') (hX.mono fun e w' hh => ⟨_, hh.1, rfl, hh.2⟩) (fun v16 W16 a16 hR16 h16 d16 => ?_)
  replace d16 := d16.trans d15
  clear h15 d15
  obtain ⟨rfl, hpI, hF, V, hV, hF2⟩ := hR16
  replace hB := hB.trans (hF.below w.heap.size hB.size (by simp; omega))
  refine opsP (N := 19) (T := TT) (M := (fun _ _ => none)) tabOk (fun _ _ _ h => by cases h) [] [7] [(1, .v (.pointer (some ⟨u, 0, none⟩))), (2, .v (Value.pointer none)), (3, .v (.pointer (some ⟨p, 0, none⟩)))] h16 (by kernel_rfl) ⟨by kernel_rfl, by kernel_rfl, by kernel_rfl, trivial⟩ (fun a17 h17 d17 => ?_)
  replace d17 := d17.trans d16
  clear h16 d16
  show Code.wp _ _ _ _ _
  refine wp_seq ?_
  refine wp_region ?_
  refine opsP (N := 19) (T := TT) (M := (fun _ _ => none)) tabOk (fun _ _ _ h => by cases h) [] [0, 1] [(1, .v (.pointer (some ⟨u, 0, none⟩))), (2, .v (.pointer (some ⟨p, 0, none⟩))), (3, .v (.pointer (some ⟨p, 0, none⟩)))] h17 (by kernel_rfl) ⟨by kernel_rfl, by kernel_rfl, by kernel_rfl, trivial⟩ (fun a18 h18 d18 => ?_)
  replace d18 := d18.trans d17
  clear h17 d17
  show Code.wp _ _ _ _ _
  refine wp_ret ?_
  exact ⟨d18, _, results_tmp rfl _ _ _, p, congrArg Ending.returned (h18.2 2 _ rfl), ⟨_, 2, 7, hpI, by decide, by decide, rfl, fun _ => ⟨g2, _, rfl, hV.on hF2 (by simp; omega), by simp, rfl⟩⟩, hB⟩
set_option maxHeartbeats 8000000 in
set_option maxRecDepth 100000 in
theorem big_a0 (hi : Nat) (hx : ((hi : Nat) : Int) ≠ 0) (w : World) :
    Calls Try.prog 12 #[.agg #[.int .u64 0, .int .u64 ((hi : Nat) : Int)]] w fun e w' => ∃ p, e = .returned (.pointer (some ⟨p, 0, none⟩)) ∧ BigIs w' p [0, ((hi : Nat) : Int)] ∧ Below w.heap.size w w' := by
  refine calls_of_wp Try.func12 rfl ?_
  have h0 := has_one (β := bn []) (.v (.agg #[.int .u64 0, .int .u64 ((hi : Nat) : Int)])) 18
  have d0 : (⟨#[.agg #[.int .u64 0, .int .u64 ((hi : Nat) : Int)]] ++ Array.replicate 18 undef, []⟩ : Act).defers = [] := rfl
  refine wp_seq ?_
  refine wp_region ?_
  refine newR_ops (N := 19) (i := 0) (d := 1) (v := (.pointer (some ⟨w.heap.size, 0, none⟩))) (l := [1]) rfl rfl rfl (by decide) h0 (op_boxA rfl (h0.2 0 _ rfl)) (fun V => UB V w.heap.size 0 ((hi : Nat) : Int) ∧ Below w.heap.size w V) (⟨UB.new w _ _, (Below.refl w.heap.size w).alloc (Nat.le_refl _) _⟩) (fun a1 W1 r1 h1 d1 => ?_)
  replace d1 := d1.trans d0
  clear h0 d0
  obtain ⟨hU, hB⟩ := r1
  have hlt := hU.lt
  obtain ⟨u, hu⟩ : ∃ u, u = w.heap.size := ⟨_, rfl⟩
  rw [← hu] at hU hlt
  have hBu : w.heap.size ≤ u := by omega
  rw [← hu] at h1
  refine opsP (N := 19) (T := TT) (M := (fun _ _ => none)) tabOk (fun _ _ _ h => by cases h) [] [1] [(1, .v (.pointer (some ⟨u, 0, none⟩))), (2, .v (Value.pointer none))] h1 (by kernel_rfl) ⟨by kernel_rfl, by kernel_rfl, trivial⟩ (fun a2 h2 d2 => ?_)
  replace d2 := d2.trans d1
  clear h1 d1
  show Code.wp _ _ _ _ _
  refine wp_seq ?_
  refine wp_region ?_
  obtain ⟨p, hp⟩ : ∃ p, p = W1.heap.size := ⟨_, rfl⟩
  refine newR_ops (N := 19) (i := 0) (d := 4) (v := (.pointer (some ⟨p, 0, none⟩))) (l := [1, 2, 3, 4]) rfl rfl rfl (by decide) h2 (by rw [hp]; exact op_allocI rfl) (fun V => IB V p false (.slice none 0 0) ∧ Below w.heap.size w V ∧ Fr [] W1 V) (⟨by rw [hp]; exact IB.new W1, hB.trans ((Below.refl w.heap.size W1).alloc hB.size _), fr_alloc [] _ _⟩) (fun a3 W3 r3 h3 d3 => ?_)
  replace d3 := d3.trans d2
  clear h2 d2
  obtain ⟨hpI, hB, hF⟩ := r3
  replace hU := hU.on hF (by simp)
  refine givenW_ops (N := 19) (i := 1) (d := 5) (s := .v (.pointer (some ⟨u, 1, none⟩))) (l := [2, 3, 4]) rfl (want_ rfl) rfl (by decide) h3 (op_fU rfl (h3.2 1 _ rfl)) (fun a4 h4 d4 => ?_)
  replace d4 := d4.trans d3
  clear h3 d3
  refine givenW_ops (N := 19) (i := 2) (d := 6) (s := .v (.int .u64 ((hi : Nat) : Int))) (l := [3, 4]) rfl (want_ rfl) rfl (by decide) h4 (op_load rfl (h4.2 5 _ rfl) Try.isAgg22 hU.hi) (fun a5 h5 d5 => ?_)
  replace d5 := d5.trans d4
  clear h4 d4
  obtain ⟨g1, hg1⟩ : ∃ g1, g1 = W3.heap.size := ⟨_, rfl⟩
  refine callW_ops (N := 19) (i := 3) (d := 7) (f := 24) (args := [.v (.pointer (some ⟨p, 0, none⟩)), .v (.int .u64 ((hi : Nat) : Int))]) (l := [4]) rfl (want_ rfl) rfl (by decide) h5 Try.func24 rfl rfl rfl (by kernel_rfl) (fun (v : Value) (W' : World) => v = .pointer (some ⟨p, 0, none⟩) ∧ IB W' p false (.slice (some ⟨g1, 0, none⟩) 1 1) ∧ Wd W' g1 [((hi : Nat) : Int)] ∧ Fr [p] W3 W') ((SetU_word p false ((hi : Nat) : Int) hx _ hpI).mono fun e w' hh => ⟨_, hh.1, rfl, hg1 ▸ hh.2⟩) (fun v6 W6 a6 hR6 h6 d6 => ?_)
  replace d6 := d6.trans d5
  clear h5 d5
  obtain ⟨rfl, hpI, hw, hF⟩ := hR6
  have hup : u ≠ p := by omega
  replace hU := hU.on hF (by simpa using hup)
  replace hB := hB.trans (hF.below w.heap.size hB.size (by simp; omega))
  refine opsP (N := 19) (T := TT) (M := (fun _ _ => none)) tabOk (fun _ _ _ h => by cases h) [] [4] [(1, .v (.pointer (some ⟨u, 0, none⟩))), (2, .v (Value.pointer none)), (3, .v (.pointer (some ⟨p, 0, none⟩)))] h6 (by kernel_rfl) ⟨by kernel_rfl, by kernel_rfl, by kernel_rfl, trivial⟩ (fun a7 h7 d7 => ?_)
  replace d7 := d7.trans d6
  clear h6 d6
  show Code.wp _ _ _ _ _
  refine wp_seq ?_
  refine wp_region ?_
  refine opsP (N := 19) (T := TT) (M := (fun _ _ => none)) tabOk (fun _ _ _ h => by cases h) [2, 3] [0, 1] [(1, .v (.pointer (some ⟨u, 0, none⟩))), (2, .v (Value.pointer none)), (3, .v (.pointer (some ⟨p, 0, none⟩))), (8, .v (.pointer (some ⟨p, 0, none⟩))), (9, .v (.pointer (some ⟨p, 0, none⟩)))] h7 (by kernel_rfl) ⟨by kernel_rfl, by kernel_rfl, by kernel_rfl, by kernel_rfl, by kernel_rfl, trivial⟩ (fun a8 h8 d8 => ?_)
  replace d8 := d8.trans d7
  clear h7 d7
  obtain ⟨g2, hg2⟩ : ∃ g2, g2 = W6.heap.size := ⟨_, rfl⟩
  refine callW_ops (N := 19) (i := 2) (d := 10) (f := 25) (args := [.v (.pointer (some ⟨p, 0, none⟩)), .v (.pointer (some ⟨p, 0, none⟩)), .v (.int .u64 64)]) (l := [3]) rfl (want_ rfl) rfl (by decide) h8 Try.func25 rfl rfl rfl (by kernel_rfl) (fun (v : Value) (W' : World) => v = .pointer (some ⟨p, 0, none⟩) ∧ IB W' p false (.slice (some ⟨g2, 0, none⟩) 2 7) ∧ Wd W' g2 [0, ((hi : Nat) : Int), 0, 0, 0, 0, 0] ∧ Fr [p] W6 W') ((Lsh_one p g1 1 false ((hi : Nat) : Int) hx (by decide) _ hpI hw).mono fun e w' hh => ⟨_, hh.1, rfl, hg2 ▸ hh.2⟩) (fun v9 W9 a9 hR9 h9 d9 => ?_)
  replace d9 := d9.trans d8
  clear h8 d8
  have hpg2 : p < g2 := by have := hpI.lt; omega
  obtain ⟨rfl, hpI, hw, hF⟩ := hR9
  replace hU := hU.on hF (by simpa using hup)
  replace hB := hB.trans (hF.below w.heap.size hB.size (by simp; omega))
  refine opsP (N := 19) (T := TT) (M := (fun _ _ => none)) tabOk (fun _ _ _ h => by cases h) [] [3] [(1, .v (.pointer (some ⟨u, 0, none⟩))), (2, .v (Value.pointer none)), (3, .v (.pointer (some ⟨p, 0, none⟩)))] h9 (by kernel_rfl) ⟨by kernel_rfl, by kernel_rfl, by kernel_rfl, trivial⟩ (fun a10 h10 d10 => ?_)
  replace d10 := d10.trans d9
  clear h9 d9
  show Code.wp _ _ _ _ _
  refine wp_seq ?_
  refine wp_region ?_
  refine opsP (N := 19) (T := TT) (M := (fun _ _ => none)) tabOk (fun _ _ _ h => by cases h) [2, 3, 4, 5, 6, 7] [0, 1] [(1, .v (.pointer (some ⟨u, 0, none⟩))), (2, .v (Value.pointer none)), (3, .v (.pointer (some ⟨p, 0, none⟩))), (11, .v (.pointer (some ⟨p, 0, none⟩))), (12, .v (.pointer (some ⟨p, 0, none⟩)))] h10 (by kernel_rfl) ⟨by kernel_rfl, by kernel_rfl, by kernel_rfl, by kernel_rfl, by kernel_rfl, trivial⟩ (fun a11 h11 d11 => ?_)
  replace d11 := d11.trans d10
  clear h10 d10
  have hplt := hpI.lt
  obtain ⟨q, hq⟩ : ∃ q, q = W9.heap.size := ⟨_, rfl⟩
  refine newR_ops (N := 19) (i := 2) (d := 13) (v := (.pointer (some ⟨q, 0, none⟩))) (l := [3, 4, 5, 6, 7]) rfl rfl rfl (by decide) h11 (by rw [hq]; exact op_allocI rfl) (fun V => IB V q false (.slice none 0 0) ∧ Below w.heap.size w V ∧ Fr [] W9 V) (⟨by rw [hq]; exact IB.new W9, hB.trans ((Below.refl w.heap.size W9).alloc hB.size _), fr_alloc [] _ _⟩) (fun a12 W12 r12 h12 d12 => ?_)
  replace d12 := d12.trans d11
  clear h11 d11
  obtain ⟨hqI, hB, hF⟩ := r12
  replace hU := hU.on hF (by simp)
  replace hpI := hpI.on hF (by simp)
  have hg2q : g2 < q := by have := hw.lt; omega
  replace hw := hw.on hF (by simp)
  refine givenW_ops (N := 19) (i := 3) (d := 14) (s := .v (.pointer (some ⟨u, 0, none⟩))) (l := [4, 5, 6, 7]) rfl (want_ rfl) rfl (by decide) h12 (op_fU0 rfl (h12.2 1 _ rfl)) (fun a13 h13 d13 => ?_)
  replace d13 := d13.trans d12
  clear h12 d12
  refine givenW_ops (N := 19) (i := 4) (d := 15) (s := .v (.int .u64 0)) (l := [5, 6, 7]) rfl (want_ rfl) rfl (by decide) h13 (op_load rfl (h13.2 14 _ rfl) Try.isAgg22 hU.lo) (fun a14 h14 d14 => ?_)
  replace d14 := d14.trans d13
  clear h13 d13
  refine callW_ops (N := 19) (i := 5) (d := 16) (f := 24) (args := [.v (.pointer (some ⟨q, 0, none⟩)), .v (.int .u64 0)]) (l := [6, 7]) rfl (want_ rfl) rfl (by decide) h14 Try.func24 rfl rfl rfl (by kernel_rfl) (fun (v : Value) (W' : World) => v = .pointer (some ⟨q, 0, none⟩) ∧ IB W' q false (.slice none 0 0) ∧ Fr [q] W12 W') ((SetU_zero q false _ hqI).mono fun e w' hh => ⟨_, hh.1, rfl, hh.2⟩) (fun v15 W15 a15 hR15 h15 d15 => ?_)
  replace d15 := d15.trans d14
  clear h14 d14
  obtain ⟨rfl, hqI, hF⟩ := hR15
  have hpq : p < q := by omega
  replace hpI := hpI.on hF (by simp; omega)
  replace hB := hB.trans (hF.below w.heap.size hB.size (by simp; omega))
  replace hw := hw.on hF (by simp; omega)
  have hX := Xor_of (S := [g2]) (R := fun V => Wd V g2 [0, ((hi : Nat) : Int), 0, 0, 0, 0, 0]) (C := (some ⟨g2, 0, none⟩)) (k := 2) (l := 7) W15 hpI hqI (by simp; omega) (by simp; omega) ((xor_a0 g2 ((hi : Nat) : Int) hx W15.drew.drew hw).mono fun e w' hh => ⟨hh.1, hh.2.1, hh.2.2⟩)
  refine callW_ops (N := 19) (i := 6) (d := 17) (f := 26) (args := [.v (.pointer (some ⟨p, 0, none⟩)), .v (.pointer (some ⟨p, 0, none⟩)), .v (.pointer (some ⟨q, 0, none⟩))]) (l := [7]) rfl (want_ rfl) rfl (by decide) h15 Try.func26 rfl rfl rfl (by kernel_rfl) (fun (v : Value) (W' : World) => v = .pointer (some ⟨p, 0, none⟩) ∧ IB W' p false (.slice (some ⟨g2, 0, none⟩) 2 7) ∧ Fr (p :: [g2]) W15 W' ∧ ∃ V, (fun V => Wd V g2 [0, ((hi : Nat) : Int), 0, 0, 0, 0, 0]) V ∧ Fr [p] V W') (hX.mono fun e w' hh => ⟨_, hh.1, rfl, hh.2⟩) (fun v16 W16 a16 hR16 h16 d16 => ?_)
  replace d16 := d16.trans d15
  clear h15 d15
  obtain ⟨rfl, hpI, hF, V, hV, hF2⟩ := hR16
  replace hB := hB.trans (hF.below w.heap.size hB.size (by simp; omega))
  refine opsP (N := 19) (T := TT) (M := (fun _ _ => none)) tabOk (fun _ _ _ h => by cases h) [] [7] [(1, .v (.pointer (some ⟨u, 0, none⟩))), (2, .v (Value.pointer none)), (3, .v (.pointer (some ⟨p, 0, none⟩)))] h16 (by kernel_rfl) ⟨by kernel_rfl, by kernel_rfl, by kernel_rfl, trivial⟩ (fun a17 h17 d17 => ?_)
  replace d17 := d17.trans d16
  clear h16 d16
  show Code.wp _ _ _ _ _
  refine wp_seq ?_
  refine wp_region ?_
  refine opsP (N := 19) (T := TT) (M := (fun _ _ => none)) tabOk (fun _ _ _ h => by cases h) [] [0, 1] [(1, .v (.pointer (some ⟨u, 0, none⟩))), (2, .v (.pointer (some ⟨p, 0, none⟩))), (3, .v (.pointer (some ⟨p, 0, none⟩)))] h17 (by kernel_rfl) ⟨by kernel_rfl, by kernel_rfl, by kernel_rfl, trivial⟩ (fun a18 h18 d18 => ?_)
  replace d18 := d18.trans d17
  clear h17 d17
  show Code.wp _ _ _ _ _
  refine wp_ret ?_
  exact ⟨d18, _, results_tmp rfl _ _ _, p, congrArg Ending.returned (h18.2 2 _ rfl), ⟨_, 2, 7, hpI, by decide, by decide, rfl, fun _ => ⟨g2, _, rfl, hV.on hF2 (by simp; omega), by simp, rfl⟩⟩, hB⟩
set_option maxHeartbeats 8000000 in
set_option maxRecDepth 100000 in
theorem big_b (lo : Nat) (hy : ((lo : Nat) : Int) ≠ 0) (h0 : lo ≠ 0) (w : World) :
    Calls Try.prog 12 #[.agg #[.int .u64 ((lo : Nat) : Int), .int .u64 0]] w fun e w' => ∃ p, e = .returned (.pointer (some ⟨p, 0, none⟩)) ∧ BigIs w' p [((lo : Nat) : Int)] ∧ Below w.heap.size w w' := by
  refine calls_of_wp Try.func12 rfl ?_
  have h0 := has_one (β := bn []) (.v (.agg #[.int .u64 ((lo : Nat) : Int), .int .u64 0])) 18
  have d0 : (⟨#[.agg #[.int .u64 ((lo : Nat) : Int), .int .u64 0]] ++ Array.replicate 18 undef, []⟩ : Act).defers = [] := rfl
  refine wp_seq ?_
  refine wp_region ?_
  refine newR_ops (N := 19) (i := 0) (d := 1) (v := (.pointer (some ⟨w.heap.size, 0, none⟩))) (l := [1]) rfl rfl rfl (by decide) h0 (op_boxA rfl (h0.2 0 _ rfl)) (fun V => UB V w.heap.size ((lo : Nat) : Int) 0 ∧ Below w.heap.size w V) (⟨UB.new w _ _, (Below.refl w.heap.size w).alloc (Nat.le_refl _) _⟩) (fun a1 W1 r1 h1 d1 => ?_)
  replace d1 := d1.trans d0
  clear h0 d0
  obtain ⟨hU, hB⟩ := r1
  have hlt := hU.lt
  obtain ⟨u, hu⟩ : ∃ u, u = w.heap.size := ⟨_, rfl⟩
  rw [← hu] at hU hlt
  have hBu : w.heap.size ≤ u := by omega
  rw [← hu] at h1
  refine opsP (N := 19) (T := TT) (M := (fun _ _ => none)) tabOk (fun _ _ _ h => by cases h) [] [1] [(1, .v (.pointer (some ⟨u, 0, none⟩))), (2, .v (Value.pointer none))] h1 (by kernel_rfl) ⟨by kernel_rfl, by kernel_rfl, trivial⟩ (fun a2 h2 d2 => ?_)
  replace d2 := d2.trans d1
  clear h1 d1
  show Code.wp _ _ _ _ _
  refine wp_seq ?_
  refine wp_region ?_
  obtain ⟨p, hp⟩ : ∃ p, p = W1.heap.size := ⟨_, rfl⟩
  refine newR_ops (N := 19) (i := 0) (d := 4) (v := (.pointer (some ⟨p, 0, none⟩))) (l := [1, 2, 3, 4]) rfl rfl rfl (by decide) h2 (by rw [hp]; exact op_allocI rfl) (fun V => IB V p false (.slice none 0 0) ∧ Below w.heap.size w V ∧ Fr [] W1 V) (⟨by rw [hp]; exact IB.new W1, hB.trans ((Below.refl w.heap.size W1).alloc hB.size _), fr_alloc [] _ _⟩) (fun a3 W3 r3 h3 d3 => ?_)
  replace d3 := d3.trans d2
  clear h2 d2
  obtain ⟨hpI, hB, hF⟩ := r3
  replace hU := hU.on hF (by simp)
  refine givenW_ops (N := 19) (i := 1) (d := 5) (s := .v (.pointer (some ⟨u, 1, none⟩))) (l := [2, 3, 4]) rfl (want_ rfl) rfl (by decide) h3 (op_fU rfl (h3.2 1 _ rfl)) (fun a4 h4 d4 => ?_)
  replace d4 := d4.trans d3
  clear h3 d3
  refine givenW_ops (N := 19) (i := 2) (d := 6) (s := .v (.int .u64 0)) (l := [3, 4]) rfl (want_ rfl) rfl (by decide) h4 (op_load rfl (h4.2 5 _ rfl) Try.isAgg22 hU.hi) (fun a5 h5 d5 => ?_)
  replace d5 := d5.trans d4
  clear h4 d4
  refine callW_ops (N := 19) (i := 3) (d := 7) (f := 24) (args := [.v (.pointer (some ⟨p, 0, none⟩)), .v (.int .u64 0)]) (l := [4]) rfl (want_ rfl) rfl (by decide) h5 Try.func24 rfl rfl rfl (by kernel_rfl) (fun (v : Value) (W' : World) => v = .pointer (some ⟨p, 0, none⟩) ∧ IB W' p false (.slice none 0 0) ∧ Fr [p] W3 W') ((SetU_zero p false _ hpI).mono fun e w' hh => ⟨_, hh.1, rfl, hh.2⟩) (fun v6 W6 a6 hR6 h6 d6 => ?_)
  replace d6 := d6.trans d5
  clear h5 d5
  obtain ⟨rfl, hpI, hF⟩ := hR6
  have hup : u ≠ p := by omega
  replace hU := hU.on hF (by simpa using hup)
  replace hB := hB.trans (hF.below w.heap.size hB.size (by simp; omega))
  refine opsP (N := 19) (T := TT) (M := (fun _ _ => none)) tabOk (fun _ _ _ h => by cases h) [] [4] [(1, .v (.pointer (some ⟨u, 0, none⟩))), (2, .v (Value.pointer none)), (3, .v (.pointer (some ⟨p, 0, none⟩)))] h6 (by kernel_rfl) ⟨by kernel_rfl, by kernel_rfl, by kernel_rfl, trivial⟩ (fun a7 h7 d7 => ?_)
  replace d7 := d7.trans d6
  clear h6 d6
  show Code.wp _ _ _ _ _
  refine wp_seq ?_
  refine wp_region ?_
  refine opsP (N := 19) (T := TT) (M := (fun _ _ => none)) tabOk (fun _ _ _ h => by cases h) [2, 3] [0, 1] [(1, .v (.pointer (some ⟨u, 0, none⟩))), (2, .v (Value.pointer none)), (3, .v (.pointer (some ⟨p, 0, none⟩))), (8, .v (.pointer (some ⟨p, 0, none⟩))), (9, .v (.pointer (some ⟨p, 0, none⟩)))] h7 (by kernel_rfl) ⟨by kernel_rfl, by kernel_rfl, by kernel_rfl, by kernel_rfl, by kernel_rfl, trivial⟩ (fun a8 h8 d8 => ?_)
  replace d8 := d8.trans d7
  clear h7 d7
  refine callW_ops (N := 19) (i := 2) (d := 10) (f := 25) (args := [.v (.pointer (some ⟨p, 0, none⟩)), .v (.pointer (some ⟨p, 0, none⟩)), .v (.int .u64 64)]) (l := [3]) rfl (want_ rfl) rfl (by decide) h8 Try.func25 rfl rfl rfl (by kernel_rfl) (fun (v : Value) (W' : World) => v = .pointer (some ⟨p, 0, none⟩) ∧ IB W' p false (.slice none 0 0) ∧ Fr [p] W6 W') ((Lsh_nil p false _ hpI).mono fun e w' hh => ⟨_, hh.1, rfl, hh.2⟩) (fun v9 W9 a9 hR9 h9 d9 => ?_)
  replace d9 := d9.trans d8
  clear h8 d8
  obtain ⟨rfl, hpI, hF⟩ := hR9
  replace hU := hU.on hF (by simpa using hup)
  replace hB := hB.trans (hF.below w.heap.size hB.size (by simp; omega))
  refine opsP (N := 19) (T := TT) (M := (fun _ _ => none)) tabOk (fun _ _ _ h => by cases h) [] [3] [(1, .v (.pointer (some ⟨u, 0, none⟩))), (2, .v (Value.pointer none)), (3, .v (.pointer (some ⟨p, 0, none⟩)))] h9 (by kernel_rfl) ⟨by kernel_rfl, by kernel_rfl, by kernel_rfl, trivial⟩ (fun a10 h10 d10 => ?_)
  replace d10 := d10.trans d9
  clear h9 d9
  show Code.wp _ _ _ _ _
  refine wp_seq ?_
  refine wp_region ?_
  refine opsP (N := 19) (T := TT) (M := (fun _ _ => none)) tabOk (fun _ _ _ h => by cases h) [2, 3, 4, 5, 6, 7] [0, 1] [(1, .v (.pointer (some ⟨u, 0, none⟩))), (2, .v (Value.pointer none)), (3, .v (.pointer (some ⟨p, 0, none⟩))), (11, .v (.pointer (some ⟨p, 0, none⟩))), (12, .v (.pointer (some ⟨p, 0, none⟩)))] h10 (by kernel_rfl) ⟨by kernel_rfl, by kernel_rfl, by kernel_rfl, by kernel_rfl, by kernel_rfl, trivial⟩ (fun a11 h11 d11 => ?_)
  replace d11 := d11.trans d10
  clear h10 d10
  have hplt := hpI.lt
  obtain ⟨q, hq⟩ : ∃ q, q = W9.heap.size := ⟨_, rfl⟩
  refine newR_ops (N := 19) (i := 2) (d := 13) (v := (.pointer (some ⟨q, 0, none⟩))) (l := [3, 4, 5, 6, 7]) rfl rfl rfl (by decide) h11 (by rw [hq]; exact op_allocI rfl) (fun V => IB V q false (.slice none 0 0) ∧ Below w.heap.size w V ∧ Fr [] W9 V) (⟨by rw [hq]; exact IB.new W9, hB.trans ((Below.refl w.heap.size W9).alloc hB.size _), fr_alloc [] _ _⟩) (fun a12 W12 r12 h12 d12 => ?_)
  replace d12 := d12.trans d11
  clear h11 d11
  obtain ⟨hqI, hB, hF⟩ := r12
  replace hU := hU.on hF (by simp)
  replace hpI := hpI.on hF (by simp)
  refine givenW_ops (N := 19) (i := 3) (d := 14) (s := .v (.pointer (some ⟨u, 0, none⟩))) (l := [4, 5, 6, 7]) rfl (want_ rfl) rfl (by decide) h12 (op_fU0 rfl (h12.2 1 _ rfl)) (fun a13 h13 d13 => ?_)
  replace d13 := d13.trans d12
  clear h12 d12
  refine givenW_ops (N := 19) (i := 4) (d := 15) (s := .v (.int .u64 ((lo : Nat) : Int))) (l := [5, 6, 7]) rfl (want_ rfl) rfl (by decide) h13 (op_load rfl (h13.2 14 _ rfl) Try.isAgg22 hU.lo) (fun a14 h14 d14 => ?_)
  replace d14 := d14.trans d13
  clear h13 d13
  obtain ⟨g3, hg3⟩ : ∃ g3, g3 = W12.heap.size := ⟨_, rfl⟩
  have hqg3 : q < g3 := by have := hqI.lt; omega
  refine callW_ops (N := 19) (i := 5) (d := 16) (f := 24) (args := [.v (.pointer (some ⟨q, 0, none⟩)), .v (.int .u64 ((lo : Nat) : Int))]) (l := [6, 7]) rfl (want_ rfl) rfl (by decide) h14 Try.func24 rfl rfl rfl (by kernel_rfl) (fun (v : Value) (W' : World) => v = .pointer (some ⟨q, 0, none⟩) ∧ IB W' q false (.slice (some ⟨g3, 0, none⟩) 1 1) ∧ Wd W' g3 [((lo : Nat) : Int)] ∧ Fr [q] W12 W') ((SetU_word q false ((lo : Nat) : Int) hy _ hqI).mono fun e w' hh => ⟨_, hh.1, rfl, hg3 ▸ hh.2⟩) (fun v15 W15 a15 hR15 h15 d15 => ?_)
  replace d15 := d15.trans d14
  clear h14 d14
  obtain ⟨rfl, hqI, hv, hF⟩ := hR15
  have hpq : p < q := by omega
  replace hpI := hpI.on hF (by simp; omega)
  replace hB := hB.trans (hF.below w.heap.size hB.size (by simp; omega))
  obtain ⟨g2, hg2⟩ : ∃ g2, g2 = W15.heap.size := ⟨_, rfl⟩
  have hpg2 : p < g2 := by have := hpI.lt; omega
  have hX := Xor_of (S := []) (R := fun V => Wd V g2 [((lo : Nat) : Int)]) (C := (some ⟨g2, 0, none⟩)) (k := 1) (l := 1) W15 hpI hqI (by simp) (by simp) ((xor_b g3 lo h0 W15.drew.drew hv).mono fun e w' hh => ⟨hh.1.trans (by rw [hg2]; rfl), hg2 ▸ hh.2.1, (show Fr [] W15.drew.drew w' from Fr.ofBelow [] hh.2.2)⟩)
  refine callW_ops (N := 19) (i := 6) (d := 17) (f := 26) (args := [.v (.pointer (some ⟨p, 0, none⟩)), .v (.pointer (some ⟨p, 0, none⟩)), .v (.pointer (some ⟨q, 0, none⟩))]) (l := [7]) rfl (want_ rfl) rfl (by decide) h15 Try.func26 rfl rfl rfl (by kernel_rfl) (fun (v : Value) (W' : World) => v = .pointer (some ⟨p, 0, none⟩) ∧ IB W' p false (.slice (some ⟨g2, 0, none⟩) 1 1) ∧ Fr (p :: []) W15 W' ∧ ∃ V, (fun V => Wd V g2 [((lo : Nat) : Int)]) V ∧ Fr [p] V W') (hX.mono fun e w' hh => ⟨_, hh.1, rfl, hh.2⟩) (fun v16 W16 a16 hR16 h16 d16 => ?_)
  replace d16 := d16.trans d15
  clear h15 d15
  obtain ⟨rfl, hpI, hF, V, hV, hF2⟩ := hR16
  replace hB := hB.trans (hF.below w.heap.size hB.size (by simp; omega))
  refine opsP (N := 19) (T := TT) (M := (fun _ _ => none)) tabOk (fun _ _ _ h => by cases h) [] [7] [(1, .v (.pointer (some ⟨u, 0, none⟩))), (2, .v (Value.pointer none)), (3, .v (.pointer (some ⟨p, 0, none⟩)))] h16 (by kernel_rfl) ⟨by kernel_rfl, by kernel_rfl, by kernel_rfl, trivial⟩ (fun a17 h17 d17 => ?_)
  replace d17 := d17.trans d16
  clear h16 d16
  show Code.wp _ _ _ _ _
  refine wp_seq ?_
  refine wp_region ?_
  refine opsP (N := 19) (T := TT) (M := (fun _ _ => none)) tabOk (fun _ _ _ h => by cases h) [] [0, 1] [(1, .v (.pointer (some ⟨u, 0, none⟩))), (2, .v (.pointer (some ⟨p, 0, none⟩))), (3, .v (.pointer (some ⟨p, 0, none⟩)))] h17 (by kernel_rfl) ⟨by kernel_rfl, by kernel_rfl, by kernel_rfl, trivial⟩ (fun a18 h18 d18 => ?_)
  replace d18 := d18.trans d17
  clear h17 d17
  show Code.wp _ _ _ _ _
  refine wp_ret ?_
  exact ⟨d18, _, results_tmp rfl _ _ _, p, congrArg Ending.returned (h18.2 2 _ rfl), ⟨_, 1, 1, hpI, by decide, by decide, rfl, fun _ => ⟨g2, _, rfl, hV.on hF2 (by simp; omega), by simp, rfl⟩⟩, hB⟩
set_option maxHeartbeats 8000000 in
set_option maxRecDepth 100000 in
theorem big_c (w : World) :
    Calls Try.prog 12 #[.agg #[.int .u64 0, .int .u64 0]] w fun e w' => ∃ p, e = .returned (.pointer (some ⟨p, 0, none⟩)) ∧ BigIs w' p [] ∧ Below w.heap.size w w' := by
  refine calls_of_wp Try.func12 rfl ?_
  have h0 := has_one (β := bn []) (.v (.agg #[.int .u64 0, .int .u64 0])) 18
  have d0 : (⟨#[.agg #[.int .u64 0, .int .u64 0]] ++ Array.replicate 18 undef, []⟩ : Act).defers = [] := rfl
  refine wp_seq ?_
  refine wp_region ?_
  refine newR_ops (N := 19) (i := 0) (d := 1) (v := (.pointer (some ⟨w.heap.size, 0, none⟩))) (l := [1]) rfl rfl rfl (by decide) h0 (op_boxA rfl (h0.2 0 _ rfl)) (fun V => UB V w.heap.size 0 0 ∧ Below w.heap.size w V) (⟨UB.new w _ _, (Below.refl w.heap.size w).alloc (Nat.le_refl _) _⟩) (fun a1 W1 r1 h1 d1 => ?_)
  replace d1 := d1.trans d0
  clear h0 d0
  obtain ⟨hU, hB⟩ := r1
  have hlt := hU.lt
  obtain ⟨u, hu⟩ : ∃ u, u = w.heap.size := ⟨_, rfl⟩
  rw [← hu] at hU hlt
  have hBu : w.heap.size ≤ u := by omega
  rw [← hu] at h1
  refine opsP (N := 19) (T := TT) (M := (fun _ _ => none)) tabOk (fun _ _ _ h => by cases h) [] [1] [(1, .v (.pointer (some ⟨u, 0, none⟩))), (2, .v (Value.pointer none))] h1 (by kernel_rfl) ⟨by kernel_rfl, by kernel_rfl, trivial⟩ (fun a2 h2 d2 => ?_)
  replace d2 := d2.trans d1
  clear h1 d1
  show Code.wp _ _ _ _ _
  refine wp_seq ?_
  refine wp_region ?_
  obtain ⟨p, hp⟩ : ∃ p, p = W1.heap.size := ⟨_, rfl⟩
  refine newR_ops (N := 19) (i := 0) (d := 4) (v := (.pointer (some ⟨p, 0, none⟩))) (l := [1, 2, 3, 4]) rfl rfl rfl (by decide) h2 (by rw [hp]; exact op_allocI rfl) (fun V => IB V p false (.slice none 0 0) ∧ Below w.heap.size w V ∧ Fr [] W1 V) (⟨by rw [hp]; exact IB.new W1, hB.trans ((Below.refl w.heap.size W1).alloc hB.size _), fr_alloc [] _ _⟩) (fun a3 W3 r3 h3 d3 => ?_)
  replace d3 := d3.trans d2
  clear h2 d2
  obtain ⟨hpI, hB, hF⟩ := r3
  replace hU := hU.on hF (by simp)
  refine givenW_ops (N := 19) (i := 1) (d := 5) (s := .v (.pointer (some ⟨u, 1, none⟩))) (l := [2, 3, 4]) rfl (want_ rfl) rfl (by decide) h3 (op_fU rfl (h3.2 1 _ rfl)) (fun a4 h4 d4 => ?_)
  replace d4 := d4.trans d3
  clear h3 d3
  refine givenW_ops (N := 19) (i := 2) (d := 6) (s := .v (.int .u64 0)) (l := [3, 4]) rfl (want_ rfl) rfl (by decide) h4 (op_load rfl (h4.2 5 _ rfl) Try.isAgg22 hU.hi) (fun a5 h5 d5 => ?_)
  replace d5 := d5.trans d4
  clear h4 d4
  refine callW_ops (N := 19) (i := 3) (d := 7) (f := 24) (args := [.v (.pointer (some ⟨p, 0, none⟩)), .v (.int .u64 0)]) (l := [4]) rfl (want_ rfl) rfl (by decide) h5 Try.func24 rfl rfl rfl (by kernel_rfl) (fun (v : Value) (W' : World) => v = .pointer (some ⟨p, 0, none⟩) ∧ IB W' p false (.slice none 0 0) ∧ Fr [p] W3 W') ((SetU_zero p false _ hpI).mono fun e w' hh => ⟨_, hh.1, rfl, hh.2⟩) (fun v6 W6 a6 hR6 h6 d6 => ?_)
  replace d6 := d6.trans d5
  clear h5 d5
  obtain ⟨rfl, hpI, hF⟩ := hR6
  have hup : u ≠ p := by omega
  replace hU := hU.on hF (by simpa using hup)
  replace hB := hB.trans (hF.below w.heap.size hB.size (by simp; omega))
  refine opsP (N := 19) (T := TT) (M := (fun _ _ => none)) tabOk (fun _ _ _ h => by cases h) [] [4] [(1, .v (.pointer (some ⟨u, 0, none⟩))), (2, .v (Value.pointer none)), (3, .v (.pointer (some ⟨p, 0, none⟩)))] h6 (by kernel_rfl) ⟨by kernel_rfl, by kernel_rfl, by kernel_rfl, trivial⟩ (fun a7 h7 d7 => ?_)
  replace d7 := d7.trans d6
  clear h6 d6
  show Code.wp _ _ _ _ _
  refine wp_seq ?_
  refine wp_region ?_
  refine opsP (N := 19) (T := TT) (M := (fun _ _ => none)) tabOk (fun _ _ _ h => by cases h) [2, 3] [0, 1] [(1, .v (.pointer (some ⟨u, 0, none⟩))), (2, .v (Value.pointer none)), (3, .v (.pointer (some ⟨p, 0, none⟩))), (8, .v (.pointer (some ⟨p, 0, none⟩))), (9, .v (.pointer (some ⟨p, 0, none⟩)))] h7 (by kernel_rfl) ⟨by kernel_rfl, by kernel_rfl, by kernel_rfl, by kernel_rfl, by kernel_rfl, trivial⟩ (fun a8 h8 d8 => ?_)
  replace d8 := d8.trans d7
  clear h7 d7
  refine callW_ops (N := 19) (i := 2) (d := 10) (f := 25) (args := [.v (.pointer (some ⟨p, 0, none⟩)), .v (.pointer (some ⟨p, 0, none⟩)), .v (.int .u64 64)]) (l := [3]) rfl (want_ rfl) rfl (by decide) h8 Try.func25 rfl rfl rfl (by kernel_rfl) (fun (v : Value) (W' : World) => v = .pointer (some ⟨p, 0, none⟩) ∧ IB W' p false (.slice none 0 0) ∧ Fr [p] W6 W') ((Lsh_nil p false _ hpI).mono fun e w' hh => ⟨_, hh.1, rfl, hh.2⟩) (fun v9 W9 a9 hR9 h9 d9 => ?_)
  replace d9 := d9.trans d8
  clear h8 d8
  obtain ⟨rfl, hpI, hF⟩ := hR9
  replace hU := hU.on hF (by simpa using hup)
  replace hB := hB.trans (hF.below w.heap.size hB.size (by simp; omega))
  refine opsP (N := 19) (T := TT) (M := (fun _ _ => none)) tabOk (fun _ _ _ h => by cases h) [] [3] [(1, .v (.pointer (some ⟨u, 0, none⟩))), (2, .v (Value.pointer none)), (3, .v (.pointer (some ⟨p, 0, none⟩)))] h9 (by kernel_rfl) ⟨by kernel_rfl, by kernel_rfl, by kernel_rfl, trivial⟩ (fun a10 h10 d10 => ?_)
  replace d10 := d10.trans d9
  clear h9 d9
  show Code.wp _ _ _ _ _
  refine wp_seq ?_
  refine wp_region ?_
  refine opsP (N := 19) (T := TT) (M := (fun _ _ => none)) tabOk (fun _ _ _ h => by cases h) [2, 3, 4, 5, 6, 7] [0, 1] [(1, .v (.pointer (some ⟨u, 0, none⟩))), (2, .v (Value.pointer none)), (3, .v (.pointer (some ⟨p, 0, none⟩))), (11, .v (.pointer (some ⟨p, 0, none⟩))), (12, .v (.pointer (some ⟨p, 0, none⟩)))] h10 (by kernel_rfl) ⟨by kernel_rfl, by kernel_rfl, by kernel_rfl, by kernel_rfl, by kernel_rfl, trivial⟩ (fun a11 h11 d11 => ?_)
  replace d11 := d11.trans d10
  clear h10 d10
  have hplt := hpI.lt
  obtain ⟨q, hq⟩ : ∃ q, q = W9.heap.size := ⟨_, rfl⟩
  refine newR_ops (N := 19) (i := 2) (d := 13) (v := (.pointer (some ⟨q, 0, none⟩))) (l := [3, 4, 5, 6, 7]) rfl rfl rfl (by decide) h11 (by rw [hq]; exact op_allocI rfl) (fun V => IB V q false (.slice none 0 0) ∧ Below w.heap.size w V ∧ Fr [] W9 V) (⟨by rw [hq]; exact IB.new W9, hB.trans ((Below.refl w.heap.size W9).alloc hB.size _), fr_alloc [] _ _⟩) (fun a12 W12 r12 h12 d12 => ?_)
  replace d12 := d12.trans d11
  clear h11 d11
  obtain ⟨hqI, hB, hF⟩ := r12
  replace hU := hU.on hF (by simp)
  replace hpI := hpI.on hF (by simp)
  refine givenW_ops (N := 19) (i := 3) (d := 14) (s := .v (.pointer (some ⟨u, 0, none⟩))) (l := [4, 5, 6, 7]) rfl (want_ rfl) rfl (by decide) h12 (op_fU0 rfl (h12.2 1 _ rfl)) (fun a13 h13 d13 => ?_)
  replace d13 := d13.trans d12
  clear h12 d12
  refine givenW_ops (N := 19) (i := 4) (d := 15) (s := .v (.int .u64 0)) (l := [5, 6, 7]) rfl (want_ rfl) rfl (by decide) h13 (op_load rfl (h13.2 14 _ rfl) Try.isAgg22 hU.lo) (fun a14 h14 d14 => ?_)
  replace d14 := d14.trans d13
  clear h13 d13
  refine callW_ops (N := 19) (i := 5) (d := 16) (f := 24) (args := [.v (.pointer (some ⟨q, 0, none⟩)), .v (.int .u64 0)]) (l := [6, 7]) rfl (want_ rfl) rfl (by decide) h14 Try.func24 rfl rfl rfl (by kernel_rfl) (fun (v : Value) (W' : World) => v = .pointer (some ⟨q, 0, none⟩) ∧ IB W' q false (.slice none 0 0) ∧ Fr [q] W12 W') ((SetU_zero q false _ hqI).mono fun e w' hh => ⟨_, hh.1, rfl, hh.2⟩) (fun v15 W15 a15 hR15 h15 d15 => ?_)
  replace d15 := d15.trans d14
  clear h14 d14
  obtain ⟨rfl, hqI, hF⟩ := hR15
  have hpq : p < q := by omega
  replace hpI := hpI.on hF (by simp; omega)
  replace hB := hB.trans (hF.below w.heap.size hB.size (by simp; omega))
  have hX := Xor_of (S := []) (R := fun V => True) (C := none) (k := 0) (l := 0) W15 hpI hqI (by simp) (by simp) ((xor_c W15.drew.drew).mono fun e w' hh => ⟨hh.1, trivial, hh.2⟩)
  refine callW_ops (N := 19) (i := 6) (d := 17) (f := 26) (args := [.v (.pointer (some ⟨p, 0, none⟩)), .v (.pointer (some ⟨p, 0, none⟩)), .v (.pointer (some ⟨q, 0, none⟩))]) (l := [7]) rfl (want_ rfl) rfl (by decide) h15 Try.func26 rfl rfl rfl (by kernel_rfl) (fun (v : Value) (W' : World) => v = .pointer (some ⟨p, 0, none⟩) ∧ IB W' p false (.slice none 0 0) ∧ Fr (p :: []) W15 W' ∧ ∃ V, (fun V => True) V ∧ Fr [p] V W') (hX.mono fun e w' hh => ⟨_, hh.1, rfl, hh.2⟩) (fun v16 W16 a16 hR16 h16 d16 => ?_)
  replace d16 := d16.trans d15
  clear h15 d15
  obtain ⟨rfl, hpI, hF, V, hV, hF2⟩ := hR16
  replace hB := hB.trans (hF.below w.heap.size hB.size (by simp; omega))
  refine opsP (N := 19) (T := TT) (M := (fun _ _ => none)) tabOk (fun _ _ _ h => by cases h) [] [7] [(1, .v (.pointer (some ⟨u, 0, none⟩))), (2, .v (Value.pointer none)), (3, .v (.pointer (some ⟨p, 0, none⟩)))] h16 (by kernel_rfl) ⟨by kernel_rfl, by kernel_rfl, by kernel_rfl, trivial⟩ (fun a17 h17 d17 => ?_)
  replace d17 := d17.trans d16
  clear h16 d16
  show Code.wp _ _ _ _ _
  refine wp_seq ?_
  refine wp_region ?_
  refine opsP (N := 19) (T := TT) (M := (fun _ _ => none)) tabOk (fun _ _ _ h => by cases h) [] [0, 1] [(1, .v (.pointer (some ⟨u, 0, none⟩))), (2, .v (.pointer (some ⟨p, 0, none⟩))), (3, .v (.pointer (some ⟨p, 0, none⟩)))] h17 (by kernel_rfl) ⟨by kernel_rfl, by kernel_rfl, by kernel_rfl, trivial⟩ (fun a18 h18 d18 => ?_)
  replace d18 := d18.trans d17
  clear h17 d17
  show Code.wp _ _ _ _ _
  refine wp_ret ?_
  exact ⟨d18, _, results_tmp rfl _ _ _, p, congrArg Ending.returned (h18.2 2 _ rfl), ⟨none, 0, 0, hpI, Nat.le_refl _, by decide, rfl, fun h => absurd h (by decide)⟩, hB⟩
end Go.Proofs.Ytjmgiodkfgdgnaa.PAll
namespace Go.Proofs.Ytjmgiodkfgdgnaa.PAll
open Go.RowKit Go.Proofs.YtjmgiodkfgdgnaaW.PrintWords Go.Proofs.YtjmgiodkfgdgnaaW.PrintLast Go.Proofs.YtjmgiodkfgdgnaaW.PrintMore
set_option linter.unusedVariables false
set_option linter.unusedSimpArgs false
/-- The block g holds the octets l. -/
def Bd (W : World) (g : Nat) (l : List Int) : Prop := W.heap[g]? = some (.cells (l.map (Value.int .u8)).toArray 5 (0, 0))
theorem Bd.lt {W : World} {g : Nat} {l : List Int} (h : Bd W g l) : g < W.heap.size := (Array.getElem?_eq_some_iff.1 h).1
theorem Bd.cell {W : World} {g : Nat} {l : List Int} (h : Bd W g l) {i : Nat} (hi : i < l.length) : W.cell? ⟨g, i, none⟩ = some (.int .u8 (l.getD i 0)) := by
  unfold Bd at h
  simp [World.cell?, h, hi, List.getD_eq_getElem?_getD]
theorem Bd.frozen {W : World} {g : Nat} {l : List Int} (h : Bd W g l) (i : Nat) : W.frozen? ⟨g, i, none⟩ = false := by
  unfold Bd at h
  simp [World.frozen?, h]
theorem Bd.set {W : World} {g : Nat} {l : List Int} (h : Bd W g l) (i : Nat) (x : Int) : Bd (W.setCell ⟨g, i, none⟩ (.int .u8 x)) g (l.set i x) := by
  have := heap_setCell_same W g i _ _ (.int .u8 x) h
  unfold Bd
  rw [this]
  simp
theorem Bd.on {W W' : World} {g : Nat} {l : List Int} {S : List Nat} (h : Bd W g l) (hF : Fr S W W') (hg : g ∉ S) : Bd W' g l := (hF.2.2.2.2 g h.lt hg).trans h
/-- The octets l with the r lowest octets of x laid from the place I on, the highest first. -/
def wr (l : List Int) (I : Nat) : Nat → Nat → List Int
  | 0, _ => l
  | r + 1, x => (wr (l.set (I + r) ((x % 256 : Nat) : Int)) I r (x / 256))
theorem wr_len (I : Nat) : ∀ (r : Nat) (l : List Int) (x : Nat), (wr l I r x).length = l.length
  | 0, _, _ => rfl
  | r + 1, l, x => by
    unfold wr
    rw [wr_len I r, List.length_set]
theorem i_suc1 (k : Nat) (h : k < 100000) : IntKind.i64.wrap (((k : Nat) : Int) + 1) = ((k + 1 : Nat) : Int) := by
  rw [IntKind.wrap_i64]
  omega
theorem i_c8 (x : Nat) : IntKind.u8.wrap ((x : Nat) : Int) = ((x % 256 : Nat) : Int) := by
  rw [IntKind.wrap_u8]
  omega
theorem i_d256 (x : Nat) : ((x : Nat) : Int) / 256 = ((x / 256 : Nat) : Int) := by omega
noncomputable def byI : Code := match Try.f27.body with
  | some (.seq _ (.seq _ (.seq (.seq _ (.block _ (.loop (.seq _ (.seq _ (.seq (.block _ (.seq _ (.seq _ (.block _ (.loop c))))) _)))))) _))) => c
  | _ => .skip
set_option maxHeartbeats 8000000 in
set_option maxRecDepth 100000 in
theorem by_inner {Q : Exit → Act → World → Prop} (b N I n j : Nat) (vz vy : Value) (hN : N < 1000) : ∀ (r : Nat) (l : List Int) (x k : Nat) (w : World), k + r = 8 → Bd w b l → l.length = N → I + r ≤ N → ∀ a0, Has 51 (bn []) [(0, .v (vz)), (1, .v (.slice (some ⟨b, 0, none⟩) N N)), (4, .v (.int .i64 ((I + r : Nat) : Int))), (6, .v (.int .u64 ((x : Nat) : Int))), (7, .v (.int .i64 ((k : Nat) : Int))), (10, .v (vy)), (11, .v (.int .i64 ((n : Nat) : Int))), (12, .v (.int .i64 ((j : Nat) : Int)))] a0 → a0.defers = [] →
    (∀ a' W', Bd W' b (wr l I r x) → Fr [b] w W' → Has 51 (bn []) [(0, .v (vz)), (1, .v (.slice (some ⟨b, 0, none⟩) N N)), (4, .v (.int .i64 ((I : Nat) : Int))), (7, .v (.int .i64 ((8 : Nat) : Int))), (10, .v (vy)), (11, .v (.int .i64 ((n : Nat) : Int))), (12, .v (.int .i64 ((j : Nat) : Int)))] a' → a'.defers = [] → Q (.exit 2) a' W') → Code.rounds Try.prog byI Q (r + 1) a0 w := by
  intro r
  induction r with
  | zero =>
    intro l x k w hk hB hl hI a0 h0 d0 hex
    obtain rfl : k = 8 := by omega
    rw [rounds_succ]
    refine wp_seq ?_
    refine wp_seq ?_
    refine wp_region ?_
    refine opsP (N := 51) (T := TT) (M := (fun _ _ => none)) tabOk (fun _ _ _ h => by cases h) [] [0, 1] [(0, .v (vz)), (1, .v (.slice (some ⟨b, 0, none⟩) N N)), (4, .v (.int .i64 ((I + 0 : Nat) : Int))), (6, .v (.int .u64 ((x : Nat) : Int))), (7, .v (.int .i64 ((8 : Nat) : Int))), (10, .v (vy)), (11, .v (.int .i64 ((n : Nat) : Int))), (12, .v (.int .i64 ((j : Nat) : Int))), (17, .v (.bool (decide ((((8 : Nat) : Int) : Int) < 8))))] h0 (by kernel_rfl) ⟨by kernel_rfl, by kernel_rfl, by kernel_rfl, by kernel_rfl, by kernel_rfl, by kernel_rfl, by kernel_rfl, by kernel_rfl, by kernel_rfl, trivial⟩ (fun a1 h1 d1 => ?_)
    replace d1 := d1.trans d0
    clear h0 d0
    rw [show (decide ((((8 : Nat) : Int) : Int) < 8)) = false from rfl] at h1
    show Code.wp _ _ _ _ _
    refine wp_cond_false (h1.2 17 _ rfl) ?_
    refine wp_exit ?_
    refine then_exit (then_exit ?_)
    exact hex a1 w hB (Fr.refl [b] w) (sub_ok (E := [(0, .v (vz)), (1, .v (.slice (some ⟨b, 0, none⟩) N N)), (4, .v (.int .i64 ((I : Nat) : Int))), (7, .v (.int .i64 ((8 : Nat) : Int))), (10, .v (vy)), (11, .v (.int .i64 ((n : Nat) : Int))), (12, .v (.int .i64 ((j : Nat) : Int)))]) h1 sE) d1
  | succ r ih =>
    intro l x k w hk hB hl hI a0 h0 d0 hex
    rw [rounds_succ]
    refine wp_seq ?_
    refine wp_seq ?_
    refine wp_region ?_
    refine opsP (N := 51) (T := TT) (M := (fun _ _ => none)) tabOk (fun _ _ _ h => by cases h) [] [0, 1] [(0, .v (vz)), (1, .v (.slice (some ⟨b, 0, none⟩) N N)), (4, .v (.int .i64 ((I + (r + 1) : Nat) : Int))), (6, .v (.int .u64 ((x : Nat) : Int))), (7, .v (.int .i64 ((k : Nat) : Int))), (10, .v (vy)), (11, .v (.int .i64 ((n : Nat) : Int))), (12, .v (.int .i64 ((j : Nat) : Int))), (17, .v (.bool (decide ((((k : Nat) : Int) : Int) < 8))))] h0 (by kernel_rfl) ⟨by kernel_rfl, by kernel_rfl, by kernel_rfl, by kernel_rfl, by kernel_rfl, by kernel_rfl, by kernel_rfl, by kernel_rfl, by kernel_rfl, trivial⟩ (fun a1 h1 d1 => ?_)
    replace d1 := d1.trans d0
    clear h0 d0
    rw [show (decide ((((k : Nat) : Int) : Int) < 8)) = true from decide_eq_true (by omega)] at h1
    show Code.wp _ _ _ _ _
    refine wp_cond_true (h1.2 17 _ rfl) ?_
    refine wp_skip ?_
    show Code.wp _ _ _ _ _
    refine wp_seq ?_
    refine wp_block ?_
    refine wp_seq ?_
    refine wp_region ?_
    refine opsP (N := 51) (T := TT) (M := (fun _ _ => none)) tabOk (fun _ _ _ h => by cases h) [2] [0, 1] [(0, .v (vz)), (1, .v (.slice (some ⟨b, 0, none⟩) N N)), (4, .v (.int .i64 ((I + (r + 1) : Nat) : Int))), (6, .v (.int .u64 ((x : Nat) : Int))), (7, .v (.int .i64 ((k : Nat) : Int))), (10, .v (vy)), (11, .v (.int .i64 ((n : Nat) : Int))), (12, .v (.int .i64 ((j : Nat) : Int))), (17, .v (.bool true)), (20, .v (.int .i64 ((I + (r + 1) : Nat) : Int))), (21, .v (.int .i64 (IntKind.i64.wrap (((I + (r + 1) : Nat) : Int) - 1))))] h1 (by kernel_rfl) ⟨by kernel_rfl, by kernel_rfl, by kernel_rfl, by kernel_rfl, by kernel_rfl, by kernel_rfl, by kernel_rfl, by kernel_rfl, by kernel_rfl, by kernel_rfl, by kernel_rfl, trivial⟩ (fun a2 h2 d2 => ?_)
    replace d2 := d2.trans d1
    clear h1 d1
    rw [show (IntKind.i64.wrap (((I + (r + 1) : Nat) : Int) - 1)) = ((I + r : Nat) : Int) from i_pred (I + r) (by omega)] at h2
    refine opsP (N := 51) (T := TT) (M := (fun _ _ => none)) tabOk (fun _ _ _ h => by cases h) [] [2] [(0, .v (vz)), (1, .v (.slice (some ⟨b, 0, none⟩) N N)), (4, .v (.int .i64 ((I + r : Nat) : Int))), (6, .v (.int .u64 ((x : Nat) : Int))), (7, .v (.int .i64 ((k : Nat) : Int))), (10, .v (vy)), (11, .v (.int .i64 ((n : Nat) : Int))), (12, .v (.int .i64 ((j : Nat) : Int))), (17, .v (.bool true))] h2 (by kernel_rfl) ⟨by kernel_rfl, by kernel_rfl, by kernel_rfl, by kernel_rfl, by kernel_rfl, by kernel_rfl, by kernel_rfl, by kernel_rfl, by kernel_rfl, trivial⟩ (fun a3 h3 d3 => ?_)
    replace d3 := d3.trans d2
    clear h2 d2
    show Code.wp _ _ _ _ _
    refine wp_seq ?_
    refine wp_seq ?_
    refine wp_region ?_
    refine opsP (N := 51) (T := TT) (M := (fun _ _ => none)) tabOk (fun _ _ _ h => by cases h) [] [0, 1] [(0, .v (vz)), (1, .v (.slice (some ⟨b, 0, none⟩) N N)), (4, .v (.int .i64 ((I + r : Nat) : Int))), (6, .v (.int .u64 ((x : Nat) : Int))), (7, .v (.int .i64 ((k : Nat) : Int))), (10, .v (vy)), (11, .v (.int .i64 ((n : Nat) : Int))), (12, .v (.int .i64 ((j : Nat) : Int))), (17, .v (.bool true)), (23, .v (.bool (decide ((((I + r : Nat) : Int) : Int) ≥ 0))))] h3 (by kernel_rfl) ⟨by kernel_rfl, by kernel_rfl, by kernel_rfl, by kernel_rfl, by kernel_rfl, by kernel_rfl, by kernel_rfl, by kernel_rfl, by kernel_rfl, by kernel_rfl, trivial⟩ (fun a4 h4 d4 => ?_)
    replace d4 := d4.trans d3
    clear h3 d3
    rw [show (decide ((((I + r : Nat) : Int) : Int) ≥ 0)) = true from decide_eq_true (by omega)] at h4
    show Code.wp _ _ _ _ _
    refine wp_cond_true (h4.2 23 _ rfl) ?_
    refine wp_region ?_
    refine opsP (N := 51) (T := TT) (M := (fun _ _ => none)) tabOk (fun _ _ _ h => by cases h) [4, 5] [0, 1, 2, 3] [(0, .v (vz)), (1, .v (.slice (some ⟨b, 0, none⟩) N N)), (4, .v (.int .i64 ((I + r : Nat) : Int))), (6, .v (.int .u64 ((x : Nat) : Int))), (7, .v (.int .i64 ((k : Nat) : Int))), (10, .v (vy)), (11, .v (.int .i64 ((n : Nat) : Int))), (12, .v (.int .i64 ((j : Nat) : Int))), (17, .v (.bool true)), (23, .v (.bool true)), (24, .v (.slice (some ⟨b, 0, none⟩) N N)), (25, .v (.int .i64 ((I + r : Nat) : Int))), (26, .v (.int .u64 ((x : Nat) : Int))), (27, .v (.int .u8 (IntKind.u8.wrap (((x : Nat) : Int)))))] h4 (by kernel_rfl) ⟨by kernel_rfl, by kernel_rfl, by kernel_rfl, by kernel_rfl, by kernel_rfl, by kernel_rfl, by kernel_rfl, by kernel_rfl, by kernel_rfl, by kernel_rfl, by kernel_rfl, by kernel_rfl, by kernel_rfl, by kernel_rfl, trivial⟩ (fun a5 h5 d5 => ?_)
    replace d5 := d5.trans d4
    clear h4 d4
    rw [show (IntKind.u8.wrap (((x : Nat) : Int))) = ((x % 256 : Nat) : Int) from i_c8 x] at h5
    refine givenW_ops (N := 51) (i := 4) (d := 28) (s := .v (.pointer (some ⟨b, 0 + (I + r), none⟩))) (l := [5]) rfl (want_ rfl) rfl (by decide) h5 (op_indexE (j := I + r) rfl (h5.2 24 _ rfl) (h5.2 25 _ rfl) Try.underlying25 Try.sizeOf5 (by omega)) (fun a6 h6 d6 => ?_)
    replace d6 := d6.trans d5
    clear h5 d5
    rw [Nat.zero_add] at h6
    refine st_ops (i := 5) (l := []) rfl rfl rfl (op_store rfl (h6.2 28 _ rfl) (h6.2 27 _ rfl) (Or.inl ⟨_, _, rfl⟩) Try.sizeOf5 (hB.cell (i := I + r) (by omega)) (hB.frozen (I + r))) ?_
    have hB1 := hB.set (I + r) ((x % 256 : Nat) : Int)
    have hF1 := Fr.setc (W := w) b (I + r) (.int .u8 ((x % 256 : Nat) : Int))
    show Code.wp _ _ _ _ _
    refine wp_region ?_
    refine opsP (N := 51) (T := TT) (M := (fun _ _ => none)) tabOk (fun _ _ _ h => by cases h) [2] [0, 1] [(0, .v (vz)), (1, .v (.slice (some ⟨b, 0, none⟩) N N)), (4, .v (.int .i64 ((I + r : Nat) : Int))), (6, .v (.int .u64 ((x : Nat) : Int))), (7, .v (.int .i64 ((k : Nat) : Int))), (10, .v (vy)), (11, .v (.int .i64 ((n : Nat) : Int))), (12, .v (.int .i64 ((j : Nat) : Int))), (17, .v (.bool true)), (23, .v (.bool true)), (33, .v (.int .u64 ((x : Nat) : Int))), (34, .v (.int .u64 (((x : Nat) : Int) / 256)))] h6 (by kernel_rfl) ⟨by kernel_rfl, by kernel_rfl, by kernel_rfl, by kernel_rfl, by kernel_rfl, by kernel_rfl, by kernel_rfl, by kernel_rfl, by kernel_rfl, by kernel_rfl, by kernel_rfl, by kernel_rfl, trivial⟩ (fun a7 h7 d7 => ?_)
    replace d7 := d7.trans d6
    clear h6 d6
    rw [show (((x : Nat) : Int) / 256) = ((x / 256 : Nat) : Int) from i_d256 x] at h7
    refine opsP (N := 51) (T := TT) (M := (fun _ _ => none)) tabOk (fun _ _ _ h => by cases h) [] [2] [(0, .v (vz)), (1, .v (.slice (some ⟨b, 0, none⟩) N N)), (4, .v (.int .i64 ((I + r : Nat) : Int))), (6, .v (.int .u64 ((x / 256 : Nat) : Int))), (7, .v (.int .i64 ((k : Nat) : Int))), (10, .v (vy)), (11, .v (.int .i64 ((n : Nat) : Int))), (12, .v (.int .i64 ((j : Nat) : Int))), (17, .v (.bool true)), (23, .v (.bool true))] h7 (by kernel_rfl) ⟨by kernel_rfl, by kernel_rfl, by kernel_rfl, by kernel_rfl, by kernel_rfl, by kernel_rfl, by kernel_rfl, by kernel_rfl, by kernel_rfl, by kernel_rfl, trivial⟩ (fun a8 h8 d8 => ?_)
    replace d8 := d8.trans d7
    clear h7 d7
    show Code.wp _ _ _ _ _
    refine wp_region ?_
    refine opsP (N := 51) (T := TT) (M := (fun _ _ => none)) tabOk (fun _ _ _ h => by cases h) [2] [0, 1] [(0, .v (vz)), (1, .v (.slice (some ⟨b, 0, none⟩) N N)), (4, .v (.int .i64 ((I + r : Nat) : Int))), (6, .v (.int .u64 ((x / 256 : Nat) : Int))), (7, .v (.int .i64 ((k : Nat) : Int))), (10, .v (vy)), (11, .v (.int .i64 ((n : Nat) : Int))), (12, .v (.int .i64 ((j : Nat) : Int))), (17, .v (.bool true)), (18, .v (.int .i64 ((k : Nat) : Int))), (19, .v (.int .i64 (IntKind.i64.wrap (((k : Nat) : Int) + 1)))), (23, .v (.bool true))] h8 (by kernel_rfl) ⟨by kernel_rfl, by kernel_rfl, by kernel_rfl, by kernel_rfl, by kernel_rfl, by kernel_rfl, by kernel_rfl, by kernel_rfl, by kernel_rfl, by kernel_rfl, by kernel_rfl, by kernel_rfl, trivial⟩ (fun a9 h9 d9 => ?_)
    replace d9 := d9.trans d8
    clear h8 d8
    rw [show (IntKind.i64.wrap (((k : Nat) : Int) + 1)) = ((k + 1 : Nat) : Int) from i_suc1 k (by omega)] at h9
    refine opsP (N := 51) (T := TT) (M := (fun _ _ => none)) tabOk (fun _ _ _ h => by cases h) [] [2] [(0, .v (vz)), (1, .v (.slice (some ⟨b, 0, none⟩) N N)), (4, .v (.int .i64 ((I + r : Nat) : Int))), (6, .v (.int .u64 ((x / 256 : Nat) : Int))), (7, .v (.int .i64 ((k + 1 : Nat) : Int))), (10, .v (vy)), (11, .v (.int .i64 ((n : Nat) : Int))), (12, .v (.int .i64 ((j : Nat) : Int))), (17, .v (.bool true)), (23, .v (.bool true))] h9 (by kernel_rfl) ⟨by kernel_rfl, by kernel_rfl, by kernel_rfl, by kernel_rfl, by kernel_rfl, by kernel_rfl, by kernel_rfl, by kernel_rfl, by kernel_rfl, by kernel_rfl, trivial⟩ (fun a10 h10 d10 => ?_)
    replace d10 := d10.trans d9
    clear h9 d9
    show Code.rounds _ _ _ _ _ _
    exact ih _ _ (k + 1) _ (by omega) hB1 (by rw [List.length_set]; exact hl) (by omega) a10 (sub_ok (E := [(0, .v (vz)), (1, .v (.slice (some ⟨b, 0, none⟩) N N)), (4, .v (.int .i64 ((I + r : Nat) : Int))), (6, .v (.int .u64 ((x / 256 : Nat) : Int))), (7, .v (.int .i64 ((k + 1 : Nat) : Int))), (10, .v (vy)), (11, .v (.int .i64 ((n : Nat) : Int))), (12, .v (.int .i64 ((j : Nat) : Int)))]) h10 sE) d10 (fun a' W' g1 g2 g3 g4 => hex a' W' g1 (hF1.trans g2) g3 g4)
/-- The octets l with the words laid in from the end. -/
def wro : List Int → List Nat → List Int
  | l, [] => l
  | l, x :: xs => wro (wr l (8 * xs.length) 8 x) xs
theorem wro_len : ∀ (xs : List Nat) (l : List Int), (wro l xs).length = l.length
  | [], _ => rfl
  | x :: xs, l => by
    unfold wro
    rw [wro_len xs, wr_len]
noncomputable def byO : Code := match Try.f27.body with
  | some (.seq _ (.seq _ (.seq (.seq _ (.block _ (.loop c))) _))) => c
  | _ => .skip
set_option maxHeartbeats 8000000 in
set_option maxRecDepth 100000 in
theorem by_outer {Q : Exit → Act → World → Prop} (b N g n c : Nat) (m : List Int) (hbg : g ≠ b) (hN : N < 1000) (hn : n < 1000) (hm : n ≤ m.length) : ∀ (xs : List Nat) (l : List Int) (j : Nat) (w : World), j + xs.length = n → Wd w g m → (∀ t, t < xs.length → m.getD (j + t) 0 = ((xs.getD t 0 : Nat) : Int)) → Bd w b l → l.length = N → 8 * xs.length ≤ N → ∀ a0, Has 51 (bn []) [(0, .v (.slice (some ⟨g, 0, none⟩) n c)), (1, .v (.slice (some ⟨b, 0, none⟩) N N)), (4, .v (.int .i64 ((8 * xs.length : Nat) : Int))), (10, .v (.slice (some ⟨g, 0, none⟩) n c)), (11, .v (.int .i64 ((n : Nat) : Int))), (12, .v (.int .i64 ((j : Nat) : Int)))] a0 → a0.defers = [] →
    (∀ a' W', Bd W' b (wro l xs) → Fr [b] w W' → Has 51 (bn []) [(0, .v (.slice (some ⟨g, 0, none⟩) n c)), (1, .v (.slice (some ⟨b, 0, none⟩) N N)), (4, .v (.int .i64 ((0 : Nat) : Int)))] a' → a'.defers = [] → Q (.exit 0) a' W') → Code.rounds Try.prog byO Q (xs.length + 1) a0 w := by
  intro xs
  induction xs with
  | nil =>
    intro l j w hj hw hx hB hl hI a0 h0 d0 hex
    obtain rfl : j = n := by simpa using hj
    rw [rounds_succ]
    refine wp_seq ?_
    refine wp_region ?_
    refine opsP (N := 51) (T := TT) (M := (fun _ _ => none)) tabOk (fun _ _ _ h => by cases h) [] [0] [(0, .v (.slice (some ⟨g, 0, none⟩) j c)), (1, .v (.slice (some ⟨b, 0, none⟩) N N)), (4, .v (.int .i64 ((8 * ([] : List Nat).length : Nat) : Int))), (10, .v (.slice (some ⟨g, 0, none⟩) j c)), (11, .v (.int .i64 ((j : Nat) : Int))), (12, .v (.int .i64 ((j : Nat) : Int))), (13, .v (.bool (decide ((((j : Nat) : Int) : Int) < ((j : Nat) : Int)))))] h0 (by kernel_rfl) ⟨by kernel_rfl, by kernel_rfl, by kernel_rfl, by kernel_rfl, by kernel_rfl, by kernel_rfl, by kernel_rfl, trivial⟩ (fun a1 h1 d1 => ?_)
    replace d1 := d1.trans d0
    clear h0 d0
    rw [show (decide ((((j : Nat) : Int) : Int) < ((j : Nat) : Int))) = false from decide_eq_false (by omega)] at h1
    show Code.wp _ _ _ _ _
    refine wp_seq ?_
    refine wp_cond_false (h1.2 13 _ rfl) ?_
    refine wp_exit ?_
    refine then_exit ?_
    exact hex a1 w hB (Fr.refl [b] w) (sub_ok (E := [(0, .v (.slice (some ⟨g, 0, none⟩) j c)), (1, .v (.slice (some ⟨b, 0, none⟩) N N)), (4, .v (.int .i64 ((0 : Nat) : Int)))]) h1 sE) d1
  | cons x xs ih =>
    intro l j w hj hw hx hB hl hI a0 h0 d0 hex
    rw [List.length_cons] at hj hI
    have e0 : m.getD j 0 = ((x : Nat) : Int) := hx 0 (by simp)
    rw [rounds_succ]
    refine wp_seq ?_
    refine wp_region ?_
    refine opsP (N := 51) (T := TT) (M := (fun _ _ => none)) tabOk (fun _ _ _ h => by cases h) [] [0] [(0, .v (.slice (some ⟨g, 0, none⟩) n c)), (1, .v (.slice (some ⟨b, 0, none⟩) N N)), (4, .v (.int .i64 ((8 * (x :: xs).length : Nat) : Int))), (10, .v (.slice (some ⟨g, 0, none⟩) n c)), (11, .v (.int .i64 ((n : Nat) : Int))), (12, .v (.int .i64 ((j : Nat) : Int))), (13, .v (.bool (decide ((((j : Nat) : Int) : Int) < ((n : Nat) : Int)))))] h0 (by kernel_rfl) ⟨by kernel_rfl, by kernel_rfl, by kernel_rfl, by kernel_rfl, by kernel_rfl, by kernel_rfl, by kernel_rfl, trivial⟩ (fun a1 h1 d1 => ?_)
    replace d1 := d1.trans d0
    clear h0 d0
    rw [show (decide ((((j : Nat) : Int) : Int) < ((n : Nat) : Int))) = true from decide_eq_true (by omega)] at h1
    show Code.wp _ _ _ _ _
    refine wp_seq ?_
    refine wp_cond_true (h1.2 13 _ rfl) ?_
    refine wp_skip ?_
    show Code.wp _ _ _ _ _
    refine wp_seq ?_
    refine wp_block ?_
    refine wp_seq ?_
    refine wp_region ?_
    refine givenW_ops (N := 51) (i := 0) (d := 14) (s := .v (.pointer (some ⟨g, 0 + j, none⟩))) (l := [1, 2]) rfl (want_ rfl) rfl (by decide) h1 (op_indexE (j := j) rfl (h1.2 10 _ rfl) (h1.2 12 _ rfl) Try.underlying47 Try.sizeOf70 (by omega)) (fun a2 h2 d2 => ?_)
    replace d2 := d2.trans d1
    clear h1 d1
    refine givenW_ops (N := 51) (i := 1) (d := 15) (s := .v (.int .u64 ((x : Nat) : Int))) (l := [2]) rfl (want_ rfl) rfl (by decide) h2 (op_load rfl (h2.2 14 _ rfl) Try.isAgg70 ((Nat.zero_add j).symm ▸ e0 ▸ hw.cell (i := j) (by omega))) (fun a3 h3 d3 => ?_)
    replace d3 := d3.trans d2
    clear h2 d2
    refine opsP (N := 51) (T := TT) (M := (fun _ _ => none)) tabOk (fun _ _ _ h => by cases h) [] [2] [(0, .v (.slice (some ⟨g, 0, none⟩) n c)), (1, .v (.slice (some ⟨b, 0, none⟩) N N)), (4, .v (.int .i64 ((8 * (x :: xs).length : Nat) : Int))), (6, .v (.int .u64 ((x : Nat) : Int))), (10, .v (.slice (some ⟨g, 0, none⟩) n c)), (11, .v (.int .i64 ((n : Nat) : Int))), (12, .v (.int .i64 ((j : Nat) : Int))), (13, .v (.bool true))] h3 (by kernel_rfl) ⟨by kernel_rfl, by kernel_rfl, by kernel_rfl, by kernel_rfl, by kernel_rfl, by kernel_rfl, by kernel_rfl, by kernel_rfl, trivial⟩ (fun a4 h4 d4 => ?_)
    replace d4 := d4.trans d3
    clear h3 d3
    show Code.wp _ _ _ _ _
    refine wp_seq ?_
    refine wp_region ?_
    refine opsP (N := 51) (T := TT) (M := (fun _ _ => none)) tabOk (fun _ _ _ h => by cases h) [] [0] [(0, .v (.slice (some ⟨g, 0, none⟩) n c)), (1, .v (.slice (some ⟨b, 0, none⟩) N N)), (4, .v (.int .i64 ((8 * (x :: xs).length : Nat) : Int))), (6, .v (.int .u64 ((x : Nat) : Int))), (7, .v (.int .i64 0)), (10, .v (.slice (some ⟨g, 0, none⟩) n c)), (11, .v (.int .i64 ((n : Nat) : Int))), (12, .v (.int .i64 ((j : Nat) : Int))), (13, .v (.bool true))] h4 (by kernel_rfl) ⟨by kernel_rfl, by kernel_rfl, by kernel_rfl, by kernel_rfl, by kernel_rfl, by kernel_rfl, by kernel_rfl, by kernel_rfl, by kernel_rfl, trivial⟩ (fun a5 h5 d5 => ?_)
    replace d5 := d5.trans d4
    clear h4 d4
    show Code.wp _ _ _ _ _
    refine wp_block ?_
    refine wp_loop_rounds 9 ?_
    refine by_inner b N (8 * xs.length) n j (.slice (some ⟨g, 0, none⟩) n c) (.slice (some ⟨g, 0, none⟩) n c) hN 8 l x 0 w rfl hB hl (by omega) a5 (sub_ok (E := [(0, .v (.slice (some ⟨g, 0, none⟩) n c)), (1, .v (.slice (some ⟨b, 0, none⟩) N N)), (4, .v (.int .i64 ((8 * xs.length + 8 : Nat) : Int))), (6, .v (.int .u64 ((x : Nat) : Int))), (7, .v (.int .i64 ((0 : Nat) : Int))), (10, .v (.slice (some ⟨g, 0, none⟩) n c)), (11, .v (.int .i64 ((n : Nat) : Int))), (12, .v (.int .i64 ((j : Nat) : Int)))]) h5 sE) d5 (fun a6 W1 hB1 hF1 h6 d6 => ?_)
    refine exit_in ?_
    show Code.wp _ _ _ _ _
    refine wp_region ?_
    refine opsP (N := 51) (T := TT) (M := (fun _ _ => none)) tabOk (fun _ _ _ h => by cases h) [1] [0] [(0, .v (.slice (some ⟨g, 0, none⟩) n c)), (1, .v (.slice (some ⟨b, 0, none⟩) N N)), (4, .v (.int .i64 ((8 * xs.length : Nat) : Int))), (7, .v (.int .i64 ((8 : Nat) : Int))), (10, .v (.slice (some ⟨g, 0, none⟩) n c)), (11, .v (.int .i64 ((n : Nat) : Int))), (12, .v (.int .i64 ((j : Nat) : Int))), (35, .v (.int .i64 (IntKind.i64.wrap (((j : Nat) : Int) + 1))))] h6 (by kernel_rfl) ⟨by kernel_rfl, by kernel_rfl, by kernel_rfl, by kernel_rfl, by kernel_rfl, by kernel_rfl, by kernel_rfl, by kernel_rfl, trivial⟩ (fun a7 h7 d7 => ?_)
    replace d7 := d7.trans d6
    clear h6 d6
    rw [show (IntKind.i64.wrap (((j : Nat) : Int) + 1)) = ((j + 1 : Nat) : Int) from i_suc1 j (by omega)] at h7
    refine opsP (N := 51) (T := TT) (M := (fun _ _ => none)) tabOk (fun _ _ _ h => by cases h) [] [1] [(0, .v (.slice (some ⟨g, 0, none⟩) n c)), (1, .v (.slice (some ⟨b, 0, none⟩) N N)), (4, .v (.int .i64 ((8 * xs.length : Nat) : Int))), (7, .v (.int .i64 ((8 : Nat) : Int))), (10, .v (.slice (some ⟨g, 0, none⟩) n c)), (11, .v (.int .i64 ((n : Nat) : Int))), (12, .v (.int .i64 ((j + 1 : Nat) : Int)))] h7 (by kernel_rfl) ⟨by kernel_rfl, by kernel_rfl, by kernel_rfl, by kernel_rfl, by kernel_rfl, by kernel_rfl, by kernel_rfl, trivial⟩ (fun a8 h8 d8 => ?_)
    replace d8 := d8.trans d7
    clear h7 d7
    show Code.rounds _ _ _ _ _ _
    exact ih _ (j + 1) W1 (by omega) (hw.on hF1 (by simpa using hbg)) (fun t ht => (by rw [Nat.add_assoc, Nat.add_comm 1 t]; exact hx (t + 1) (by simp; omega))) hB1 (by rw [wr_len]; exact hl) (by omega) a8 (sub_ok (E := [(0, .v (.slice (some ⟨g, 0, none⟩) n c)), (1, .v (.slice (some ⟨b, 0, none⟩) N N)), (4, .v (.int .i64 ((8 * xs.length : Nat) : Int))), (10, .v (.slice (some ⟨g, 0, none⟩) n c)), (11, .v (.int .i64 ((n : Nat) : Int))), (12, .v (.int .i64 ((j + 1 : Nat) : Int)))]) h8 sE) d8 (fun a' W' g1 g2 g3 g4 => hex a' W' g1 (hF1.trans g2) g3 g4)
/-- How many noughts a row begins with. -/
def lz : List Int → Nat
  | [] => 0
  | x :: l => if x = 0 then lz l + 1 else 0
theorem lz_le : ∀ l : List Int, lz l ≤ l.length
  | [] => Nat.le_refl _
  | x :: l => by
    unfold lz
    split
    · exact Nat.succ_le_succ (lz_le l)
    · exact Nat.zero_le _
noncomputable def byS : Code := match Try.f27.body with
  | some (.seq _ (.seq _ (.seq _ (.seq _ (.seq (.block _ (.loop c)) _))))) => c
  | _ => .skip
set_option maxHeartbeats 8000000 in
set_option maxRecDepth 100000 in
theorem by_skip {Q : Exit → Act → World → Prop} (b N : Nat) (l : List Int) (hl : l.length = N) (hN : N < 1000) (w : World) (hB : Bd w b l) : ∀ (xs : List Int) (i : Nat), l.drop i = xs → i + xs.length = N → ∀ a0, Has 51 (bn []) [(1, .v (.slice (some ⟨b, 0, none⟩) N N)), (4, .v (.int .i64 ((i : Nat) : Int)))] a0 → a0.defers = [] →
    (∀ a', Has 51 (bn []) [(1, .v (.slice (some ⟨b, 0, none⟩) N N)), (4, .v (.int .i64 ((i + lz xs : Nat) : Int)))] a' → a'.defers = [] → Q (.exit 4) a' w) → Code.rounds Try.prog byS Q (xs.length + 1) a0 w := by
  intro xs
  induction xs with
  | nil =>
    intro i hd hi a0 h0 d0 hex
    obtain rfl : i = N := by simpa using hi
    rw [rounds_succ]
    refine wp_seq ?_
    refine wp_seq ?_
    refine wp_region ?_
    refine opsP (N := 51) (T := TT) (M := (fun _ _ => none)) tabOk (fun _ _ _ h => by cases h) [2, 3, 4, 5, 6, 7, 8, 9, 10] [0, 1] [(1, .v (.slice (some ⟨b, 0, none⟩) i i)), (4, .v (.int .i64 ((i : Nat) : Int))), (38, .v (.int .i64 ((i : Nat) : Int))), (39, .v (.slice (some ⟨b, 0, none⟩) i i))] h0 (by kernel_rfl) ⟨by kernel_rfl, by kernel_rfl, by kernel_rfl, by kernel_rfl, trivial⟩ (fun a1 h1 d1 => ?_)
    replace d1 := d1.trans d0
    clear h0 d0
    refine givenW_ops (N := 51) (i := 2) (d := 40) (s := .v (.int .i64 ((i : Nat) : Int))) (l := [3, 4, 5, 6, 7, 8, 9, 10]) rfl (want_ rfl) rfl (by decide) h1 (op_len rfl Try.underlying25 (h1.2 39 _ rfl)) (fun a2 h2 d2 => ?_)
    replace d2 := d2.trans d1
    clear h1 d1
    refine opsP (N := 51) (T := TT) (M := (fun _ _ => none)) tabOk (fun _ _ _ h => by cases h) [4, 5, 6, 7, 8, 9, 10] [3] [(1, .v (.slice (some ⟨b, 0, none⟩) i i)), (4, .v (.int .i64 ((i : Nat) : Int))), (38, .v (.int .i64 ((i : Nat) : Int))), (39, .v (.slice (some ⟨b, 0, none⟩) i i)), (40, .v (.int .i64 ((i : Nat) : Int))), (41, .v (.bool (decide ((((i : Nat) : Int) : Int) < ((i : Nat) : Int)))))] h2 (by kernel_rfl) ⟨by kernel_rfl, by kernel_rfl, by kernel_rfl, by kernel_rfl, by kernel_rfl, by kernel_rfl, trivial⟩ (fun a3 h3 d3 => ?_)
    replace d3 := d3.trans d2
    clear h2 d2
    rw [show (decide ((((i : Nat) : Int) : Int) < ((i : Nat) : Int))) = false from decide_eq_false (by omega)] at h3
    refine opsP (N := 51) (T := TT) (M := (fun _ _ => none)) tabOk (fun _ _ _ h => by cases h) [5, 6, 7, 8, 9, 10] [4] [(1, .v (.slice (some ⟨b, 0, none⟩) i i)), (4, .v (.int .i64 ((i : Nat) : Int))), (38, .v (.int .i64 ((i : Nat) : Int))), (39, .v (.slice (some ⟨b, 0, none⟩) i i)), (40, .v (.int .i64 ((i : Nat) : Int))), (41, .v (.bool false)), (42, .v (.bool false))] h3 (by kernel_rfl) ⟨by kernel_rfl, by kernel_rfl, by kernel_rfl, by kernel_rfl, by kernel_rfl, by kernel_rfl, by kernel_rfl, trivial⟩ (fun a4 h4 d4 => ?_)
    replace d4 := d4.trans d3
    clear h3 d3
    refine skip_ops (N := 51) (i := 5) (d := 43) (j := 4) (dj := 42) (b := true) (b' := false) (l := [6, 7, 8, 9, 10]) rfl rfl rfl rfl (by decide) rfl (by decide) h4 (fun a5 h5 d5 => ?_)
    replace d5 := d5.trans d4
    clear h4 d4
    refine skip_ops (N := 51) (i := 6) (d := 44) (j := 4) (dj := 42) (b := true) (b' := false) (l := [7, 8, 9, 10]) rfl rfl rfl rfl (by decide) rfl (by decide) h5 (fun a6 h6 d6 => ?_)
    replace d6 := d6.trans d5
    clear h5 d5
    refine skip_ops (N := 51) (i := 7) (d := 45) (j := 4) (dj := 42) (b := true) (b' := false) (l := [8, 9, 10]) rfl rfl rfl rfl (by decide) rfl (by decide) h6 (fun a7 h7 d7 => ?_)
    replace d7 := d7.trans d6
    clear h6 d6
    refine skip_ops (N := 51) (i := 8) (d := 46) (j := 4) (dj := 42) (b := true) (b' := false) (l := [9, 10]) rfl rfl rfl rfl (by decide) rfl (by decide) h7 (fun a8 h8 d8 => ?_)
    replace d8 := d8.trans d7
    clear h7 d7
    refine skip_ops (N := 51) (i := 9) (d := 47) (j := 4) (dj := 42) (b := true) (b' := false) (l := [10]) rfl rfl rfl rfl (by decide) rfl (by decide) h8 (fun a9 h9 d9 => ?_)
    replace d9 := d9.trans d8
    clear h8 d8
    refine givenW_ops (N := 51) (i := 10) (d := 48) (s := .v (Value.bool false)) (l := []) rfl (want_ rfl) rfl (by decide) h9 (op_pickF rfl (h9.2 42 _ rfl) rfl) (fun a10 h10 d10 => ?_)
    replace d10 := d10.trans d9
    clear h9 d9
    show Code.wp _ _ _ _ _
    refine wp_cond_false (h10.2 48 _ rfl) ?_
    refine wp_exit ?_
    refine then_exit (then_exit ?_)
    exact hex a10 (sub_ok (E := [(1, .v (.slice (some ⟨b, 0, none⟩) i i)), (4, .v (.int .i64 ((i : Nat) : Int)))]) h10 sE) d10
  | cons x xs ih =>
    intro i hd hi a0 h0 d0 hex
    rw [List.length_cons] at hi
    have e0 : l.getD i 0 = x := by
      have := congrArg (fun y => y.getD 0 0) hd
      simpa [List.getD_eq_getElem?_getD] using this
    have hd1 : l.drop (i + 1) = xs := by
      have := congrArg List.tail hd
      simpa using this
    by_cases hz : x = 0
    · rw [rounds_succ]
      refine wp_seq ?_
      refine wp_seq ?_
      refine wp_region ?_
      refine opsP (N := 51) (T := TT) (M := (fun _ _ => none)) tabOk (fun _ _ _ h => by cases h) [2, 3, 4, 5, 6, 7, 8, 9, 10] [0, 1] [(1, .v (.slice (some ⟨b, 0, none⟩) N N)), (4, .v (.int .i64 ((i : Nat) : Int))), (38, .v (.int .i64 ((i : Nat) : Int))), (39, .v (.slice (some ⟨b, 0, none⟩) N N))] h0 (by kernel_rfl) ⟨by kernel_rfl, by kernel_rfl, by kernel_rfl, by kernel_rfl, trivial⟩ (fun a1 h1 d1 => ?_)
      replace d1 := d1.trans d0
      clear h0 d0
      refine givenW_ops (N := 51) (i := 2) (d := 40) (s := .v (.int .i64 ((N : Nat) : Int))) (l := [3, 4, 5, 6, 7, 8, 9, 10]) rfl (want_ rfl) rfl (by decide) h1 (op_len rfl Try.underlying25 (h1.2 39 _ rfl)) (fun a2 h2 d2 => ?_)
      replace d2 := d2.trans d1
      clear h1 d1
      refine opsP (N := 51) (T := TT) (M := (fun _ _ => none)) tabOk (fun _ _ _ h => by cases h) [4, 5, 6, 7, 8, 9, 10] [3] [(1, .v (.slice (some ⟨b, 0, none⟩) N N)), (4, .v (.int .i64 ((i : Nat) : Int))), (38, .v (.int .i64 ((i : Nat) : Int))), (39, .v (.slice (some ⟨b, 0, none⟩) N N)), (40, .v (.int .i64 ((N : Nat) : Int))), (41, .v (.bool (decide ((((i : Nat) : Int) : Int) < ((N : Nat) : Int)))))] h2 (by kernel_rfl) ⟨by kernel_rfl, by kernel_rfl, by kernel_rfl, by kernel_rfl, by kernel_rfl, by kernel_rfl, trivial⟩ (fun a3 h3 d3 => ?_)
      replace d3 := d3.trans d2
      clear h2 d2
      rw [show (decide ((((i : Nat) : Int) : Int) < ((N : Nat) : Int))) = true from decide_eq_true (by omega)] at h3
      refine opsP (N := 51) (T := TT) (M := (fun _ _ => none)) tabOk (fun _ _ _ h => by cases h) [5, 6, 7, 8, 9, 10] [4] [(1, .v (.slice (some ⟨b, 0, none⟩) N N)), (4, .v (.int .i64 ((i : Nat) : Int))), (38, .v (.int .i64 ((i : Nat) : Int))), (39, .v (.slice (some ⟨b, 0, none⟩) N N)), (40, .v (.int .i64 ((N : Nat) : Int))), (41, .v (.bool true)), (42, .v (.bool true))] h3 (by kernel_rfl) ⟨by kernel_rfl, by kernel_rfl, by kernel_rfl, by kernel_rfl, by kernel_rfl, by kernel_rfl, by kernel_rfl, trivial⟩ (fun a4 h4 d4 => ?_)
      replace d4 := d4.trans d3
      clear h3 d3
      refine guard_ops (N := 51) (T := TT) (M := (fun _ _ => none)) tabOk (i := 5) (d := 43) (j := 4) (dj := 42) (b := true) (s := .v (.slice (some ⟨b, 0, none⟩) N N)) (l := [6, 7, 8, 9, 10]) (fun _ _ _ h => by cases h) rfl rfl rfl rfl rfl (by decide) h4 (by kernel_rfl) (fun a5 h5 d5 => ?_)
      replace d5 := d5.trans d4
      clear h4 d4
      refine guard_ops (N := 51) (T := TT) (M := (fun _ _ => none)) tabOk (i := 6) (d := 44) (j := 4) (dj := 42) (b := true) (s := .v (.int .i64 ((i : Nat) : Int))) (l := [7, 8, 9, 10]) (fun _ _ _ h => by cases h) rfl rfl rfl rfl rfl (by decide) h5 (by kernel_rfl) (fun a6 h6 d6 => ?_)
      replace d6 := d6.trans d5
      clear h5 d5
      refine givenW_ops (N := 51) (i := 7) (d := 45) (s := .v (.pointer (some ⟨b, 0 + i, none⟩))) (l := [8, 9, 10]) rfl (want_g h6 (j := 4) (d := 42) (b := true) rfl rfl rfl) rfl (by decide) h6 (op_indexE (j := i) rfl (h6.2 43 _ rfl) (h6.2 44 _ rfl) Try.underlying25 Try.sizeOf5 (by omega)) (fun a7 h7 d7 => ?_)
      replace d7 := d7.trans d6
      clear h6 d6
      refine givenW_ops (N := 51) (i := 8) (d := 46) (s := .v (.int .u8 x)) (l := [9, 10]) rfl (want_g h7 (j := 4) (d := 42) (b := true) rfl rfl rfl) rfl (by decide) h7 (op_load rfl (h7.2 45 _ rfl) Try.isAgg5 ((Nat.zero_add i).symm ▸ e0 ▸ hB.cell (i := i) (by omega))) (fun a8 h8 d8 => ?_)
      replace d8 := d8.trans d7
      clear h7 d7
      refine guard_ops (N := 51) (T := TT) (M := (fun _ _ => none)) tabOk (i := 9) (d := 47) (j := 4) (dj := 42) (b := true) (s := .v (.bool ((x : Int) == 0))) (l := [10]) (fun _ _ _ h => by cases h) rfl rfl rfl rfl rfl (by decide) h8 (by kernel_rfl) (fun a9 h9 d9 => ?_)
      replace d9 := d9.trans d8
      clear h8 d8
      rw [show ((x : Int) == 0) = true from beq_iff_eq.mpr hz] at h9
      refine givenW_ops (N := 51) (i := 10) (d := 48) (s := .v (.bool true)) (l := []) rfl (want_ rfl) rfl (by decide) h9 (op_pickT rfl (h9.2 42 _ rfl) (h9.2 47 _ rfl)) (fun a10 h10 d10 => ?_)
      replace d10 := d10.trans d9
      clear h9 d9
      show Code.wp _ _ _ _ _
      refine wp_cond_true (h10.2 48 _ rfl) ?_
      refine wp_skip ?_
      show Code.wp _ _ _ _ _
      refine wp_block ?_
      refine wp_region ?_
      refine opsP (N := 51) (T := TT) (M := (fun _ _ => none)) tabOk (fun _ _ _ h => by cases h) [2] [0, 1] [(1, .v (.slice (some ⟨b, 0, none⟩) N N)), (4, .v (.int .i64 ((i : Nat) : Int))), (38, .v (.int .i64 ((i : Nat) : Int))), (39, .v (.slice (some ⟨b, 0, none⟩) N N)), (40, .v (.int .i64 ((N : Nat) : Int))), (41, .v (.bool true)), (42, .v (.bool true)), (43, .v (.slice (some ⟨b, 0, none⟩) N N)), (44, .v (.int .i64 ((i : Nat) : Int))), (45, .v (.pointer (some ⟨b, 0 + i, none⟩))), (46, .v (.int .u8 x)), (47, .v (.bool true)), (48, .v (.bool true)), (49, .v (.int .i64 ((i : Nat) : Int))), (50, .v (.int .i64 (IntKind.i64.wrap (((i : Nat) : Int) + 1))))] h10 (by kernel_rfl) ⟨by kernel_rfl, by kernel_rfl, by kernel_rfl, by kernel_rfl, by kernel_rfl, by kernel_rfl, by kernel_rfl, by kernel_rfl, by kernel_rfl, by kernel_rfl, by kernel_rfl, by kernel_rfl, by kernel_rfl, by kernel_rfl, by kernel_rfl, trivial⟩ (fun a11 h11 d11 => ?_)
      replace d11 := d11.trans d10
      clear h10 d10
      rw [show (IntKind.i64.wrap (((i : Nat) : Int) + 1)) = ((i + 1 : Nat) : Int) from i_suc1 i (by omega)] at h11
      refine opsP (N := 51) (T := TT) (M := (fun _ _ => none)) tabOk (fun _ _ _ h => by cases h) [] [2] [(1, .v (.slice (some ⟨b, 0, none⟩) N N)), (4, .v (.int .i64 ((i + 1 : Nat) : Int))), (38, .v (.int .i64 ((i : Nat) : Int))), (39, .v (.slice (some ⟨b, 0, none⟩) N N)), (40, .v (.int .i64 ((N : Nat) : Int))), (41, .v (.bool true)), (42, .v (.bool true)), (43, .v (.slice (some ⟨b, 0, none⟩) N N)), (44, .v (.int .i64 ((i : Nat) : Int))), (45, .v (.pointer (some ⟨b, 0 + i, none⟩))), (46, .v (.int .u8 x)), (47, .v (.bool true)), (48, .v (.bool true))] h11 (by kernel_rfl) ⟨by kernel_rfl, by kernel_rfl, by kernel_rfl, by kernel_rfl, by kernel_rfl, by kernel_rfl, by kernel_rfl, by kernel_rfl, by kernel_rfl, by kernel_rfl, by kernel_rfl, by kernel_rfl, by kernel_rfl, trivial⟩ (fun a12 h12 d12 => ?_)
      replace d12 := d12.trans d11
      clear h11 d11
      show Code.rounds _ _ _ _ _ _
      have e : i + lz (x :: xs) = i + 1 + lz xs := by have : lz (x :: xs) = lz xs + 1 := if_pos hz; omega
      rw [e] at hex
      exact ih (i + 1) hd1 (by omega) a12 (sub_ok (E := [(1, .v (.slice (some ⟨b, 0, none⟩) N N)), (4, .v (.int .i64 ((i + 1 : Nat) : Int)))]) h12 sE) d12 hex
    · rw [rounds_succ]
      refine wp_seq ?_
      refine wp_seq ?_
      refine wp_region ?_
      refine opsP (N := 51) (T := TT) (M := (fun _ _ => none)) tabOk (fun _ _ _ h => by cases h) [2, 3, 4, 5, 6, 7, 8, 9, 10] [0, 1] [(1, .v (.slice (some ⟨b, 0, none⟩) N N)), (4, .v (.int .i64 ((i : Nat) : Int))), (38, .v (.int .i64 ((i : Nat) : Int))), (39, .v (.slice (some ⟨b, 0, none⟩) N N))] h0 (by kernel_rfl) ⟨by kernel_rfl, by kernel_rfl, by kernel_rfl, by kernel_rfl, trivial⟩ (fun a1 h1 d1 => ?_)
      replace d1 := d1.trans d0
      clear h0 d0
      refine givenW_ops (N := 51) (i := 2) (d := 40) (s := .v (.int .i64 ((N : Nat) : Int))) (l := [3, 4, 5, 6, 7, 8, 9, 10]) rfl (want_ rfl) rfl (by decide) h1 (op_len rfl Try.underlying25 (h1.2 39 _ rfl)) (fun a2 h2 d2 => ?_)
      replace d2 := d2.trans d1
      clear h1 d1
      refine opsP (N := 51) (T := TT) (M := (fun _ _ => none)) tabOk (fun _ _ _ h => by cases h) [4, 5, 6, 7, 8, 9, 10] [3] [(1, .v (.slice (some ⟨b, 0, none⟩) N N)), (4, .v (.int .i64 ((i : Nat) : Int))), (38, .v (.int .i64 ((i : Nat) : Int))), (39, .v (.slice (some ⟨b, 0, none⟩) N N)), (40, .v (.int .i64 ((N : Nat) : Int))), (41, .v (.bool (decide ((((i : Nat) : Int) : Int) < ((N : Nat) : Int)))))] h2 (by kernel_rfl) ⟨by kernel_rfl, by kernel_rfl, by kernel_rfl, by kernel_rfl, by kernel_rfl, by kernel_rfl, trivial⟩ (fun a3 h3 d3 => ?_)
      replace d3 := d3.trans d2
      clear h2 d2
      rw [show (decide ((((i : Nat) : Int) : Int) < ((N : Nat) : Int))) = true from decide_eq_true (by omega)] at h3
      refine opsP (N := 51) (T := TT) (M := (fun _ _ => none)) tabOk (fun _ _ _ h => by cases h) [5, 6, 7, 8, 9, 10] [4] [(1, .v (.slice (some ⟨b, 0, none⟩) N N)), (4, .v (.int .i64 ((i : Nat) : Int))), (38, .v (.int .i64 ((i : Nat) : Int))), (39, .v (.slice (some ⟨b, 0, none⟩) N N)), (40, .v (.int .i64 ((N : Nat) : Int))), (41, .v (.bool true)), (42, .v (.bool true))] h3 (by kernel_rfl) ⟨by kernel_rfl, by kernel_rfl, by kernel_rfl, by kernel_rfl, by kernel_rfl, by kernel_rfl, by kernel_rfl, trivial⟩ (fun a4 h4 d4 => ?_)
      replace d4 := d4.trans d3
      clear h3 d3
      refine guard_ops (N := 51) (T := TT) (M := (fun _ _ => none)) tabOk (i := 5) (d := 43) (j := 4) (dj := 42) (b := true) (s := .v (.slice (some ⟨b, 0, none⟩) N N)) (l := [6, 7, 8, 9, 10]) (fun _ _ _ h => by cases h) rfl rfl rfl rfl rfl (by decide) h4 (by kernel_rfl) (fun a5 h5 d5 => ?_)
      replace d5 := d5.trans d4
      clear h4 d4
      refine guard_ops (N := 51) (T := TT) (M := (fun _ _ => none)) tabOk (i := 6) (d := 44) (j := 4) (dj := 42) (b := true) (s := .v (.int .i64 ((i : Nat) : Int))) (l := [7, 8, 9, 10]) (fun _ _ _ h => by cases h) rfl rfl rfl rfl rfl (by decide) h5 (by kernel_rfl) (fun a6 h6 d6 => ?_)
      replace d6 := d6.trans d5
      clear h5 d5
      refine givenW_ops (N := 51) (i := 7) (d := 45) (s := .v (.pointer (some ⟨b, 0 + i, none⟩))) (l := [8, 9, 10]) rfl (want_g h6 (j := 4) (d := 42) (b := true) rfl rfl rfl) rfl (by decide) h6 (op_indexE (j := i) rfl (h6.2 43 _ rfl) (h6.2 44 _ rfl) Try.underlying25 Try.sizeOf5 (by omega)) (fun a7 h7 d7 => ?_)
      replace d7 := d7.trans d6
      clear h6 d6
      refine givenW_ops (N := 51) (i := 8) (d := 46) (s := .v (.int .u8 x)) (l := [9, 10]) rfl (want_g h7 (j := 4) (d := 42) (b := true) rfl rfl rfl) rfl (by decide) h7 (op_load rfl (h7.2 45 _ rfl) Try.isAgg5 ((Nat.zero_add i).symm ▸ e0 ▸ hB.cell (i := i) (by omega))) (fun a8 h8 d8 => ?_)
      replace d8 := d8.trans d7
      clear h7 d7
      refine guard_ops (N := 51) (T := TT) (M := (fun _ _ => none)) tabOk (i := 9) (d := 47) (j := 4) (dj := 42) (b := true) (s := .v (.bool ((x : Int) == 0))) (l := [10]) (fun _ _ _ h => by cases h) rfl rfl rfl rfl rfl (by decide) h8 (by kernel_rfl) (fun a9 h9 d9 => ?_)
      replace d9 := d9.trans d8
      clear h8 d8
      rw [show ((x : Int) == 0) = false from beq_eq_false_iff_ne.mpr hz] at h9
      refine givenW_ops (N := 51) (i := 10) (d := 48) (s := .v (.bool false)) (l := []) rfl (want_ rfl) rfl (by decide) h9 (op_pickT rfl (h9.2 42 _ rfl) (h9.2 47 _ rfl)) (fun a10 h10 d10 => ?_)
      replace d10 := d10.trans d9
      clear h9 d9
      show Code.wp _ _ _ _ _
      refine wp_cond_false (h10.2 48 _ rfl) ?_
      refine wp_exit ?_
      refine then_exit (then_exit ?_)
      have e : i + lz (x :: xs) = i := by have : lz (x :: xs) = 0 := if_neg hz; omega
      rw [e] at hex
      exact hex a10 (sub_ok (E := [(1, .v (.slice (some ⟨b, 0, none⟩) N N)), (4, .v (.int .i64 ((i : Nat) : Int)))]) h10 sE) d10
set_option maxHeartbeats 8000000 in
set_option maxRecDepth 100000 in
theorem bytes_walk (b N g n c : Nat) (m : List Int) (xs : List Nat) (l : List Int) (hbg : g ≠ b) (hn : n < 100) (hxn : xs.length = n) (hNx : 8 * xs.length = N) (hm : n ≤ m.length) (w : World) (hw : Wd w g m) (hx : ∀ t, t < xs.length → m.getD t 0 = ((xs.getD t 0 : Nat) : Int)) (hB : Bd w b l) (hl : l.length = N) :
    Calls Try.prog 27 #[.slice (some ⟨g, 0, none⟩) n c, .slice (some ⟨b, 0, none⟩) N N] w fun e w' => e = .returned (.int .i64 ((lz (wro l xs) : Nat) : Int)) ∧ Bd w' b (wro l xs) ∧ Fr [b] w w' := by
  refine calls_of_wp Try.func27 rfl ?_
  have h0 := has_two (β := bn []) (.v (.slice (some ⟨g, 0, none⟩) n c)) (.v (.slice (some ⟨b, 0, none⟩) N N)) 49
  have d0 : (⟨#[.slice (some ⟨g, 0, none⟩) n c, .slice (some ⟨b, 0, none⟩) N N] ++ Array.replicate 49 undef, []⟩ : Act).defers = [] := rfl
  refine wp_seq ?_
  refine wp_region ?_
  refine opsP (N := 51) (T := TT) (M := (fun _ _ => none)) tabOk (fun _ _ _ h => by cases h) [] [0] [(0, .v (.slice (some ⟨g, 0, none⟩) n c)), (1, .v (.slice (some ⟨b, 0, none⟩) N N)), (4, .v (.int .i64 0))] h0 (by kernel_rfl) ⟨by kernel_rfl, by kernel_rfl, by kernel_rfl, trivial⟩ (fun a1 h1 d1 => ?_)
  replace d1 := d1.trans d0
  clear h0 d0
  show Code.wp _ _ _ _ _
  refine wp_seq ?_
  refine wp_region ?_
  refine opsP (N := 51) (T := TT) (M := (fun _ _ => none)) tabOk (fun _ _ _ h => by cases h) [1, 2] [0] [(0, .v (.slice (some ⟨g, 0, none⟩) n c)), (1, .v (.slice (some ⟨b, 0, none⟩) N N)), (4, .v (.int .i64 0)), (8, .v (.slice (some ⟨b, 0, none⟩) N N))] h1 (by kernel_rfl) ⟨by kernel_rfl, by kernel_rfl, by kernel_rfl, by kernel_rfl, trivial⟩ (fun a2 h2 d2 => ?_)
  replace d2 := d2.trans d1
  clear h1 d1
  refine givenW_ops (N := 51) (i := 1) (d := 9) (s := .v (.int .i64 ((N : Nat) : Int))) (l := [2]) rfl (want_ rfl) rfl (by decide) h2 (op_len rfl Try.underlying25 (h2.2 8 _ rfl)) (fun a3 h3 d3 => ?_)
  replace d3 := d3.trans d2
  clear h2 d2
  refine opsP (N := 51) (T := TT) (M := (fun _ _ => none)) tabOk (fun _ _ _ h => by cases h) [] [2] [(0, .v (.slice (some ⟨g, 0, none⟩) n c)), (1, .v (.slice (some ⟨b, 0, none⟩) N N)), (4, .v (.int .i64 ((N : Nat) : Int)))] h3 (by kernel_rfl) ⟨by kernel_rfl, by kernel_rfl, by kernel_rfl, trivial⟩ (fun a4 h4 d4 => ?_)
  replace d4 := d4.trans d3
  clear h3 d3
  show Code.wp _ _ _ _ _
  refine wp_seq ?_
  refine wp_seq ?_
  refine wp_region ?_
  refine opsP (N := 51) (T := TT) (M := (fun _ _ => none)) tabOk (fun _ _ _ h => by cases h) [1, 2] [0] [(0, .v (.slice (some ⟨g, 0, none⟩) n c)), (1, .v (.slice (some ⟨b, 0, none⟩) N N)), (4, .v (.int .i64 ((N : Nat) : Int))), (10, .v (.slice (some ⟨g, 0, none⟩) n c))] h4 (by kernel_rfl) ⟨by kernel_rfl, by kernel_rfl, by kernel_rfl, by kernel_rfl, trivial⟩ (fun a5 h5 d5 => ?_)
  replace d5 := d5.trans d4
  clear h4 d4
  refine givenW_ops (N := 51) (i := 1) (d := 11) (s := .v (.int .i64 ((n : Nat) : Int))) (l := [2]) rfl (want_ rfl) rfl (by decide) h5 (op_len rfl Try.underlying47 (h5.2 10 _ rfl)) (fun a6 h6 d6 => ?_)
  replace d6 := d6.trans d5
  clear h5 d5
  refine opsP (N := 51) (T := TT) (M := (fun _ _ => none)) tabOk (fun _ _ _ h => by cases h) [] [2] [(0, .v (.slice (some ⟨g, 0, none⟩) n c)), (1, .v (.slice (some ⟨b, 0, none⟩) N N)), (4, .v (.int .i64 ((N : Nat) : Int))), (10, .v (.slice (some ⟨g, 0, none⟩) n c)), (11, .v (.int .i64 ((n : Nat) : Int))), (12, .v (.int .i64 0))] h6 (by kernel_rfl) ⟨by kernel_rfl, by kernel_rfl, by kernel_rfl, by kernel_rfl, by kernel_rfl, by kernel_rfl, trivial⟩ (fun a7 h7 d7 => ?_)
  replace d7 := d7.trans d6
  clear h6 d6
  show Code.wp _ _ _ _ _
  refine wp_block ?_
  refine wp_loop_rounds (xs.length + 1) ?_
  refine by_outer b N g n c m hbg (by omega) (by omega) hm xs l 0 w (by rw [Nat.zero_add]; exact hxn) hw (fun t ht => by rw [Nat.zero_add]; exact hx t ht) hB hl (by omega) a7 (sub_ok (E := [(0, .v (.slice (some ⟨g, 0, none⟩) n c)), (1, .v (.slice (some ⟨b, 0, none⟩) N N)), (4, .v (.int .i64 ((8 * xs.length : Nat) : Int))), (10, .v (.slice (some ⟨g, 0, none⟩) n c)), (11, .v (.int .i64 ((n : Nat) : Int))), (12, .v (.int .i64 0))]) h7 ⟨rfl, rfl, (by rw [← hNx]; rfl), rfl, rfl, rfl, trivial⟩) d7 (fun a8 W1 hB1 hF1 h8 d8 => ?_)
  refine exit_in ?_
  show Code.wp _ _ _ _ _
  refine wp_seq ?_
  refine wp_seq ?_
  refine wp_region ?_
  refine opsP (N := 51) (T := TT) (M := (fun _ _ => none)) tabOk (fun _ _ _ h => by cases h) [] [0, 1] [(0, .v (.slice (some ⟨g, 0, none⟩) n c)), (1, .v (.slice (some ⟨b, 0, none⟩) N N)), (4, .v (.int .i64 ((0 : Nat) : Int))), (37, .v (.bool (decide ((((0 : Nat) : Int) : Int) < 0))))] h8 (by kernel_rfl) ⟨by kernel_rfl, by kernel_rfl, by kernel_rfl, by kernel_rfl, trivial⟩ (fun a9 h9 d9 => ?_)
  replace d9 := d9.trans d8
  clear h8 d8
  rw [show (decide ((((0 : Nat) : Int) : Int) < 0)) = false from rfl] at h9
  show Code.wp _ _ _ _ _
  refine wp_cond_false (h9.2 37 _ rfl) ?_
  refine wp_skip ?_
  show Code.wp _ _ _ _ _
  refine wp_seq ?_
  refine wp_block ?_
  refine wp_loop_rounds ((wro l xs).length + 1) ?_
  refine by_skip b N _ (wro_len xs l ▸ hl) (by omega) _ hB1 (wro l xs) 0 (List.drop_zero) (by rw [Nat.zero_add]; exact (wro_len xs l ▸ hl)) a9 (sub_ok (E := [(1, .v (.slice (some ⟨b, 0, none⟩) N N)), (4, .v (.int .i64 ((0 : Nat) : Int)))]) h9 sE) d9 (fun a10 h10 d10 => ?_)
  refine exit_in ?_
  show Code.wp _ _ _ _ _
  rw [Nat.zero_add] at h10
  refine wp_ret ?_
  exact ⟨d10, _, results_tmp rfl _ _ _, congrArg Ending.returned (h10.2 4 _ rfl), hB1, hF1⟩
end Go.Proofs.Ytjmgiodkfgdgnaa.PAll
namespace Go.Proofs.Ytjmgiodkfgdgnaa.PAll
open Go.RowKit Go.Proofs.YtjmgiodkfgdgnaaW.PrintWords Go.Proofs.YtjmgiodkfgdgnaaW.PrintLast Go.Proofs.YtjmgiodkfgdgnaaW.PrintMore
set_option linter.unusedVariables false
set_option linter.unusedSimpArgs false
set_option maxHeartbeats 8000000 in
set_option maxRecDepth 100000 in
theorem bytes_nil (A : Option Addr) (c b : Nat) (w : World) :
    Calls Try.prog 27 #[.slice A 0 c, .slice (some ⟨b, 0, none⟩) 0 0] w fun e w' => e = .returned (.int .i64 0) ∧ w' = w := by
  refine calls_of_wp Try.func27 rfl ?_
  have h0 := has_two (β := bn []) (.v (.slice A 0 c)) (.v (.slice (some ⟨b, 0, none⟩) 0 0)) 49
  have d0 : (⟨#[.slice A 0 c, .slice (some ⟨b, 0, none⟩) 0 0] ++ Array.replicate 49 undef, []⟩ : Act).defers = [] := rfl
  refine wp_seq ?_
  refine wp_region ?_
  refine opsP (N := 51) (T := TT) (M := (fun _ _ => none)) tabOk (fun _ _ _ h => by cases h) [] [0] [(0, .v (.slice A 0 c)), (1, .v (.slice (some ⟨b, 0, none⟩) 0 0)), (4, .v (.int .i64 0))] h0 (by kernel_rfl) ⟨by kernel_rfl, by kernel_rfl, by kernel_rfl, trivial⟩ (fun a1 h1 d1 => ?_)
  replace d1 := d1.trans d0
  clear h0 d0
  show Code.wp _ _ _ _ _
  refine wp_seq ?_
  refine wp_region ?_
  refine opsP (N := 51) (T := TT) (M := (fun _ _ => none)) tabOk (fun _ _ _ h => by cases h) [1, 2] [0] [(0, .v (.slice A 0 c)), (1, .v (.slice (some ⟨b, 0, none⟩) 0 0)), (4, .v (.int .i64 0)), (8, .v (.slice (some ⟨b, 0, none⟩) 0 0))] h1 (by kernel_rfl) ⟨by kernel_rfl, by kernel_rfl, by kernel_rfl, by kernel_rfl, trivial⟩ (fun a2 h2 d2 => ?_)
  replace d2 := d2.trans d1
  clear h1 d1
  refine givenW_ops (N := 51) (i := 1) (d := 9) (s := .v (.int .i64 0)) (l := [2]) rfl (want_ rfl) rfl (by decide) h2 ((op_len rfl Try.underlying25 (h2.2 8 _ rfl)).trans rfl) (fun a3 h3 d3 => ?_)
  replace d3 := d3.trans d2
  clear h2 d2
  refine opsP (N := 51) (T := TT) (M := (fun _ _ => none)) tabOk (fun _ _ _ h => by cases h) [] [2] [(0, .v (.slice A 0 c)), (1, .v (.slice (some ⟨b, 0, none⟩) 0 0)), (4, .v (.int .i64 0))] h3 (by kernel_rfl) ⟨by kernel_rfl, by kernel_rfl, by kernel_rfl, trivial⟩ (fun a4 h4 d4 => ?_)
  replace d4 := d4.trans d3
  clear h3 d3
  show Code.wp _ _ _ _ _
  refine wp_seq ?_
  refine wp_seq ?_
  refine wp_region ?_
  refine opsP (N := 51) (T := TT) (M := (fun _ _ => none)) tabOk (fun _ _ _ h => by cases h) [1, 2] [0] [(0, .v (.slice A 0 c)), (1, .v (.slice (some ⟨b, 0, none⟩) 0 0)), (4, .v (.int .i64 0)), (10, .v (.slice A 0 c))] h4 (by kernel_rfl) ⟨by kernel_rfl, by kernel_rfl, by kernel_rfl, by kernel_rfl, trivial⟩ (fun a5 h5 d5 => ?_)
  replace d5 := d5.trans d4
  clear h4 d4
  refine givenW_ops (N := 51) (i := 1) (d := 11) (s := .v (.int .i64 0)) (l := [2]) rfl (want_ rfl) rfl (by decide) h5 ((op_len rfl Try.underlying47 (h5.2 10 _ rfl)).trans rfl) (fun a6 h6 d6 => ?_)
  replace d6 := d6.trans d5
  clear h5 d5
  refine opsP (N := 51) (T := TT) (M := (fun _ _ => none)) tabOk (fun _ _ _ h => by cases h) [] [2] [(0, .v (.slice A 0 c)), (1, .v (.slice (some ⟨b, 0, none⟩) 0 0)), (4, .v (.int .i64 0)), (10, .v (.slice A 0 c)), (11, .v (.int .i64 0)), (12, .v (.int .i64 0))] h6 (by kernel_rfl) ⟨by kernel_rfl, by kernel_rfl, by kernel_rfl, by kernel_rfl, by kernel_rfl, by kernel_rfl, trivial⟩ (fun a7 h7 d7 => ?_)
  replace d7 := d7.trans d6
  clear h6 d6
  show Code.wp _ _ _ _ _
  refine wp_block ?_
  refine wp_loop_rounds 1 ?_
  rw [rounds_succ]
  refine wp_seq ?_
  refine wp_region ?_
  refine opsP (N := 51) (T := TT) (M := (fun _ _ => none)) tabOk (fun _ _ _ h => by cases h) [] [0] [(0, .v (.slice A 0 c)), (1, .v (.slice (some ⟨b, 0, none⟩) 0 0)), (4, .v (.int .i64 0)), (10, .v (.slice A 0 c)), (12, .v (.int .i64 0)), (13, .v (.bool false))] h7 (by kernel_rfl) ⟨by kernel_rfl, by kernel_rfl, by kernel_rfl, by kernel_rfl, by kernel_rfl, by kernel_rfl, trivial⟩ (fun a8 h8 d8 => ?_)
  replace d8 := d8.trans d7
  clear h7 d7
  show Code.wp _ _ _ _ _
  refine wp_seq ?_
  refine wp_cond_false (h8.2 13 _ rfl) ?_
  refine wp_exit ?_
  refine then_exit (then_exit ?_)
  refine exit_in ?_
  show Code.wp _ _ _ _ _
  refine wp_seq ?_
  refine wp_seq ?_
  refine wp_region ?_
  refine opsP (N := 51) (T := TT) (M := (fun _ _ => none)) tabOk (fun _ _ _ h => by cases h) [] [0, 1] [(0, .v (.slice A 0 c)), (1, .v (.slice (some ⟨b, 0, none⟩) 0 0)), (4, .v (.int .i64 0)), (10, .v (.slice A 0 c)), (12, .v (.int .i64 0)), (13, .v (.bool false)), (37, .v (.bool false))] h8 (by kernel_rfl) ⟨by kernel_rfl, by kernel_rfl, by kernel_rfl, by kernel_rfl, by kernel_rfl, by kernel_rfl, by kernel_rfl, trivial⟩ (fun a9 h9 d9 => ?_)
  replace d9 := d9.trans d8
  clear h8 d8
  show Code.wp _ _ _ _ _
  refine wp_cond_false (h9.2 37 _ rfl) ?_
  refine wp_skip ?_
  show Code.wp _ _ _ _ _
  refine wp_seq ?_
  refine wp_block ?_
  refine wp_loop_rounds 1 ?_
  rw [rounds_succ]
  refine wp_seq ?_
  refine wp_seq ?_
  refine wp_region ?_
  refine opsP (N := 51) (T := TT) (M := (fun _ _ => none)) tabOk (fun _ _ _ h => by cases h) [2, 3, 4, 5, 6, 7, 8, 9, 10] [0, 1] [(0, .v (.slice A 0 c)), (1, .v (.slice (some ⟨b, 0, none⟩) 0 0)), (4, .v (.int .i64 0)), (10, .v (.slice A 0 c)), (12, .v (.int .i64 0)), (13, .v (.bool false)), (37, .v (.bool false)), (38, .v (.int .i64 0)), (39, .v (.slice (some ⟨b, 0, none⟩) 0 0))] h9 (by kernel_rfl) ⟨by kernel_rfl, by kernel_rfl, by kernel_rfl, by kernel_rfl, by kernel_rfl, by kernel_rfl, by kernel_rfl, by kernel_rfl, by kernel_rfl, trivial⟩ (fun a10 h10 d10 => ?_)
  replace d10 := d10.trans d9
  clear h9 d9
  refine givenW_ops (N := 51) (i := 2) (d := 40) (s := .v (.int .i64 0)) (l := [3, 4, 5, 6, 7, 8, 9, 10]) rfl (want_ rfl) rfl (by decide) h10 ((op_len rfl Try.underlying25 (h10.2 39 _ rfl)).trans rfl) (fun a11 h11 d11 => ?_)
  replace d11 := d11.trans d10
  clear h10 d10
  refine opsP (N := 51) (T := TT) (M := (fun _ _ => none)) tabOk (fun _ _ _ h => by cases h) [5, 6, 7, 8, 9, 10] [3, 4] [(0, .v (.slice A 0 c)), (1, .v (.slice (some ⟨b, 0, none⟩) 0 0)), (4, .v (.int .i64 0)), (10, .v (.slice A 0 c)), (12, .v (.int .i64 0)), (13, .v (.bool false)), (37, .v (.bool false)), (38, .v (.int .i64 0)), (39, .v (.slice (some ⟨b, 0, none⟩) 0 0)), (40, .v (.int .i64 0)), (41, .v (.bool false)), (42, .v (.bool false))] h11 (by kernel_rfl) ⟨by kernel_rfl, by kernel_rfl, by kernel_rfl, by kernel_rfl, by kernel_rfl, by kernel_rfl, by kernel_rfl, by kernel_rfl, by kernel_rfl, by kernel_rfl, by kernel_rfl, by kernel_rfl, trivial⟩ (fun a12 h12 d12 => ?_)
  replace d12 := d12.trans d11
  clear h11 d11
  refine skip_ops (N := 51) (i := 5) (d := 43) (j := 4) (dj := 42) (b := true) (b' := false) (l := [6, 7, 8, 9, 10]) rfl rfl rfl rfl (by decide) rfl (by decide) h12 (fun a13 h13 d13 => ?_)
  replace d13 := d13.trans d12
  clear h12 d12
  refine skip_ops (N := 51) (i := 6) (d := 44) (j := 4) (dj := 42) (b := true) (b' := false) (l := [7, 8, 9, 10]) rfl rfl rfl rfl (by decide) rfl (by decide) h13 (fun a14 h14 d14 => ?_)
  replace d14 := d14.trans d13
  clear h13 d13
  refine skip_ops (N := 51) (i := 7) (d := 45) (j := 4) (dj := 42) (b := true) (b' := false) (l := [8, 9, 10]) rfl rfl rfl rfl (by decide) rfl (by decide) h14 (fun a15 h15 d15 => ?_)
  replace d15 := d15.trans d14
  clear h14 d14
  refine skip_ops (N := 51) (i := 8) (d := 46) (j := 4) (dj := 42) (b := true) (b' := false) (l := [9, 10]) rfl rfl rfl rfl (by decide) rfl (by decide) h15 (fun a16 h16 d16 => ?_)
  replace d16 := d16.trans d15
  clear h15 d15
  refine skip_ops (N := 51) (i := 9) (d := 47) (j := 4) (dj := 42) (b := true) (b' := false) (l := [10]) rfl rfl rfl rfl (by decide) rfl (by decide) h16 (fun a17 h17 d17 => ?_)
  replace d17 := d17.trans d16
  clear h16 d16
  refine givenW_ops (N := 51) (i := 10) (d := 48) (s := .v (Value.bool false)) (l := []) rfl (want_ rfl) rfl (by decide) h17 (op_pickF rfl (h17.2 42 _ rfl) rfl) (fun a18 h18 d18 => ?_)
  replace d18 := d18.trans d17
  clear h17 d17
  show Code.wp _ _ _ _ _
  refine wp_cond_false (h18.2 48 _ rfl) ?_
  refine wp_exit ?_
  refine then_exit (then_exit ?_)
  refine exit_in ?_
  show Code.wp _ _ _ _ _
  refine wp_ret ?_
  exact ⟨d18, _, results_tmp rfl _ _ _, congrArg Ending.returned (h18.2 4 _ rfl), rfl⟩
theorem made_bytes (W : World) (c : Nat) : Bd (W.alloc (.cells (madeCells #[.int .u8 0] c) 5)) W.heap.size (List.replicate c 0) := by
  unfold Bd
  rw [(MapKept.heap_alloc W _).1]
  congr 2
  apply Array.ext (by simp [size_madeCells])
  intro i h1 h2
  simp [madeCells, Nat.mod_one]
theorem mk_bytes (W : World) (ρ : Operand → Value) (o : Oper) (x y : Operand) (n : Nat) (hc : n < 1000000) (ho : o.op = .makeSlice 25 x y) (hx : ρ x = .int .i64 (n : Int)) (hy : ρ y = .int .i64 (n : Int)) :
    (execOp ρ o).run Try.prog W = .ok (.value (.slice (some ⟨W.heap.size, 0, none⟩) n n)) (W.alloc (.cells (madeCells #[.int .u8 0] n) 5)) := by
  cases hq : Try.prog.info? 5 with
  | none => exact absurd (show (Try.prog.info? 5).isSome = true by kernel_rfl) (by simp [hq])
  | some ie =>
    have h1 : (Try.prog.info? 5).map (fun i => (i.zero, i.size, i.bytes)) = some (some (.int .u8 0), 1, 1) := by kernel_rfl
    rw [hq] at h1
    simp only [Option.map_some, Option.some.injEq, Prod.mk.injEq] at h1
    obtain ⟨hz, hs, hb⟩ := h1
    have := op_mk (P := Try.prog) (W := W) ho hx hy (Nat.le_refl n) Try.underlying25 hq hz (by rw [hb]; omega) (by omega)
    rw [hs, Nat.mul_one] at this
    exact this
/-- The octets of the words xs, the highest first, without noughts ahead. -/
def octs (xs : List Nat) : List Int := (wro (List.replicate (8 * xs.length) 0) xs).drop (lz (wro (List.replicate (8 * xs.length) 0) xs))
theorem i_mul8 (n : Nat) (h : n < 100) : IntKind.i64.wrap (((n : Nat) : Int) * 8) = ((8 * n : Nat) : Int) := by
  rw [IntKind.wrap_i64]
  omega
set_option maxHeartbeats 8000000 in
set_option maxRecDepth 100000 in
theorem Bytes_nil (p : Nat) (A : Option Addr) (c : Nat) (w : World) (hI : IB w p false (.slice A 0 c)) :
    Calls Try.prog 13 #[.pointer (some ⟨p, 0, none⟩)] w fun e w' => ∃ A c, e = .returned (.slice A 0 c) ∧ Below w.heap.size w w' := by
  refine calls_of_wp Try.func13 rfl ?_
  have h0 := has_one (β := bn []) (.v (.pointer (some ⟨p, 0, none⟩))) 18
  have d0 : (⟨#[.pointer (some ⟨p, 0, none⟩)] ++ Array.replicate 18 undef, []⟩ : Act).defers = [] := rfl
  refine wp_seq ?_
  refine wp_region ?_
  refine opsP (N := 19) (T := TT) (M := (fun _ _ => none)) tabOk (fun _ _ _ h => by cases h) [] [0] [(0, .v (.pointer (some ⟨p, 0, none⟩))), (2, .v (Value.slice none 0 0))] h0 (by kernel_rfl) ⟨by kernel_rfl, by kernel_rfl, trivial⟩ (fun a1 h1 d1 => ?_)
  replace d1 := d1.trans d0
  clear h0 d0
  show Code.wp _ _ _ _ _
  refine wp_seq ?_
  refine wp_region ?_
  refine opsP (N := 19) (T := TT) (M := (fun _ _ => none)) tabOk (fun _ _ _ h => by cases h) [1, 2, 3, 4, 5, 6, 7] [0] [(0, .v (.pointer (some ⟨p, 0, none⟩))), (2, .v (Value.slice none 0 0)), (4, .v (.pointer (some ⟨p, 0, none⟩)))] h1 (by kernel_rfl) ⟨by kernel_rfl, by kernel_rfl, by kernel_rfl, trivial⟩ (fun a2 h2 d2 => ?_)
  replace d2 := d2.trans d1
  clear h1 d1
  refine givenW_ops (N := 19) (i := 1) (d := 5) (s := .v (.pointer (some ⟨p, 0, none⟩))) (l := [2, 3, 4, 5, 6, 7]) rfl (want_ rfl) rfl (by decide) h2 (op_nilCheck rfl (h2.2 4 _ rfl)) (fun a3 h3 d3 => ?_)
  replace d3 := d3.trans d2
  clear h2 d2
  refine givenW_ops (N := 19) (i := 2) (d := 6) (s := .v (.pointer (some ⟨p, 1, none⟩))) (l := [3, 4, 5, 6, 7]) rfl (want_ rfl) rfl (by decide) h3 (op_fAbs rfl (h3.2 5 _ rfl)) (fun a4 h4 d4 => ?_)
  replace d4 := d4.trans d3
  clear h3 d3
  refine givenW_ops (N := 19) (i := 3) (d := 7) (s := .v (.slice A 0 c)) (l := [4, 5, 6, 7]) rfl (want_ rfl) rfl (by decide) h4 (op_load rfl (h4.2 6 _ rfl) Try.isAgg47 hI.abs) (fun a5 h5 d5 => ?_)
  replace d5 := d5.trans d4
  clear h4 d4
  refine givenW_ops (N := 19) (i := 4) (d := 8) (s := .v (.int .i64 0)) (l := [5, 6, 7]) rfl (want_ rfl) rfl (by decide) h5 ((op_len rfl Try.underlying47 (h5.2 7 _ rfl)).trans rfl) (fun a6 h6 d6 => ?_)
  replace d6 := d6.trans d5
  clear h5 d5
  refine opsP (N := 19) (T := TT) (M := (fun _ _ => none)) tabOk (fun _ _ _ h => by cases h) [6, 7] [5] [(0, .v (.pointer (some ⟨p, 0, none⟩))), (2, .v (Value.slice none 0 0)), (4, .v (.pointer (some ⟨p, 0, none⟩))), (5, .v (.pointer (some ⟨p, 0, none⟩))), (6, .v (.pointer (some ⟨p, 1, none⟩))), (7, .v (.slice A 0 c)), (8, .v (.int .i64 0)), (9, .v (.int .i64 0))] h6 (by kernel_rfl) ⟨by kernel_rfl, by kernel_rfl, by kernel_rfl, by kernel_rfl, by kernel_rfl, by kernel_rfl, by kernel_rfl, by kernel_rfl, trivial⟩ (fun a7 h7 d7 => ?_)
  replace d7 := d7.trans d6
  clear h6 d6
  obtain ⟨b, hb⟩ : ∃ b, b = w.heap.size := ⟨_, rfl⟩
  refine newR_ops (N := 19) (i := 6) (d := 10) (v := (.slice (some ⟨b, 0, none⟩) 0 0)) (l := [7]) rfl rfl rfl (by decide) h7 (by rw [hb]; exact mk_bytes w _ _ _ _ 0 (by decide) rfl (h7.2 9 _ rfl) (h7.2 9 _ rfl)) (fun V => Bd V b (List.replicate 0 0) ∧ Below w.heap.size w V) (⟨hb ▸ made_bytes w 0, (Below.refl w.heap.size w).alloc (Nat.le_refl _) _⟩) (fun a8 W8 r8 h8 d8 => ?_)
  replace d8 := d8.trans d7
  clear h7 d7
  obtain ⟨hBd, hB⟩ := r8
  have hI1 := hI.below hB
  refine opsP (N := 19) (T := TT) (M := (fun _ _ => none)) tabOk (fun _ _ _ h => by cases h) [] [7] [(0, .v (.pointer (some ⟨p, 0, none⟩))), (2, .v (Value.slice none 0 0)), (3, .v (.slice (some ⟨b, 0, none⟩) 0 0))] h8 (by kernel_rfl) ⟨by kernel_rfl, by kernel_rfl, by kernel_rfl, trivial⟩ (fun a9 h9 d9 => ?_)
  replace d9 := d9.trans d8
  clear h8 d8
  show Code.wp _ _ _ _ _
  refine wp_seq ?_
  refine wp_region ?_
  refine opsP (N := 19) (T := TT) (M := (fun _ _ => none)) tabOk (fun _ _ _ h => by cases h) [2, 3, 4, 5, 6, 7, 8] [0, 1] [(0, .v (.pointer (some ⟨p, 0, none⟩))), (2, .v (Value.slice none 0 0)), (3, .v (.slice (some ⟨b, 0, none⟩) 0 0)), (11, .v (.slice (some ⟨b, 0, none⟩) 0 0)), (12, .v (.pointer (some ⟨p, 0, none⟩)))] h9 (by kernel_rfl) ⟨by kernel_rfl, by kernel_rfl, by kernel_rfl, by kernel_rfl, by kernel_rfl, trivial⟩ (fun a10 h10 d10 => ?_)
  replace d10 := d10.trans d9
  clear h9 d9
  refine givenW_ops (N := 19) (i := 2) (d := 13) (s := .v (.pointer (some ⟨p, 0, none⟩))) (l := [3, 4, 5, 6, 7, 8]) rfl (want_ rfl) rfl (by decide) h10 (op_nilCheck rfl (h10.2 12 _ rfl)) (fun a11 h11 d11 => ?_)
  replace d11 := d11.trans d10
  clear h10 d10
  refine givenW_ops (N := 19) (i := 3) (d := 14) (s := .v (.pointer (some ⟨p, 1, none⟩))) (l := [4, 5, 6, 7, 8]) rfl (want_ rfl) rfl (by decide) h11 (op_fAbs rfl (h11.2 13 _ rfl)) (fun a12 h12 d12 => ?_)
  replace d12 := d12.trans d11
  clear h11 d11
  refine givenW_ops (N := 19) (i := 4) (d := 15) (s := .v (.slice A 0 c)) (l := [5, 6, 7, 8]) rfl (want_ rfl) rfl (by decide) h12 (op_load rfl (h12.2 14 _ rfl) Try.isAgg47 hI1.abs) (fun a13 h13 d13 => ?_)
  replace d13 := d13.trans d12
  clear h12 d12
  refine opsP (N := 19) (T := TT) (M := (fun _ _ => none)) tabOk (fun _ _ _ h => by cases h) [6, 7, 8] [5] [(0, .v (.pointer (some ⟨p, 0, none⟩))), (2, .v (Value.slice none 0 0)), (3, .v (.slice (some ⟨b, 0, none⟩) 0 0)), (11, .v (.slice (some ⟨b, 0, none⟩) 0 0)), (12, .v (.pointer (some ⟨p, 0, none⟩))), (13, .v (.pointer (some ⟨p, 0, none⟩))), (14, .v (.pointer (some ⟨p, 1, none⟩))), (15, .v (.slice A 0 c)), (16, .v (.slice (some ⟨b, 0, none⟩) 0 0))] h13 (by kernel_rfl) ⟨by kernel_rfl, by kernel_rfl, by kernel_rfl, by kernel_rfl, by kernel_rfl, by kernel_rfl, by kernel_rfl, by kernel_rfl, by kernel_rfl, trivial⟩ (fun a14 h14 d14 => ?_)
  replace d14 := d14.trans d13
  clear h13 d13
  refine callW_ops (N := 19) (i := 6) (d := 17) (f := 27) (args := [.v (.slice A 0 c), .v (.slice (some ⟨b, 0, none⟩) 0 0)]) (l := [7, 8]) rfl (want_ rfl) rfl (by decide) h14 Try.func27 rfl rfl rfl (by kernel_rfl) (fun (v : Value) (W' : World) => v = .int .i64 0 ∧ W' = W8) ((bytes_nil A c b _).mono fun e w' hh => ⟨_, hh.1, rfl, hh.2⟩) (fun v15 W15 a15 hR15 h15 d15 => ?_)
  replace d15 := d15.trans d14
  clear h14 d14
  obtain ⟨rfl, e1⟩ := hR15
  obtain rfl := e1.symm
  refine givenW_ops (N := 19) (i := 7) (d := 18) (s := .v (.slice (cutA (some ⟨b, 0, none⟩) 0 0) (0 - 0) (0 - 0))) (l := [8]) rfl (want_ rfl) rfl (by decide) h15 (op_sll (l := 0) rfl sltBytes (h15.2 11 _ rfl) (h15.2 17 _ rfl) (Nat.le_refl _)) (fun a16 h16 d16 => ?_)
  replace d16 := d16.trans d15
  clear h15 d15
  refine opsP (N := 19) (T := TT) (M := (fun _ _ => none)) tabOk (fun _ _ _ h => by cases h) [] [8] [(0, .v (.pointer (some ⟨p, 0, none⟩))), (2, .v (.slice (cutA (some ⟨b, 0, none⟩) 0 0) (0 - 0) (0 - 0)))] h16 (by kernel_rfl) ⟨by kernel_rfl, by kernel_rfl, trivial⟩ (fun a17 h17 d17 => ?_)
  replace d17 := d17.trans d16
  clear h16 d16
  show Code.wp _ _ _ _ _
  refine wp_ret ?_
  exact ⟨d17, _, results_tmp rfl _ _ _, _, _, congrArg Ending.returned (h17.2 2 _ rfl), hB⟩
set_option maxHeartbeats 8000000 in
set_option maxRecDepth 100000 in
theorem Bytes_some (p g n c : Nat) (m : List Int) (xs : List Nat) (hn : n < 100) (hxn : xs.length = n) (hm : n ≤ m.length) (w : World) (hI : IB w p false (.slice (some ⟨g, 0, none⟩) n c)) (hw : Wd w g m) (hx : ∀ t, t < xs.length → m.getD t 0 = ((xs.getD t 0 : Nat) : Int)) :
    Calls Try.prog 13 #[.pointer (some ⟨p, 0, none⟩)] w fun e w' => ∃ b, e = .returned (.slice (cutA (some ⟨b, 0, none⟩) (8 * n) (lz (wro (List.replicate (8 * xs.length) 0) xs))) (8 * n - lz (wro (List.replicate (8 * xs.length) 0) xs)) (8 * n - lz (wro (List.replicate (8 * xs.length) 0) xs))) ∧ Bd w' b (wro (List.replicate (8 * xs.length) 0) xs) ∧ w.heap.size ≤ b ∧ Below w.heap.size w w' := by
  refine calls_of_wp Try.func13 rfl ?_
  have h0 := has_one (β := bn []) (.v (.pointer (some ⟨p, 0, none⟩))) 18
  have d0 : (⟨#[.pointer (some ⟨p, 0, none⟩)] ++ Array.replicate 18 undef, []⟩ : Act).defers = [] := rfl
  refine wp_seq ?_
  refine wp_region ?_
  refine opsP (N := 19) (T := TT) (M := (fun _ _ => none)) tabOk (fun _ _ _ h => by cases h) [] [0] [(0, .v (.pointer (some ⟨p, 0, none⟩))), (2, .v (Value.slice none 0 0))] h0 (by kernel_rfl) ⟨by kernel_rfl, by kernel_rfl, trivial⟩ (fun a1 h1 d1 => ?_)
  replace d1 := d1.trans d0
  clear h0 d0
  show Code.wp _ _ _ _ _
  refine wp_seq ?_
  refine wp_region ?_
  refine opsP (N := 19) (T := TT) (M := (fun _ _ => none)) tabOk (fun _ _ _ h => by cases h) [1, 2, 3, 4, 5, 6, 7] [0] [(0, .v (.pointer (some ⟨p, 0, none⟩))), (2, .v (Value.slice none 0 0)), (4, .v (.pointer (some ⟨p, 0, none⟩)))] h1 (by kernel_rfl) ⟨by kernel_rfl, by kernel_rfl, by kernel_rfl, trivial⟩ (fun a2 h2 d2 => ?_)
  replace d2 := d2.trans d1
  clear h1 d1
  refine givenW_ops (N := 19) (i := 1) (d := 5) (s := .v (.pointer (some ⟨p, 0, none⟩))) (l := [2, 3, 4, 5, 6, 7]) rfl (want_ rfl) rfl (by decide) h2 (op_nilCheck rfl (h2.2 4 _ rfl)) (fun a3 h3 d3 => ?_)
  replace d3 := d3.trans d2
  clear h2 d2
  refine givenW_ops (N := 19) (i := 2) (d := 6) (s := .v (.pointer (some ⟨p, 1, none⟩))) (l := [3, 4, 5, 6, 7]) rfl (want_ rfl) rfl (by decide) h3 (op_fAbs rfl (h3.2 5 _ rfl)) (fun a4 h4 d4 => ?_)
  replace d4 := d4.trans d3
  clear h3 d3
  refine givenW_ops (N := 19) (i := 3) (d := 7) (s := .v (.slice (some ⟨g, 0, none⟩) n c)) (l := [4, 5, 6, 7]) rfl (want_ rfl) rfl (by decide) h4 (op_load rfl (h4.2 6 _ rfl) Try.isAgg47 hI.abs) (fun a5 h5 d5 => ?_)
  replace d5 := d5.trans d4
  clear h4 d4
  refine givenW_ops (N := 19) (i := 4) (d := 8) (s := .v (.int .i64 ((n : Nat) : Int))) (l := [5, 6, 7]) rfl (want_ rfl) rfl (by decide) h5 (op_len rfl Try.underlying47 (h5.2 7 _ rfl)) (fun a6 h6 d6 => ?_)
  replace d6 := d6.trans d5
  clear h5 d5
  refine opsP (N := 19) (T := TT) (M := (fun _ _ => none)) tabOk (fun _ _ _ h => by cases h) [6, 7] [5] [(0, .v (.pointer (some ⟨p, 0, none⟩))), (2, .v (Value.slice none 0 0)), (4, .v (.pointer (some ⟨p, 0, none⟩))), (5, .v (.pointer (some ⟨p, 0, none⟩))), (6, .v (.pointer (some ⟨p, 1, none⟩))), (7, .v (.slice (some ⟨g, 0, none⟩) n c)), (8, .v (.int .i64 ((n : Nat) : Int))), (9, .v (.int .i64 (IntKind.i64.wrap (((n : Nat) : Int) * 8))))] h6 (by kernel_rfl) ⟨by kernel_rfl, by kernel_rfl, by kernel_rfl, by kernel_rfl, by kernel_rfl, by kernel_rfl, by kernel_rfl, by kernel_rfl, trivial⟩ (fun a7 h7 d7 => ?_)
  replace d7 := d7.trans d6
  clear h6 d6
  rw [show (IntKind.i64.wrap (((n : Nat) : Int) * 8)) = ((8 * n : Nat) : Int) from i_mul8 n hn] at h7
  obtain ⟨b, hb⟩ : ∃ b, b = w.heap.size := ⟨_, rfl⟩
  refine newR_ops (N := 19) (i := 6) (d := 10) (v := (.slice (some ⟨b, 0, none⟩) (8 * n) (8 * n))) (l := [7]) rfl rfl rfl (by decide) h7 (by rw [hb]; exact mk_bytes w _ _ _ _ (8 * n) (by omega) rfl (h7.2 9 _ rfl) (h7.2 9 _ rfl)) (fun V => Bd V b (List.replicate (8 * n) 0) ∧ Below w.heap.size w V) (⟨hb ▸ made_bytes w (8 * n), (Below.refl w.heap.size w).alloc (Nat.le_refl _) _⟩) (fun a8 W8 r8 h8 d8 => ?_)
  replace d8 := d8.trans d7
  clear h7 d7
  obtain ⟨hBd, hB⟩ := r8
  have hI1 := hI.below hB
  refine opsP (N := 19) (T := TT) (M := (fun _ _ => none)) tabOk (fun _ _ _ h => by cases h) [] [7] [(0, .v (.pointer (some ⟨p, 0, none⟩))), (2, .v (Value.slice none 0 0)), (3, .v (.slice (some ⟨b, 0, none⟩) (8 * n) (8 * n)))] h8 (by kernel_rfl) ⟨by kernel_rfl, by kernel_rfl, by kernel_rfl, trivial⟩ (fun a9 h9 d9 => ?_)
  replace d9 := d9.trans d8
  clear h8 d8
  show Code.wp _ _ _ _ _
  have hw1 := hw.below hB
  have hgb : g ≠ b := by have := hw.lt; omega
  refine wp_seq ?_
  refine wp_region ?_
  refine opsP (N := 19) (T := TT) (M := (fun _ _ => none)) tabOk (fun _ _ _ h => by cases h) [2, 3, 4, 5, 6, 7, 8] [0, 1] [(0, .v (.pointer (some ⟨p, 0, none⟩))), (2, .v (Value.slice none 0 0)), (3, .v (.slice (some ⟨b, 0, none⟩) (8 * n) (8 * n))), (11, .v (.slice (some ⟨b, 0, none⟩) (8 * n) (8 * n))), (12, .v (.pointer (some ⟨p, 0, none⟩)))] h9 (by kernel_rfl) ⟨by kernel_rfl, by kernel_rfl, by kernel_rfl, by kernel_rfl, by kernel_rfl, trivial⟩ (fun a10 h10 d10 => ?_)
  replace d10 := d10.trans d9
  clear h9 d9
  refine givenW_ops (N := 19) (i := 2) (d := 13) (s := .v (.pointer (some ⟨p, 0, none⟩))) (l := [3, 4, 5, 6, 7, 8]) rfl (want_ rfl) rfl (by decide) h10 (op_nilCheck rfl (h10.2 12 _ rfl)) (fun a11 h11 d11 => ?_)
  replace d11 := d11.trans d10
  clear h10 d10
  refine givenW_ops (N := 19) (i := 3) (d := 14) (s := .v (.pointer (some ⟨p, 1, none⟩))) (l := [4, 5, 6, 7, 8]) rfl (want_ rfl) rfl (by decide) h11 (op_fAbs rfl (h11.2 13 _ rfl)) (fun a12 h12 d12 => ?_)
  replace d12 := d12.trans d11
  clear h11 d11
  refine givenW_ops (N := 19) (i := 4) (d := 15) (s := .v (.slice (some ⟨g, 0, none⟩) n c)) (l := [5, 6, 7, 8]) rfl (want_ rfl) rfl (by decide) h12 (op_load rfl (h12.2 14 _ rfl) Try.isAgg47 hI1.abs) (fun a13 h13 d13 => ?_)
  replace d13 := d13.trans d12
  clear h12 d12
  refine opsP (N := 19) (T := TT) (M := (fun _ _ => none)) tabOk (fun _ _ _ h => by cases h) [6, 7, 8] [5] [(0, .v (.pointer (some ⟨p, 0, none⟩))), (2, .v (Value.slice none 0 0)), (3, .v (.slice (some ⟨b, 0, none⟩) (8 * n) (8 * n))), (11, .v (.slice (some ⟨b, 0, none⟩) (8 * n) (8 * n))), (12, .v (.pointer (some ⟨p, 0, none⟩))), (13, .v (.pointer (some ⟨p, 0, none⟩))), (14, .v (.pointer (some ⟨p, 1, none⟩))), (15, .v (.slice (some ⟨g, 0, none⟩) n c)), (16, .v (.slice (some ⟨b, 0, none⟩) (8 * n) (8 * n)))] h13 (by kernel_rfl) ⟨by kernel_rfl, by kernel_rfl, by kernel_rfl, by kernel_rfl, by kernel_rfl, by kernel_rfl, by kernel_rfl, by kernel_rfl, by kernel_rfl, trivial⟩ (fun a14 h14 d14 => ?_)
  replace d14 := d14.trans d13
  clear h13 d13
  refine callW_ops (N := 19) (i := 6) (d := 17) (f := 27) (args := [.v (.slice (some ⟨g, 0, none⟩) n c), .v (.slice (some ⟨b, 0, none⟩) (8 * n) (8 * n))]) (l := [7, 8]) rfl (want_ rfl) rfl (by decide) h14 Try.func27 rfl rfl rfl (by kernel_rfl) (fun (v : Value) (W' : World) => v = .int .i64 ((lz (wro (List.replicate (8 * xs.length) 0) xs) : Nat) : Int) ∧ Bd W' b (wro (List.replicate (8 * xs.length) 0) xs) ∧ Fr [b] W8 W') ((bytes_walk b (8 * n) g n c m xs (List.replicate (8 * xs.length) 0) hgb hn hxn (by rw [hxn]) hm _ hw1 hx (hxn.symm ▸ hBd) (by rw [List.length_replicate, hxn])).mono fun e w' hh => ⟨_, hh.1, rfl, hh.2⟩) (fun v15 W15 a15 hR15 h15 d15 => ?_)
  replace d15 := d15.trans d14
  clear h14 d14
  obtain ⟨rfl, hBd2, hF⟩ := hR15
  replace hB := hB.trans (hF.below w.heap.size hB.size (by simp; omega))
  have hlz : lz (wro (List.replicate (8 * xs.length) 0) xs) ≤ 8 * n := Nat.le_trans (lz_le _) (Nat.le_of_eq (by rw [wro_len, List.length_replicate, hxn]))
  refine givenW_ops (N := 19) (i := 7) (d := 18) (s := .v (.slice (cutA (some ⟨b, 0, none⟩) (8 * n) (lz (wro (List.replicate (8 * xs.length) 0) xs))) ((8 * n) - (lz (wro (List.replicate (8 * xs.length) 0) xs))) ((8 * n) - (lz (wro (List.replicate (8 * xs.length) 0) xs))))) (l := [8]) rfl (want_ rfl) rfl (by decide) h15 (op_sll (l := (lz (wro (List.replicate (8 * xs.length) 0) xs))) rfl sltBytes (h15.2 11 _ rfl) (h15.2 17 _ rfl) hlz) (fun a16 h16 d16 => ?_)
  replace d16 := d16.trans d15
  clear h15 d15
  refine opsP (N := 19) (T := TT) (M := (fun _ _ => none)) tabOk (fun _ _ _ h => by cases h) [] [8] [(0, .v (.pointer (some ⟨p, 0, none⟩))), (2, .v (.slice (cutA (some ⟨b, 0, none⟩) (8 * n) (lz (wro (List.replicate (8 * xs.length) 0) xs))) ((8 * n) - (lz (wro (List.replicate (8 * xs.length) 0) xs))) ((8 * n) - (lz (wro (List.replicate (8 * xs.length) 0) xs)))))] h16 (by kernel_rfl) ⟨by kernel_rfl, by kernel_rfl, trivial⟩ (fun a17 h17 d17 => ?_)
  replace d17 := d17.trans d16
  clear h16 d16
  show Code.wp _ _ _ _ _
  refine wp_ret ?_
  exact ⟨d17, _, results_tmp rfl _ _ _, b, congrArg Ending.returned (h17.2 2 _ rfl), hBd2, by omega, hB⟩
end Go.Proofs.Ytjmgiodkfgdgnaa.PAll
