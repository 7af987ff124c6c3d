/- TxtC: HtEfgL, HtEfg, HtUni. -/
import Derived.Test.YtmgnffklmdhooaaDoorTxtA
import Derived.Test.YtmgnffklmdhooaaDoorTxtB
namespace Go.Proofs.YtmgnffklmdhooaaDoor.PAll
open Go.RowKit Go.Proofs.YtmgnffklmdhooaaDoorW.PrintWords Go.Proofs.YtmgnffklmdhooaaDoorW.PrintLast Go.Proofs.YtmgnffklmdhooaaDoorW.PrintMore
set_option linter.unusedVariables false
set_option linter.unusedSimpArgs false
section
variable {P : Program} {ρ : Operand → Value} {o : Oper} {W : World}
theorem op_min {x y : Operand} {k k' : IntKind} {p q : Int} {ats : Array TypeId} (ho : o.op = .call { callee := .builtin .min, args := #[x, y], argTypes := ats }) (hx : ρ x = .int k p) (hy : ρ y = .int k' q) : (execOp ρ o).run P W = .ok (.value (.int k (if q < p then q else p))) W := by
  unfold execOp
  rw [ho]
  simp [go_sem, resolve, invoke, builtin, hx, hy, min_two, min2_int]
theorem op_max {x y : Operand} {k k' : IntKind} {p q : Int} {ats : Array TypeId} (ho : o.op = .call { callee := .builtin .max, args := #[x, y], argTypes := ats }) (hx : ρ x = .int k p) (hy : ρ y = .int k' q) : (execOp ρ o).run P W = .ok (.value (.int k (if p < q then q else p))) W := by
  unfold execOp
  rw [ho]
  simp [go_sem, resolve, invoke, builtin, hx, hy, max_two, max2_int]
end
theorem i_succ (k : Nat) (h : k < 100000) : IntKind.i64.wrap (((k : Nat) : Int) + 1) = ((k + 1 : Nat) : Int) := by
  rw [IntKind.wrap_i64]
  omega
theorem i_add (j k : Nat) (h : j + k < 100000) : IntKind.i64.wrap (((j : Nat) : Int) + ((k : Nat) : Int)) = ((j + k : Nat) : Int) := by
  rw [IntKind.wrap_i64]
  omega
noncomputable def efZ : Code := match Tryd.f33.body with
  | some (.seq _ (.seq _ (.seq (.seq _ (.block _ (.seq _ (.cond _ _ (.seq _ (.cond _ z _)))))) _))) => z
  | _ => .skip
noncomputable def efL58 : Code := match efZ with
  | .seq _ (.seq (.seq _ (.cond _ (.seq _ (.seq (.seq _ (.block _ (.loop c))) _)) _)) _) => c
  | _ => .skip
noncomputable def efL63 : Code := match efZ with
  | .seq _ (.seq (.seq _ (.cond _ (.seq _ (.seq _ (.seq _ (.block _ (.loop c))))) _)) _) => c
  | _ => .skip
noncomputable def efB : Code := match efZ with
  | .seq _ (.seq _ (.seq (.seq _ (.cond _ b _)) _)) => b
  | _ => .skip
noncomputable def efL74 : Code := match efB with
  | .seq _ (.seq _ (.seq _ (.seq _ (.seq _ (.seq (.seq _ (.block _ (.loop c))) _))))) => c
  | _ => .skip
noncomputable def efL78 : Code := match efB with
  | .seq _ (.seq _ (.seq _ (.seq _ (.seq _ (.seq _ (.seq (.seq _ (.block _ (.loop c))) _)))))) => c
  | _ => .skip
noncomputable def efL83 : Code := match efB with
  | .seq _ (.seq _ (.seq _ (.seq _ (.seq _ (.seq _ (.seq _ (.seq _ (.block _ (.loop c))))))))) => c
  | _ => .skip
set_option maxHeartbeats 8000000 in
set_option maxRecDepth 100000 in
theorem ef63 {Q : Exit → Act → World → Prop} (g : Nat) (m : Nat → Value) (w0 : World) (s2 s3 s4 s5 : SV) (tot : Nat) (ht : tot < 1000) : ∀ rem i, i + rem = tot → ∀ (a0 : Act) (v : Value) (W : World) (l : List Int), DS g m true w0 W v l → l.length + rem < 100000 → Has 272 (bn [g]) [(0, .v v), (2, s2), (3, s3), (4, s4), (5, s5), (202, vi ↑tot), (203, vi ↑i)] a0 → a0.defers = [] →
    (∀ (a' : Act) (v' : Value) (W' : World), DS g m true w0 W' v' (l ++ List.replicate rem 48) → Has 272 (bn [g]) [(0, .v v'), (2, s2), (3, s3), (4, s4), (5, s5)] a' → a'.defers = [] → Q (.exit 6) a' W') → Code.rounds Tryd.prog efL63 Q (rem + 1) a0 W := by
  intro rem
  induction rem with
  | zero =>
    intro i hi a0 v W l D0 hl h0 d0 hex
    rw [rounds_succ]
    refine wp_seq (wp_region ?_)
    refine oP 272 [] [0] [(0, .v v), (2, s2), (3, s3), (4, s4), (5, s5), (202, vi ↑tot), (203, vi ↑i), (204, vb (decide ((((i : Nat) : Int) : Int) < ((tot : Nat) : Int))))] h0 d0 (fun a1 h1 d1 => ?_)
    clear h0 d0
    rw [show (decide ((((i : Nat) : Int) : Int) < ((tot : Nat) : Int))) = false from decide_eq_false (by omega)] at h1
    show Code.wp _ _ _ _ _
    refine wp_seq ?_
    refine wp_cond_false (h1.2 204 _ rfl) ?_
    refine wp_exit ?_
    refine then_exit (then_exit ?_)
    refine hex a1 v W ?_ (sub_ok h1 sE) d1
    simpa using D0
  | succ rem ih =>
    intro i hi a0 v W l D0 hl h0 d0 hex
    rw [rounds_succ]
    refine wp_seq (wp_region ?_)
    refine oP 272 [] [0] [(0, .v v), (2, s2), (3, s3), (4, s4), (5, s5), (202, vi ↑tot), (203, vi ↑i), (204, vb (decide ((((i : Nat) : Int) : Int) < ((tot : Nat) : Int))))] h0 d0 (fun a1 h1 d1 => ?_)
    clear h0 d0
    rw [show (decide ((((i : Nat) : Int) : Int) < ((tot : Nat) : Int))) = true from decide_eq_true (by omega)] at h1
    show Code.wp _ _ _ _ _
    refine wp_seq ?_
    refine wp_cond_true (h1.2 204 _ rfl) ?_
    refine wp_skip ?_
    show Code.wp _ _ _ _ _
    refine wp_seq ?_
    refine wp_block ?_
    refine wp_region ?_
    refine oP 272 [1, 2, 3] [0] [(0, .v v), (2, s2), (3, s3), (4, s4), (5, s5), (202, vi ↑tot), (203, vi ↑i), (205, .v v)] h1 d1 (fun a2 h2 d2 => ?_)
    clear h1 d1
    refine push_ops (N := 272) (i := 1) (j := 2) (d1 := 206) (d2 := 207) (ts := 205) (x := 48) (rest := [3]) D0 (by omega) h2 rfl rfl rfl (by decide) rfl rfl rfl rfl rfl (by decide) rfl rfl rfl (fun v3 W3 a3 D3 h3 d3 => ?_)
    replace d3 := d3.trans d2
    clear h2 d2
    refine oP 272 [] [3] [(0, .v v3), (2, s2), (3, s3), (4, s4), (5, s5), (202, vi ↑tot), (203, vi ↑i)] h3 d3 (fun a4 h4 d4 => ?_)
    clear h3 d3
    show Code.wp _ _ _ _ _
    refine wp_region ?_
    refine oP 272 [1] [0] [(0, .v v3), (2, s2), (3, s3), (4, s4), (5, s5), (202, vi ↑tot), (203, vi ↑i), (208, vi (IntKind.i64.wrap (((i : Nat) : Int) + 1)))] h4 d4 (fun a5 h5 d5 => ?_)
    clear h4 d4
    rw [show (IntKind.i64.wrap (((i : Nat) : Int) + 1)) = ((i + 1 : Nat) : Int) from i_succ i (by omega)] at h5
    refine oP 272 [] [1] [(0, .v v3), (2, s2), (3, s3), (4, s4), (5, s5), (202, vi ↑tot), (203, vi ((i + 1 : Nat) : Int))] h5 d5 (fun a6 h6 d6 => ?_)
    clear h5 d5
    show Code.rounds _ _ _ _ _ _
    refine ih (i + 1) (by omega) a6 _ _ _ D3 (by simp; omega) (sub_ok h6 sE) d6 (fun a' v' W' hD hH hd => hex a' v' W' ?_ hH hd)
    have e : List.replicate (rem + 1) (48 : Int) = [48] ++ List.replicate rem 48 := rfl
    rw [e, ← List.append_assoc]
    exact hD
set_option maxHeartbeats 8000000 in
set_option maxRecDepth 100000 in
theorem ef74 {Q : Exit → Act → World → Prop} (g : Nat) (m : Nat → Value) (w0 : World) (s2 s27 s28 s29 : SV) (tot : Nat) (ht : tot < 1000) : ∀ rem i, i + rem = tot → ∀ (a0 : Act) (v : Value) (W : World) (l : List Int), DS g m true w0 W v l → l.length + rem < 100000 → Has 272 (bn [g]) [(0, .v v), (2, s2), (27, s27), (28, s28), (29, s29), (239, vi ↑tot), (240, vi ↑i)] a0 → a0.defers = [] →
    (∀ (a' : Act) (v' : Value) (W' : World), DS g m true w0 W' v' (l ++ List.replicate rem 48) → Has 272 (bn [g]) [(0, .v v'), (2, s2), (27, s27), (28, s28), (29, s29)] a' → a'.defers = [] → Q (.exit 8) a' W') → Code.rounds Tryd.prog efL74 Q (rem + 1) a0 W := by
  intro rem
  induction rem with
  | zero =>
    intro i hi a0 v W l D0 hl h0 d0 hex
    rw [rounds_succ]
    refine wp_seq (wp_region ?_)
    refine oP 272 [] [0] [(0, .v v), (2, s2), (27, s27), (28, s28), (29, s29), (239, vi ↑tot), (240, vi ↑i), (241, vb (decide ((((i : Nat) : Int) : Int) < ((tot : Nat) : Int))))] h0 d0 (fun a1 h1 d1 => ?_)
    clear h0 d0
    rw [show (decide ((((i : Nat) : Int) : Int) < ((tot : Nat) : Int))) = false from decide_eq_false (by omega)] at h1
    show Code.wp _ _ _ _ _
    refine wp_seq ?_
    refine wp_cond_false (h1.2 241 _ rfl) ?_
    refine wp_exit ?_
    refine then_exit (then_exit ?_)
    refine hex a1 v W ?_ (sub_ok h1 sE) d1
    simpa using D0
  | succ rem ih =>
    intro i hi a0 v W l D0 hl h0 d0 hex
    rw [rounds_succ]
    refine wp_seq (wp_region ?_)
    refine oP 272 [] [0] [(0, .v v), (2, s2), (27, s27), (28, s28), (29, s29), (239, vi ↑tot), (240, vi ↑i), (241, vb (decide ((((i : Nat) : Int) : Int) < ((tot : Nat) : Int))))] h0 d0 (fun a1 h1 d1 => ?_)
    clear h0 d0
    rw [show (decide ((((i : Nat) : Int) : Int) < ((tot : Nat) : Int))) = true from decide_eq_true (by omega)] at h1
    show Code.wp _ _ _ _ _
    refine wp_seq ?_
    refine wp_cond_true (h1.2 241 _ rfl) ?_
    refine wp_skip ?_
    show Code.wp _ _ _ _ _
    refine wp_seq ?_
    refine wp_block ?_
    refine wp_region ?_
    refine oP 272 [1, 2, 3] [0] [(0, .v v), (2, s2), (27, s27), (28, s28), (29, s29), (239, vi ↑tot), (240, vi ↑i), (242, .v v)] h1 d1 (fun a2 h2 d2 => ?_)
    clear h1 d1
    refine push_ops (N := 272) (i := 1) (j := 2) (d1 := 243) (d2 := 244) (ts := 242) (x := 48) (rest := [3]) D0 (by omega) h2 rfl rfl rfl (by decide) rfl rfl rfl rfl rfl (by decide) rfl rfl rfl (fun v3 W3 a3 D3 h3 d3 => ?_)
    replace d3 := d3.trans d2
    clear h2 d2
    refine oP 272 [] [3] [(0, .v v3), (2, s2), (27, s27), (28, s28), (29, s29), (239, vi ↑tot), (240, vi ↑i)] h3 d3 (fun a4 h4 d4 => ?_)
    clear h3 d3
    show Code.wp _ _ _ _ _
    refine wp_region ?_
    refine oP 272 [1] [0] [(0, .v v3), (2, s2), (27, s27), (28, s28), (29, s29), (239, vi ↑tot), (240, vi ↑i), (245, vi (IntKind.i64.wrap (((i : Nat) : Int) + 1)))] h4 d4 (fun a5 h5 d5 => ?_)
    clear h4 d4
    rw [show (IntKind.i64.wrap (((i : Nat) : Int) + 1)) = ((i + 1 : Nat) : Int) from i_succ i (by omega)] at h5
    refine oP 272 [] [1] [(0, .v v3), (2, s2), (27, s27), (28, s28), (29, s29), (239, vi ↑tot), (240, vi ((i + 1 : Nat) : Int))] h5 d5 (fun a6 h6 d6 => ?_)
    clear h5 d5
    show Code.rounds _ _ _ _ _ _
    refine ih (i + 1) (by omega) a6 _ _ _ D3 (by simp; omega) (sub_ok h6 sE) d6 (fun a' v' W' hD hH hd => hex a' v' W' ?_ hH hd)
    have e : List.replicate (rem + 1) (48 : Int) = [48] ++ List.replicate rem 48 := rfl
    rw [e, ← List.append_assoc]
    exact hD
set_option maxHeartbeats 8000000 in
set_option maxRecDepth 100000 in
theorem ef83 {Q : Exit → Act → World → Prop} (g : Nat) (m : Nat → Value) (w0 : World) (tot : Nat) (ht : tot < 1000) : ∀ rem i, i + rem = tot → ∀ (a0 : Act) (v : Value) (W : World) (l : List Int), DS g m true w0 W v l → l.length + rem < 100000 → Has 272 (bn [g]) [(0, .v v), (260, vi ↑tot), (261, vi ↑i)] a0 → a0.defers = [] →
    (∀ (a' : Act) (v' : Value) (W' : World), DS g m true w0 W' v' (l ++ List.replicate rem 48) → Has 272 (bn [g]) [(0, .v v')] a' → a'.defers = [] → Q (.exit 12) a' W') → Code.rounds Tryd.prog efL83 Q (rem + 1) a0 W := by
  intro rem
  induction rem with
  | zero =>
    intro i hi a0 v W l D0 hl h0 d0 hex
    rw [rounds_succ]
    refine wp_seq (wp_region ?_)
    refine oP 272 [] [0] [(0, .v v), (260, vi ↑tot), (261, vi ↑i), (262, vb (decide ((((i : Nat) : Int) : Int) < ((tot : Nat) : Int))))] h0 d0 (fun a1 h1 d1 => ?_)
    clear h0 d0
    rw [show (decide ((((i : Nat) : Int) : Int) < ((tot : Nat) : Int))) = false from decide_eq_false (by omega)] at h1
    show Code.wp _ _ _ _ _
    refine wp_seq ?_
    refine wp_cond_false (h1.2 262 _ rfl) ?_
    refine wp_exit ?_
    refine then_exit (then_exit ?_)
    refine hex a1 v W ?_ (sub_ok h1 sE) d1
    simpa using D0
  | succ rem ih =>
    intro i hi a0 v W l D0 hl h0 d0 hex
    rw [rounds_succ]
    refine wp_seq (wp_region ?_)
    refine oP 272 [] [0] [(0, .v v), (260, vi ↑tot), (261, vi ↑i), (262, vb (decide ((((i : Nat) : Int) : Int) < ((tot : Nat) : Int))))] h0 d0 (fun a1 h1 d1 => ?_)
    clear h0 d0
    rw [show (decide ((((i : Nat) : Int) : Int) < ((tot : Nat) : Int))) = true from decide_eq_true (by omega)] at h1
    show Code.wp _ _ _ _ _
    refine wp_seq ?_
    refine wp_cond_true (h1.2 262 _ rfl) ?_
    refine wp_skip ?_
    show Code.wp _ _ _ _ _
    refine wp_seq ?_
    refine wp_block ?_
    refine wp_region ?_
    refine oP 272 [1, 2, 3] [0] [(0, .v v), (260, vi ↑tot), (261, vi ↑i), (263, .v v)] h1 d1 (fun a2 h2 d2 => ?_)
    clear h1 d1
    refine push_ops (N := 272) (i := 1) (j := 2) (d1 := 264) (d2 := 265) (ts := 263) (x := 48) (rest := [3]) D0 (by omega) h2 rfl rfl rfl (by decide) rfl rfl rfl rfl rfl (by decide) rfl rfl rfl (fun v3 W3 a3 D3 h3 d3 => ?_)
    replace d3 := d3.trans d2
    clear h2 d2
    refine oP 272 [] [3] [(0, .v v3), (260, vi ↑tot), (261, vi ↑i)] h3 d3 (fun a4 h4 d4 => ?_)
    clear h3 d3
    show Code.wp _ _ _ _ _
    refine wp_region ?_
    refine oP 272 [1] [0] [(0, .v v3), (260, vi ↑tot), (261, vi ↑i), (266, vi (IntKind.i64.wrap (((i : Nat) : Int) + 1)))] h4 d4 (fun a5 h5 d5 => ?_)
    clear h4 d4
    rw [show (IntKind.i64.wrap (((i : Nat) : Int) + 1)) = ((i + 1 : Nat) : Int) from i_succ i (by omega)] at h5
    refine oP 272 [] [1] [(0, .v v3), (260, vi ↑tot), (261, vi ((i + 1 : Nat) : Int))] h5 d5 (fun a6 h6 d6 => ?_)
    clear h5 d5
    show Code.rounds _ _ _ _ _ _
    refine ih (i + 1) (by omega) a6 _ _ _ D3 (by simp; omega) (sub_ok h6 sE) d6 (fun a' v' W' hD hH hd => hex a' v' W' ?_ hH hd)
    have e : List.replicate (rem + 1) (48 : Int) = [48] ++ List.replicate rem 48 := rfl
    rw [e, ← List.append_assoc]
    exact hD
set_option maxHeartbeats 8000000 in
set_option maxRecDepth 100000 in
theorem ef58 {Q : Exit → Act → World → Prop} (g : Nat) (m : Nat → Value) (w0 : World) (s2 s3 s4 s5 s23 : SV) (tot : Nat) (ht : tot < 1000) (c : Nat → Int) (n : Nat) (hn : n ≤ 32) (hc : ∀ i, i < n → m i = .int .u8 (c i)) (htn : tot ≤ n) : ∀ rem i, i + rem = tot → ∀ (a0 : Act) (v : Value) (W : World) (l : List Int), DS g m true w0 W v l → l.length + rem < 100000 → Has 272 (bn [g]) [(0, .v v), (2, s2), (3, s3), (4, s4), (5, s5), (23, s23), (189, .s 0 0 tot 32), (190, vi ↑tot), (191, vi ↑i)] a0 → a0.defers = [] →
    (∀ (a' : Act) (v' : Value) (W' : World), DS g m true w0 W' v' (l ++ (List.range rem).map (fun q => c (i + q))) → Has 272 (bn [g]) [(0, .v v'), (2, s2), (3, s3), (4, s4), (5, s5), (23, s23), (189, .s 0 0 tot 32)] a' → a'.defers = [] → Q (.exit 4) a' W') → Code.rounds Tryd.prog efL58 Q (rem + 1) a0 W := by
  intro rem
  induction rem with
  | zero =>
    intro i hi a0 v W l D0 hl h0 d0 hex
    rw [rounds_succ]
    refine wp_seq (wp_region ?_)
    refine oP 272 [] [0] [(0, .v v), (2, s2), (3, s3), (4, s4), (5, s5), (23, s23), (189, .s 0 0 tot 32), (190, vi ↑tot), (191, vi ↑i), (192, vb (decide ((((i : Nat) : Int) : Int) < ((tot : Nat) : Int))))] h0 d0 (fun a1 h1 d1 => ?_)
    clear h0 d0
    rw [show (decide ((((i : Nat) : Int) : Int) < ((tot : Nat) : Int))) = false from decide_eq_false (by omega)] at h1
    show Code.wp _ _ _ _ _
    refine wp_seq ?_
    refine wp_cond_false (h1.2 192 _ rfl) ?_
    refine wp_exit ?_
    refine then_exit (then_exit ?_)
    refine hex a1 v W ?_ (sub_ok h1 sE) d1
    simpa using D0
  | succ rem ih =>
    intro i hi a0 v W l D0 hl h0 d0 hex
    rw [rounds_succ]
    refine wp_seq (wp_region ?_)
    refine oP 272 [] [0] [(0, .v v), (2, s2), (3, s3), (4, s4), (5, s5), (23, s23), (189, .s 0 0 tot 32), (190, vi ↑tot), (191, vi ↑i), (192, vb (decide ((((i : Nat) : Int) : Int) < ((tot : Nat) : Int))))] h0 d0 (fun a1 h1 d1 => ?_)
    clear h0 d0
    rw [show (decide ((((i : Nat) : Int) : Int) < ((tot : Nat) : Int))) = true from decide_eq_true (by omega)] at h1
    show Code.wp _ _ _ _ _
    refine wp_seq ?_
    refine wp_cond_true (h1.2 192 _ rfl) ?_
    refine wp_skip ?_
    show Code.wp _ _ _ _ _
    refine wp_seq ?_
    refine wp_block ?_
    refine wp_seq (wp_region ?_)
    refine gW (s := .p 0 (i)) 272 [1, 2] h1 d1 rfl (want_ rfl) rfl (by decide) ((op_indexE (j := i) rfl (h1.2 189 _ rfl) (h1.2 191 _ rfl) Tryd.underlying51 Tryd.sizeOf5 (by omega)).trans (by rw [Nat.zero_add]; rfl)) (fun a2 h2 d2 => ?_)
    clear h1 d1
    refine gW (s := vo (c (i))) 272 [2] h2 d2 rfl (want_ rfl) rfl (by decide) (op_load rfl (h2.2 193 _ rfl) Tryd.isAgg5 (((D0.buf rfl).cell (i) (show i < 32 by omega)).trans (congrArg some (hc _ (by omega))))) (fun a3 h3 d3 => ?_)
    clear h2 d2
    refine oP 272 [] [2] [(0, .v v), (2, s2), (3, s3), (4, s4), (5, s5), (23, s23), (25, vo (c (i))), (189, .s 0 0 tot 32), (190, vi ↑tot), (191, vi ↑i)] h3 d3 (fun a4 h4 d4 => ?_)
    clear h3 d3
    show Code.wp _ _ _ _ _
    refine wp_region ?_
    refine oP 272 [2, 3, 4] [0, 1] [(0, .v v), (2, s2), (3, s3), (4, s4), (5, s5), (23, s23), (25, vo (c (i))), (189, .s 0 0 tot 32), (190, vi ↑tot), (191, vi ↑i), (195, .v v), (196, vo (c (i)))] h4 d4 (fun a5 h5 d5 => ?_)
    clear h4 d4
    refine push_ops (N := 272) (i := 2) (j := 3) (d1 := 197) (d2 := 198) (ts := 195) (x := (c (i))) (rest := [4]) D0 (by omega) h5 rfl rfl rfl (by decide) rfl (h5.2 196 _ rfl) rfl rfl rfl (by decide) rfl rfl rfl (fun v6 W6 a6 D6 h6 d6 => ?_)
    replace d6 := d6.trans d5
    clear h5 d5
    refine oP 272 [] [4] [(0, .v v6), (2, s2), (3, s3), (4, s4), (5, s5), (23, s23), (189, .s 0 0 tot 32), (190, vi ↑tot), (191, vi ↑i)] h6 d6 (fun a7 h7 d7 => ?_)
    clear h6 d6
    show Code.wp _ _ _ _ _
    refine wp_region ?_
    refine oP 272 [1] [0] [(0, .v v6), (2, s2), (3, s3), (4, s4), (5, s5), (23, s23), (189, .s 0 0 tot 32), (190, vi ↑tot), (191, vi ↑i), (199, vi (IntKind.i64.wrap (((i : Nat) : Int) + 1)))] h7 d7 (fun a8 h8 d8 => ?_)
    clear h7 d7
    rw [show (IntKind.i64.wrap (((i : Nat) : Int) + 1)) = ((i + 1 : Nat) : Int) from i_succ i (by omega)] at h8
    refine oP 272 [] [1] [(0, .v v6), (2, s2), (3, s3), (4, s4), (5, s5), (23, s23), (189, .s 0 0 tot 32), (190, vi ↑tot), (191, vi ((i + 1 : Nat) : Int))] h8 d8 (fun a9 h9 d9 => ?_)
    clear h8 d8
    show Code.rounds _ _ _ _ _ _
    refine ih (i + 1) (by omega) a9 _ _ _ D6 (by simp; omega) (sub_ok h9 sE) d9 (fun a' v' W' hD hH hd => hex a' v' W' ?_ hH hd)
    have e : (List.range (rem + 1)).map (fun q => c (i + q)) = [(c (i))] ++ (List.range rem).map (fun q => c ((i + 1) + q)) := by
      rw [List.range_succ_eq_map, List.map_cons, List.map_map]
      exact List.cons_eq_cons.mpr ⟨congrArg c (by omega), List.map_congr_left fun q _ => congrArg c (by simp only [Function.comp, Nat.succ_eq_add_one]; omega)⟩
    rw [e, ← List.append_assoc]
    exact hD
set_option maxHeartbeats 8000000 in
set_option maxRecDepth 100000 in
theorem ef78 {Q : Exit → Act → World → Prop} (g : Nat) (m : Nat → Value) (w0 : World) (s29 : SV) (tot : Nat) (ht : tot < 1000) (c : Nat → Int) (n : Nat) (hn : n ≤ 32) (hc : ∀ i, i < n → m i = .int .u8 (c i)) (off : Nat) (hoff : off + tot ≤ n) : ∀ rem i, i + rem = tot → ∀ (a0 : Act) (v : Value) (W : World) (l : List Int), DS g m true w0 W v l → l.length + rem < 100000 → Has 272 (bn [g]) [(0, .v v), (2, .s 0 0 32 32), (27, vi ↑off), (29, s29), (246, vi ↑tot), (247, vi ↑i)] a0 → a0.defers = [] →
    (∀ (a' : Act) (v' : Value) (W' : World), DS g m true w0 W' v' (l ++ (List.range rem).map (fun q => c (off + i + q))) → Has 272 (bn [g]) [(0, .v v'), (2, .s 0 0 32 32), (27, vi ↑off), (29, s29)] a' → a'.defers = [] → Q (.exit 10) a' W') → Code.rounds Tryd.prog efL78 Q (rem + 1) a0 W := by
  intro rem
  induction rem with
  | zero =>
    intro i hi a0 v W l D0 hl h0 d0 hex
    rw [rounds_succ]
    refine wp_seq (wp_region ?_)
    refine oP 272 [] [0] [(0, .v v), (2, .s 0 0 32 32), (27, vi ↑off), (29, s29), (246, vi ↑tot), (247, vi ↑i), (248, vb (decide ((((i : Nat) : Int) : Int) < ((tot : Nat) : Int))))] h0 d0 (fun a1 h1 d1 => ?_)
    clear h0 d0
    rw [show (decide ((((i : Nat) : Int) : Int) < ((tot : Nat) : Int))) = false from decide_eq_false (by omega)] at h1
    show Code.wp _ _ _ _ _
    refine wp_seq ?_
    refine wp_cond_false (h1.2 248 _ rfl) ?_
    refine wp_exit ?_
    refine then_exit (then_exit ?_)
    refine hex a1 v W ?_ (sub_ok h1 sE) d1
    simpa using D0
  | succ rem ih =>
    intro i hi a0 v W l D0 hl h0 d0 hex
    rw [rounds_succ]
    refine wp_seq (wp_region ?_)
    refine oP 272 [] [0] [(0, .v v), (2, .s 0 0 32 32), (27, vi ↑off), (29, s29), (246, vi ↑tot), (247, vi ↑i), (248, vb (decide ((((i : Nat) : Int) : Int) < ((tot : Nat) : Int))))] h0 d0 (fun a1 h1 d1 => ?_)
    clear h0 d0
    rw [show (decide ((((i : Nat) : Int) : Int) < ((tot : Nat) : Int))) = true from decide_eq_true (by omega)] at h1
    show Code.wp _ _ _ _ _
    refine wp_seq ?_
    refine wp_cond_true (h1.2 248 _ rfl) ?_
    refine wp_skip ?_
    show Code.wp _ _ _ _ _
    refine wp_seq ?_
    refine wp_block ?_
    refine wp_seq (wp_region ?_)
    refine oP 272 [] [0, 1] [(0, .v v), (2, .s 0 0 32 32), (27, vi ↑off), (29, s29), (30, vi ↑i), (246, vi ↑tot), (247, vi ↑i)] h1 d1 (fun a2 h2 d2 => ?_)
    clear h1 d1
    show Code.wp _ _ _ _ _
    refine wp_region ?_
    refine oP 272 [4, 5, 6, 7, 8, 9] [0, 1, 2, 3] [(0, .v v), (2, .s 0 0 32 32), (27, vi ↑off), (29, s29), (30, vi ↑i), (246, vi ↑tot), (247, vi ↑i), (250, .v v), (251, .s 0 0 32 32), (252, vi ↑off), (253, vi ↑i)] h2 d2 (fun a3 h3 d3 => ?_)
    clear h2 d2
    refine oP 272 [5, 6, 7, 8, 9] [4] [(0, .v v), (2, .s 0 0 32 32), (27, vi ↑off), (29, s29), (30, vi ↑i), (246, vi ↑tot), (247, vi ↑i), (250, .v v), (251, .s 0 0 32 32), (252, vi ↑off), (253, vi ↑i), (254, vi (IntKind.i64.wrap (((off : Nat) : Int) + ((i : Nat) : Int))))] h3 d3 (fun a4 h4 d4 => ?_)
    clear h3 d3
    rw [show (IntKind.i64.wrap (((off : Nat) : Int) + ((i : Nat) : Int))) = ((off + i : Nat) : Int) from i_add off i (by omega)] at h4
    refine gW (s := .p 0 (off + i)) 272 [6, 7, 8, 9] h4 d4 rfl (want_ rfl) rfl (by decide) ((op_indexE (j := off + i) rfl (h4.2 251 _ rfl) (h4.2 254 _ rfl) Tryd.underlying51 Tryd.sizeOf5 (by omega)).trans (by rw [Nat.zero_add]; rfl)) (fun a5 h5 d5 => ?_)
    clear h4 d4
    refine gW (s := vo (c (off + i))) 272 [7, 8, 9] h5 d5 rfl (want_ rfl) rfl (by decide) (op_load rfl (h5.2 255 _ rfl) Tryd.isAgg5 (((D0.buf rfl).cell (off + i) (show off + i < 32 by omega)).trans (congrArg some (hc _ (by omega))))) (fun a6 h6 d6 => ?_)
    clear h5 d5
    refine push_ops (N := 272) (i := 7) (j := 8) (d1 := 257) (d2 := 258) (ts := 250) (x := (c (off + i))) (rest := [9]) D0 (by omega) h6 rfl rfl rfl (by decide) rfl (h6.2 256 _ rfl) rfl rfl rfl (by decide) rfl rfl rfl (fun v7 W7 a7 D7 h7 d7 => ?_)
    replace d7 := d7.trans d6
    clear h6 d6
    refine oP 272 [] [9] [(0, .v v7), (2, .s 0 0 32 32), (27, vi ↑off), (29, s29), (246, vi ↑tot), (247, vi ↑i)] h7 d7 (fun a8 h8 d8 => ?_)
    clear h7 d7
    show Code.wp _ _ _ _ _
    refine wp_region ?_
    refine oP 272 [1] [0] [(0, .v v7), (2, .s 0 0 32 32), (27, vi ↑off), (29, s29), (246, vi ↑tot), (247, vi ↑i), (259, vi (IntKind.i64.wrap (((i : Nat) : Int) + 1)))] h8 d8 (fun a9 h9 d9 => ?_)
    clear h8 d8
    rw [show (IntKind.i64.wrap (((i : Nat) : Int) + 1)) = ((i + 1 : Nat) : Int) from i_succ i (by omega)] at h9
    refine oP 272 [] [1] [(0, .v v7), (2, .s 0 0 32 32), (27, vi ↑off), (29, s29), (246, vi ↑tot), (247, vi ((i + 1 : Nat) : Int))] h9 d9 (fun a10 h10 d10 => ?_)
    clear h9 d9
    show Code.rounds _ _ _ _ _ _
    refine ih (i + 1) (by omega) a10 _ _ _ D7 (by simp; omega) (sub_ok h10 sE) d10 (fun a' v' W' hD hH hd => hex a' v' W' ?_ hH hd)
    have e : (List.range (rem + 1)).map (fun q => c (off + i + q)) = [(c (off + i))] ++ (List.range rem).map (fun q => c (off + (i + 1) + q)) := by
      rw [List.range_succ_eq_map, List.map_cons, List.map_map]
      exact List.cons_eq_cons.mpr ⟨congrArg c (by omega), List.map_congr_left fun q _ => congrArg c (by simp only [Function.comp, Nat.succ_eq_add_one]; omega)⟩
    rw [e, ← List.append_assoc]
    exact hD
end Go.Proofs.YtmgnffklmdhooaaDoor.PAll
namespace Go.Proofs.YtmgnffklmdhooaaDoor.PAll
open Go.RowKit Go.Proofs.YtmgnffklmdhooaaDoorW.PrintWords Go.Proofs.YtmgnffklmdhooaaDoorW.PrintLast Go.Proofs.YtmgnffklmdhooaaDoorW.PrintMore
set_option linter.unusedVariables false
set_option linter.unusedSimpArgs false
noncomputable def efT : Code := match efZ with
  | .seq _ t => t
  | _ => .skip
set_option maxHeartbeats 8000000 in
set_option maxRecDepth 100000 in
theorem efT0 {Q : Exit → Act → World → Prop} (g : Nat) (m : Nat → Value) (hb : Bool) (w0 W : World) (v : Value) (l : List Int) (D0 : DS g m hb w0 W v l) (hl : l.length < 2000) (a0 : Act) (h0 : Has 272 (bn [g]) [(0, .v v), (2, .v (.slice none 0 0)), (3, vi 0), (4, vi 0), (5, vi (-1))] a0) (d0 : a0.defers = [])
    (hret : ∀ (a : Act) (v' : Value) (W' : World), DS g m hb w0 W' v' (l ++ [48]) → Has 272 (bn [g]) [(16, .v v')] a → a.defers = [] → Code.wp Tryd.prog .ret Q a W') : Code.wp Tryd.prog efT Q a0 W := by
  refine wp_seq ?_
  refine wp_seq (wp_region ?_)
  refine oP 272 [] [0, 1] [(0, .v v), (2, .v (.slice none 0 0)), (3, vi 0), (4, vi 0), (5, vi (-1)), (183, vb false)] h0 d0 (fun a1 h1 d1 => ?_)
  clear h0 d0
  show Code.wp _ _ _ _ _
  refine wp_cond_false (h1.2 183 _ rfl) ?_
  refine wp_region ?_
  refine oP 272 [1, 2, 3] [0] [(0, .v v), (2, .v (.slice none 0 0)), (3, vi 0), (4, vi 0), (5, vi (-1)), (183, vb false), (209, .v v)] h1 d1 (fun a2 h2 d2 => ?_)
  clear h1 d1
  refine push_ops (N := 272) (i := 1) (j := 2) (d1 := 210) (d2 := 211) (ts := 209) (x := 48) (rest := [3]) D0 (by (try simp); omega) h2 rfl rfl rfl (by decide) rfl rfl rfl rfl rfl (by decide) rfl rfl rfl (fun v3 W3 a3 D3 h3 d3 => ?_)
  replace d3 := d3.trans d2
  clear h2 d2
  refine oP 272 [] [3] [(0, .v v3), (2, .v (.slice none 0 0)), (3, vi 0), (4, vi 0), (5, vi (-1)), (183, vb false)] h3 d3 (fun a4 h4 d4 => ?_)
  clear h3 d3
  show Code.wp _ _ _ _ _
  refine wp_seq ?_
  refine wp_seq (wp_region ?_)
  refine oP 272 [] [0, 1] [(0, .v v3), (2, .v (.slice none 0 0)), (3, vi 0), (4, vi 0), (5, vi (-1)), (183, vb false), (213, vb false)] h4 d4 (fun a5 h5 d5 => ?_)
  clear h4 d4
  show Code.wp _ _ _ _ _
  refine wp_cond_false (h5.2 213 _ rfl) ?_
  refine wp_skip ?_
  show Code.wp _ _ _ _ _
  refine wp_seq (wp_region ?_)
  refine oP 272 [] [0, 1] [(0, .v v3), (2, .v (.slice none 0 0)), (3, vi 0), (4, vi 0), (5, vi (-1)), (16, .v v3), (183, vb false), (213, vb false)] h5 d5 (fun a6 h6 d6 => ?_)
  clear h5 d5
  show Code.wp _ _ _ _ _
  exact hret a6 v3 W3 D3 (sub_ok (E := [(16, .v v3)]) h6 sE) d6
set_option maxHeartbeats 8000000 in
set_option maxRecDepth 100000 in
theorem efg0false_walk (g : Nat) (m : Nat → Value) (hb : Bool) (w0 W : World) (v : Value) (l : List Int) (D0 : DS g m hb w0 W v l) (hl : l.length < 1000) :
    Calls Tryd.prog 33 #[v, .bool false, (.slice none 0 0), .int .i64 0, .int .i64 0, .int .i64 (-1), .int .u8 102, .bool true] W fun e w' => ∃ v', e = .returned v' ∧ DS g m hb w0 w' v' (l ++ [48]) := by
  refine calls_of_wp Tryd.func33 rfl ?_
  have h0 := has_eight (β := bn [g]) (.v v) (vb false) (.v (.slice none 0 0)) (vi 0) (vi 0) (vi (-1)) (vo 102) (vb true) 264
  have d0 : (⟨#[v, .bool false, (.slice none 0 0), .int .i64 0, .int .i64 0, .int .i64 (-1), .int .u8 102, .bool true] ++ Array.replicate 264 undef, []⟩ : Act).defers = [] := rfl
  refine wp_seq (wp_region ?_)
  refine oP 272 [] [0] [(0, .v v), (1, vb false), (2, .v (.slice none 0 0)), (3, vi 0), (4, vi 0), (5, vi (-1)), (6, vo 102), (7, vb true), (16, .v (Value.slice none 0 0))] h0 d0 (fun a1 h1 d1 => ?_)
  clear h0 d0
  show Code.wp _ _ _ _ _
  refine wp_seq ?_
  refine wp_seq (wp_region ?_)
  refine oP 272 [3, 4, 5] [0, 1, 2] [(0, .v v), (1, vb false), (2, .v (.slice none 0 0)), (3, vi 0), (4, vi 0), (5, vi (-1)), (6, vo 102), (7, vb true), (16, .v (Value.slice none 0 0)), (31, vo 102), (32, vb false), (33, vb false)] h1 d1 (fun a2 h2 d2 => ?_)
  clear h1 d1
  refine guard_ops (N := 272) (T := TT) (M := (fun _ _ => none)) tabOk (i := 3) (d := 34) (j := 2) (dj := 33) (b := false) (s := vo 102) (l := [4, 5]) (fun _ _ _ h => by cases h) rfl rfl rfl rfl rfl (by decide) h2 (by kernel_rfl) (fun a3 h3 d3 => ?_)
  replace d3 := d3.trans d2
  clear h2 d2
  refine guard_ops (N := 272) (T := TT) (M := (fun _ _ => none)) tabOk (i := 4) (d := 35) (j := 2) (dj := 33) (b := false) (s := vb false) (l := [5]) (fun _ _ _ h => by cases h) rfl rfl rfl rfl rfl (by decide) h3 (by kernel_rfl) (fun a4 h4 d4 => ?_)
  replace d4 := d4.trans d3
  clear h3 d3
  refine gW (s := vb false) 272 [] h4 d4 rfl (want_ rfl) rfl (by decide) (op_pickF rfl (h4.2 33 _ rfl) (h4.2 35 _ rfl)) (fun a5 h5 d5 => ?_)
  clear h4 d4
  show Code.wp _ _ _ _ _
  refine wp_cond_false (h5.2 36 _ rfl) ?_
  refine wp_skip ?_
  show Code.wp _ _ _ _ _
  refine wp_seq ?_
  refine wp_seq (wp_region ?_)
  refine oP 272 [] [0] [(0, .v v), (1, vb false), (2, .v (.slice none 0 0)), (3, vi 0), (4, vi 0), (5, vi (-1)), (6, vo 102), (7, vb true), (16, .v (Value.slice none 0 0)), (31, vo 102), (32, vb false), (33, vb false), (34, vo 102), (35, vb false), (36, vb false), (74, vo 102)] h5 d5 (fun a6 h6 d6 => ?_)
  clear h5 d5
  show Code.wp _ _ _ _ _
  refine wp_block ?_
  refine wp_seq ?_
  refine wp_seq (wp_region ?_)
  refine oP 272 [] [0, 1] [(0, .v v), (1, vb false), (2, .v (.slice none 0 0)), (3, vi 0), (4, vi 0), (5, vi (-1)), (6, vo 102), (7, vb true), (16, .v (Value.slice none 0 0)), (31, vo 102), (32, vb false), (33, vb false), (34, vo 102), (35, vb false), (36, vb false), (74, vo 102), (75, vb false)] h6 d6 (fun a7 h7 d7 => ?_)
  clear h6 d6
  show Code.wp _ _ _ _ _
  refine wp_cond_false (h7.2 75 _ rfl) ?_
  refine wp_region ?_
  refine oP 272 [] [0, 1] [(0, .v v), (1, vb false), (2, .v (.slice none 0 0)), (3, vi 0), (4, vi 0), (5, vi (-1)), (6, vo 102), (7, vb true), (16, .v (Value.slice none 0 0)), (31, vo 102), (32, vb false), (33, vb false), (34, vo 102), (35, vb false), (36, vb false), (74, vo 102), (75, vb false)] h7 d7 (fun a8 h8 d8 => ?_)
  clear h7 d7
  show Code.wp _ _ _ _ _
  refine wp_cond_false (h8.2 75 _ rfl) ?_
  refine wp_seq (wp_region ?_)
  refine oP 272 [] [0, 1] [(0, .v v), (1, vb false), (2, .v (.slice none 0 0)), (3, vi 0), (4, vi 0), (5, vi (-1)), (6, vo 102), (7, vb true), (16, .v (Value.slice none 0 0)), (31, vo 102), (32, vb false), (33, vb false), (34, vo 102), (35, vb false), (36, vb false), (74, vo 102), (75, vb false), (176, vb true)] h8 d8 (fun a9 h9 d9 => ?_)
  clear h8 d8
  show Code.wp _ _ _ _ _
  refine wp_cond_true (h9.2 176 _ rfl) ?_
  refine wp_seq ?_
  refine wp_seq (wp_region ?_)
  refine oP 272 [] [0] [(0, .v v), (1, vb false), (2, .v (.slice none 0 0)), (3, vi 0), (4, vi 0), (5, vi (-1)), (6, vo 102), (7, vb true), (16, .v (Value.slice none 0 0)), (31, vo 102), (32, vb false), (33, vb false), (34, vo 102), (35, vb false), (36, vb false), (74, vo 102), (75, vb false), (176, vb true), (178, vb false)] h9 d9 (fun a10 h10 d10 => ?_)
  clear h9 d9
  show Code.wp _ _ _ _ _
  refine wp_cond_false (h10.2 178 _ rfl) ?_
  refine wp_skip ?_
  show Code.wp _ _ _ _ _
  show Code.wp Tryd.prog efT _ _ _
  refine efT0 g m hb w0 _ _ l D0 (by (try simp); omega) a10 (sub_ok (E := [(0, .v v), (2, .v (.slice none 0 0)), (3, vi 0), (4, vi 0), (5, vi (-1))]) h10 sE) d10 (fun a v' W' D h d => ?_)
  refine wp_ret ?_
  exact ⟨d, _, results_tmp rfl _ _ _, v', congrArg Ending.returned (h.2 16 _ rfl), D⟩
set_option maxHeartbeats 8000000 in
set_option maxRecDepth 100000 in
theorem efg0true_walk (g : Nat) (m : Nat → Value) (hb : Bool) (w0 W : World) (v : Value) (l : List Int) (D0 : DS g m hb w0 W v l) (hl : l.length < 1000) :
    Calls Tryd.prog 33 #[v, .bool true, (.slice none 0 0), .int .i64 0, .int .i64 0, .int .i64 (-1), .int .u8 102, .bool true] W fun e w' => ∃ v', e = .returned v' ∧ DS g m hb w0 w' v' ((l ++ [45]) ++ [48]) := by
  refine calls_of_wp Tryd.func33 rfl ?_
  have h0 := has_eight (β := bn [g]) (.v v) (vb true) (.v (.slice none 0 0)) (vi 0) (vi 0) (vi (-1)) (vo 102) (vb true) 264
  have d0 : (⟨#[v, .bool true, (.slice none 0 0), .int .i64 0, .int .i64 0, .int .i64 (-1), .int .u8 102, .bool true] ++ Array.replicate 264 undef, []⟩ : Act).defers = [] := rfl
  refine wp_seq (wp_region ?_)
  refine oP 272 [] [0] [(0, .v v), (1, vb true), (2, .v (.slice none 0 0)), (3, vi 0), (4, vi 0), (5, vi (-1)), (6, vo 102), (7, vb true), (16, .v (Value.slice none 0 0))] h0 d0 (fun a1 h1 d1 => ?_)
  clear h0 d0
  show Code.wp _ _ _ _ _
  refine wp_seq ?_
  refine wp_seq (wp_region ?_)
  refine oP 272 [3, 4, 5] [0, 1, 2] [(0, .v v), (1, vb true), (2, .v (.slice none 0 0)), (3, vi 0), (4, vi 0), (5, vi (-1)), (6, vo 102), (7, vb true), (16, .v (Value.slice none 0 0)), (31, vo 102), (32, vb false), (33, vb false)] h1 d1 (fun a2 h2 d2 => ?_)
  clear h1 d1
  refine guard_ops (N := 272) (T := TT) (M := (fun _ _ => none)) tabOk (i := 3) (d := 34) (j := 2) (dj := 33) (b := false) (s := vo 102) (l := [4, 5]) (fun _ _ _ h => by cases h) rfl rfl rfl rfl rfl (by decide) h2 (by kernel_rfl) (fun a3 h3 d3 => ?_)
  replace d3 := d3.trans d2
  clear h2 d2
  refine guard_ops (N := 272) (T := TT) (M := (fun _ _ => none)) tabOk (i := 4) (d := 35) (j := 2) (dj := 33) (b := false) (s := vb false) (l := [5]) (fun _ _ _ h => by cases h) rfl rfl rfl rfl rfl (by decide) h3 (by kernel_rfl) (fun a4 h4 d4 => ?_)
  replace d4 := d4.trans d3
  clear h3 d3
  refine gW (s := vb false) 272 [] h4 d4 rfl (want_ rfl) rfl (by decide) (op_pickF rfl (h4.2 33 _ rfl) (h4.2 35 _ rfl)) (fun a5 h5 d5 => ?_)
  clear h4 d4
  show Code.wp _ _ _ _ _
  refine wp_cond_false (h5.2 36 _ rfl) ?_
  refine wp_skip ?_
  show Code.wp _ _ _ _ _
  refine wp_seq ?_
  refine wp_seq (wp_region ?_)
  refine oP 272 [] [0] [(0, .v v), (1, vb true), (2, .v (.slice none 0 0)), (3, vi 0), (4, vi 0), (5, vi (-1)), (6, vo 102), (7, vb true), (16, .v (Value.slice none 0 0)), (31, vo 102), (32, vb false), (33, vb false), (34, vo 102), (35, vb false), (36, vb false), (74, vo 102)] h5 d5 (fun a6 h6 d6 => ?_)
  clear h5 d5
  show Code.wp _ _ _ _ _
  refine wp_block ?_
  refine wp_seq ?_
  refine wp_seq (wp_region ?_)
  refine oP 272 [] [0, 1] [(0, .v v), (1, vb true), (2, .v (.slice none 0 0)), (3, vi 0), (4, vi 0), (5, vi (-1)), (6, vo 102), (7, vb true), (16, .v (Value.slice none 0 0)), (31, vo 102), (32, vb false), (33, vb false), (34, vo 102), (35, vb false), (36, vb false), (74, vo 102), (75, vb false)] h6 d6 (fun a7 h7 d7 => ?_)
  clear h6 d6
  show Code.wp _ _ _ _ _
  refine wp_cond_false (h7.2 75 _ rfl) ?_
  refine wp_region ?_
  refine oP 272 [] [0, 1] [(0, .v v), (1, vb true), (2, .v (.slice none 0 0)), (3, vi 0), (4, vi 0), (5, vi (-1)), (6, vo 102), (7, vb true), (16, .v (Value.slice none 0 0)), (31, vo 102), (32, vb false), (33, vb false), (34, vo 102), (35, vb false), (36, vb false), (74, vo 102), (75, vb false)] h7 d7 (fun a8 h8 d8 => ?_)
  clear h7 d7
  show Code.wp _ _ _ _ _
  refine wp_cond_false (h8.2 75 _ rfl) ?_
  refine wp_seq (wp_region ?_)
  refine oP 272 [] [0, 1] [(0, .v v), (1, vb true), (2, .v (.slice none 0 0)), (3, vi 0), (4, vi 0), (5, vi (-1)), (6, vo 102), (7, vb true), (16, .v (Value.slice none 0 0)), (31, vo 102), (32, vb false), (33, vb false), (34, vo 102), (35, vb false), (36, vb false), (74, vo 102), (75, vb false), (176, vb true)] h8 d8 (fun a9 h9 d9 => ?_)
  clear h8 d8
  show Code.wp _ _ _ _ _
  refine wp_cond_true (h9.2 176 _ rfl) ?_
  refine wp_seq ?_
  refine wp_seq (wp_region ?_)
  refine oP 272 [] [0] [(0, .v v), (1, vb true), (2, .v (.slice none 0 0)), (3, vi 0), (4, vi 0), (5, vi (-1)), (6, vo 102), (7, vb true), (16, .v (Value.slice none 0 0)), (31, vo 102), (32, vb false), (33, vb false), (34, vo 102), (35, vb false), (36, vb false), (74, vo 102), (75, vb false), (176, vb true), (178, vb true)] h9 d9 (fun a10 h10 d10 => ?_)
  clear h9 d9
  show Code.wp _ _ _ _ _
  refine wp_cond_true (h10.2 178 _ rfl) ?_
  refine wp_region ?_
  refine oP 272 [1, 2, 3] [0] [(0, .v v), (1, vb true), (2, .v (.slice none 0 0)), (3, vi 0), (4, vi 0), (5, vi (-1)), (6, vo 102), (7, vb true), (16, .v (Value.slice none 0 0)), (31, vo 102), (32, vb false), (33, vb false), (34, vo 102), (35, vb false), (36, vb false), (74, vo 102), (75, vb false), (176, vb true), (178, vb true), (179, .v v)] h10 d10 (fun a11 h11 d11 => ?_)
  clear h10 d10
  refine push_ops (N := 272) (i := 1) (j := 2) (d1 := 180) (d2 := 181) (ts := 179) (x := 45) (rest := [3]) D0 (by (try simp); omega) h11 rfl rfl rfl (by decide) rfl rfl rfl rfl rfl (by decide) rfl rfl rfl (fun v12 W12 a12 D12 h12 d12 => ?_)
  replace d12 := d12.trans d11
  clear h11 d11
  refine oP 272 [] [3] [(0, .v v12), (1, vb true), (2, .v (.slice none 0 0)), (3, vi 0), (4, vi 0), (5, vi (-1)), (6, vo 102), (7, vb true), (16, .v (Value.slice none 0 0)), (31, vo 102), (32, vb false), (33, vb false), (34, vo 102), (35, vb false), (36, vb false), (74, vo 102), (75, vb false), (176, vb true), (178, vb true)] h12 d12 (fun a13 h13 d13 => ?_)
  clear h12 d12
  show Code.wp _ _ _ _ _
  show Code.wp Tryd.prog efT _ _ _
  refine efT0 g m hb w0 _ _ (l ++ [45]) D12 (by (try simp); omega) a13 (sub_ok (E := [(0, .v v12), (2, .v (.slice none 0 0)), (3, vi 0), (4, vi 0), (5, vi (-1))]) h13 sE) d13 (fun a v' W' D h d => ?_)
  refine wp_ret ?_
  exact ⟨d, _, results_tmp rfl _ _ _, v', congrArg Ending.returned (h.2 16 _ rfl), by simpa using D⟩
set_option maxHeartbeats 8000000 in
set_option maxRecDepth 100000 in
theorem efT1 {Q : Exit → Act → World → Prop} (g : Nat) (m : Nat → Value) (c : Nat → Int) (n : Nat) (hn : n ≤ 32) (hc : ∀ i, i < n → m i = .int .u8 (c i)) (D nd : Nat) (h1 : 0 < D) (h2 : nd ≤ D) (hnd : nd ≤ n) (hD : D < 100) (w0 W : World) (v : Value) (l : List Int) (D0 : DS g m true w0 W v l) (hl : l.length < 2000) (a0 : Act) (h0 : Has 272 (bn [g]) [(0, .v v), (2, .s 0 0 32 32), (3, vi ↑D), (4, vi ↑nd), (5, vi 0)] a0) (d0 : a0.defers = [])
    (hret : ∀ (a : Act) (v' : Value) (W' : World), DS g m true w0 W' v' ((l ++ (List.range nd).map (fun q => c (0 + q))) ++ List.replicate (D - nd) 48) → Has 272 (bn [g]) [(16, .v v')] a → a.defers = [] → Code.wp Tryd.prog .ret Q a W') : Code.wp Tryd.prog efT Q a0 W := by
  refine wp_seq ?_
  refine wp_seq (wp_region ?_)
  refine oP 272 [] [0, 1] [(0, .v v), (2, .s 0 0 32 32), (3, vi ↑D), (4, vi ↑nd), (5, vi 0), (183, vb (decide ((((D : Nat) : Int) : Int) > 0)))] h0 d0 (fun a1 h1 d1 => ?_)
  clear h0 d0
  rw [show (decide ((((D : Nat) : Int) : Int) > 0)) = true from decide_eq_true (by omega)] at h1
  show Code.wp _ _ _ _ _
  refine wp_cond_true (h1.2 183 _ rfl) ?_
  refine wp_seq (wp_region ?_)
  refine oP 272 [2, 3] [0, 1] [(0, .v v), (2, .s 0 0 32 32), (3, vi ↑D), (4, vi ↑nd), (5, vi 0), (183, vb true), (184, vi ↑nd), (185, vi ↑D)] h1 d1 (fun a2 h2 d2 => ?_)
  clear h1 d1
  refine gW (s := vi ↑nd) 272 [3] h2 d2 rfl (want_ rfl) rfl (by decide) ((op_min rfl (h2.2 184 _ rfl) (h2.2 185 _ rfl)).trans (by rw [show (if ((D : Nat) : Int) < ((nd : Nat) : Int) then ((D : Nat) : Int) else ((nd : Nat) : Int)) = ((nd : Nat) : Int) from by split <;> omega]; rfl)) (fun a3 h3 d3 => ?_)
  clear h2 d2
  refine oP 272 [] [3] [(0, .v v), (2, .s 0 0 32 32), (3, vi ↑D), (4, vi ↑nd), (5, vi 0), (23, vi ↑nd), (183, vb true)] h3 d3 (fun a4 h4 d4 => ?_)
  clear h3 d3
  show Code.wp _ _ _ _ _
  refine wp_seq ?_
  refine wp_seq (wp_region ?_)
  refine oP 272 [2, 3, 4] [0, 1] [(0, .v v), (2, .s 0 0 32 32), (3, vi ↑D), (4, vi ↑nd), (5, vi 0), (23, vi ↑nd), (183, vb true), (187, .s 0 0 32 32), (188, vi ↑nd)] h4 d4 (fun a5 h5 d5 => ?_)
  clear h4 d4
  refine gW (s := .s 0 0 nd 32) 272 [3, 4] h5 d5 rfl (want_ rfl) rfl (by decide) ((op_slice rfl (by rw [show (Option.map a5.eval (some (Operand.tmp 188))) = some (.int .i64 ↑nd) from congrArg some (h5.2 188 _ rfl), show a5.eval (Operand.tmp 187) = _ from h5.2 187 _ rfl]; exact sl_to _ g 0 32 32 nd (by omega) (by decide)))) (fun a6 h6 d6 => ?_)
  clear h5 d5
  refine oP 272 [] [3, 4] [(0, .v v), (2, .s 0 0 32 32), (3, vi ↑D), (4, vi ↑nd), (5, vi 0), (23, vi ↑nd), (183, vb true), (189, .s 0 0 nd 32), (190, vi ↑nd), (191, vi 0)] h6 d6 (fun a7 h7 d7 => ?_)
  clear h6 d6
  show Code.wp _ _ _ _ _
  refine wp_block ?_
  refine wp_loop_rounds (nd + 1) ?_
  refine ef58 g m w0 (.s 0 0 32 32) (vi ↑D) (vi ↑nd) (vi 0) (vi ↑nd) (nd) (by omega) c n hn hc (by omega) (nd) 0 (by omega) a7 _ _ _ D0 (by (try simp); omega) (sub_ok (E := [(0, .v v), (2, .s 0 0 32 32), (3, vi ↑D), (4, vi ↑nd), (5, vi 0), (23, vi ↑nd), (189, .s 0 0 nd 32), (190, vi ↑nd), (191, vi ((0 : Nat) : Int))]) h7 sE) d7 (fun a8 v8 W8 D8 h8 d8 => ?_)
  refine exit_in ?_
  show Code.wp _ _ _ _ _
  refine wp_seq (wp_region ?_)
  refine oP 272 [2, 3] [0, 1] [(0, .v v8), (2, .s 0 0 32 32), (3, vi ↑D), (4, vi ↑nd), (5, vi 0), (23, vi ↑nd), (200, vi ↑D), (201, vi ↑nd)] h8 d8 (fun a9 h9 d9 => ?_)
  clear h8 d8
  refine oP 272 [3] [2] [(0, .v v8), (2, .s 0 0 32 32), (3, vi ↑D), (4, vi ↑nd), (5, vi 0), (23, vi ↑nd), (200, vi ↑D), (201, vi ↑nd), (202, vi (IntKind.i64.wrap (((D : Nat) : Int) - ((nd : Nat) : Int))))] h9 d9 (fun a10 h10 d10 => ?_)
  clear h9 d9
  rw [show (IntKind.i64.wrap (((D : Nat) : Int) - ((nd : Nat) : Int))) = ((D - nd : Nat) : Int) from by rw [IntKind.wrap_i64]; omega] at h10
  refine oP 272 [] [3] [(0, .v v8), (2, .s 0 0 32 32), (3, vi ↑D), (4, vi ↑nd), (5, vi 0), (23, vi ↑nd), (202, vi ((D - nd : Nat) : Int)), (203, vi 0)] h10 d10 (fun a11 h11 d11 => ?_)
  clear h10 d10
  show Code.wp _ _ _ _ _
  refine wp_block ?_
  refine wp_loop_rounds (D - nd + 1) ?_
  refine ef63 g m w0 (.s 0 0 32 32) (vi ↑D) (vi ↑nd) (vi 0) (D - nd) (by omega) (D - nd) 0 (by omega) a11 _ _ _ D8 (by (try simp); omega) (sub_ok (E := [(0, .v v8), (2, .s 0 0 32 32), (3, vi ↑D), (4, vi ↑nd), (5, vi 0), (202, vi ((D - nd : Nat) : Int)), (203, vi ((0 : Nat) : Int))]) h11 sE) d11 (fun a12 v12 W12 D12 h12 d12 => ?_)
  refine exit_in ?_
  show Code.wp _ _ _ _ _
  refine wp_seq ?_
  refine wp_seq (wp_region ?_)
  refine oP 272 [] [0, 1] [(0, .v v12), (2, .s 0 0 32 32), (3, vi ↑D), (4, vi ↑nd), (5, vi 0), (213, vb false)] h12 d12 (fun a13 h13 d13 => ?_)
  clear h12 d12
  show Code.wp _ _ _ _ _
  refine wp_cond_false (h13.2 213 _ rfl) ?_
  refine wp_skip ?_
  show Code.wp _ _ _ _ _
  refine wp_seq (wp_region ?_)
  refine oP 272 [] [0, 1] [(0, .v v12), (2, .s 0 0 32 32), (3, vi ↑D), (4, vi ↑nd), (5, vi 0), (16, .v v12), (213, vb false)] h13 d13 (fun a14 h14 d14 => ?_)
  clear h13 d13
  show Code.wp _ _ _ _ _
  exact hret a14 v12 W12 D12 (sub_ok (E := [(16, .v v12)]) h14 sE) d14
set_option maxHeartbeats 8000000 in
set_option maxRecDepth 100000 in
theorem efg1false_walk (g : Nat) (m : Nat → Value) (hb : Bool) (c : Nat → Int) (n : Nat) (hn : n ≤ 32) (hc : ∀ i, i < n → m i = .int .u8 (c i)) (D nd : Nat) (h1 : 0 < D) (h2 : nd ≤ D) (hnd : nd ≤ n) (hD : D < 100) (w0 W : World) (v : Value) (l : List Int) (D0 : DS g m true w0 W v l) (hl : l.length < 1000) :
    Calls Tryd.prog 33 #[v, .bool false, (.slice (some ⟨g, 0, none⟩) 32 32), .int .i64 ↑D, .int .i64 ↑nd, .int .i64 0, .int .u8 102, .bool true] W fun e w' => ∃ v', e = .returned v' ∧ DS g m true w0 w' v' ((l ++ (List.range nd).map (fun q => c (0 + q))) ++ List.replicate (D - nd) 48) := by
  refine calls_of_wp Tryd.func33 rfl ?_
  have h0 := has_eight (β := bn [g]) (.v v) (vb false) (.s 0 0 32 32) (vi ↑D) (vi ↑nd) (vi 0) (vo 102) (vb true) 264
  have d0 : (⟨#[v, .bool false, (.slice (some ⟨g, 0, none⟩) 32 32), .int .i64 ↑D, .int .i64 ↑nd, .int .i64 0, .int .u8 102, .bool true] ++ Array.replicate 264 undef, []⟩ : Act).defers = [] := rfl
  refine wp_seq (wp_region ?_)
  refine oP 272 [] [0] [(0, .v v), (1, vb false), (2, .s 0 0 32 32), (3, vi ↑D), (4, vi ↑nd), (5, vi 0), (6, vo 102), (7, vb true), (16, .v (Value.slice none 0 0))] h0 d0 (fun a1 h1 d1 => ?_)
  clear h0 d0
  show Code.wp _ _ _ _ _
  refine wp_seq ?_
  refine wp_seq (wp_region ?_)
  refine oP 272 [3, 4, 5] [0, 1, 2] [(0, .v v), (1, vb false), (2, .s 0 0 32 32), (3, vi ↑D), (4, vi ↑nd), (5, vi 0), (6, vo 102), (7, vb true), (16, .v (Value.slice none 0 0)), (31, vo 102), (32, vb false), (33, vb false)] h1 d1 (fun a2 h2 d2 => ?_)
  clear h1 d1
  refine guard_ops (N := 272) (T := TT) (M := (fun _ _ => none)) tabOk (i := 3) (d := 34) (j := 2) (dj := 33) (b := false) (s := vo 102) (l := [4, 5]) (fun _ _ _ h => by cases h) rfl rfl rfl rfl rfl (by decide) h2 (by kernel_rfl) (fun a3 h3 d3 => ?_)
  replace d3 := d3.trans d2
  clear h2 d2
  refine guard_ops (N := 272) (T := TT) (M := (fun _ _ => none)) tabOk (i := 4) (d := 35) (j := 2) (dj := 33) (b := false) (s := vb false) (l := [5]) (fun _ _ _ h => by cases h) rfl rfl rfl rfl rfl (by decide) h3 (by kernel_rfl) (fun a4 h4 d4 => ?_)
  replace d4 := d4.trans d3
  clear h3 d3
  refine gW (s := vb false) 272 [] h4 d4 rfl (want_ rfl) rfl (by decide) (op_pickF rfl (h4.2 33 _ rfl) (h4.2 35 _ rfl)) (fun a5 h5 d5 => ?_)
  clear h4 d4
  show Code.wp _ _ _ _ _
  refine wp_cond_false (h5.2 36 _ rfl) ?_
  refine wp_skip ?_
  show Code.wp _ _ _ _ _
  refine wp_seq ?_
  refine wp_seq (wp_region ?_)
  refine oP 272 [] [0] [(0, .v v), (1, vb false), (2, .s 0 0 32 32), (3, vi ↑D), (4, vi ↑nd), (5, vi 0), (6, vo 102), (7, vb true), (16, .v (Value.slice none 0 0)), (31, vo 102), (32, vb false), (33, vb false), (34, vo 102), (35, vb false), (36, vb false), (74, vo 102)] h5 d5 (fun a6 h6 d6 => ?_)
  clear h5 d5
  show Code.wp _ _ _ _ _
  refine wp_block ?_
  refine wp_seq ?_
  refine wp_seq (wp_region ?_)
  refine oP 272 [] [0, 1] [(0, .v v), (1, vb false), (2, .s 0 0 32 32), (3, vi ↑D), (4, vi ↑nd), (5, vi 0), (6, vo 102), (7, vb true), (16, .v (Value.slice none 0 0)), (31, vo 102), (32, vb false), (33, vb false), (34, vo 102), (35, vb false), (36, vb false), (74, vo 102), (75, vb false)] h6 d6 (fun a7 h7 d7 => ?_)
  clear h6 d6
  show Code.wp _ _ _ _ _
  refine wp_cond_false (h7.2 75 _ rfl) ?_
  refine wp_region ?_
  refine oP 272 [] [0, 1] [(0, .v v), (1, vb false), (2, .s 0 0 32 32), (3, vi ↑D), (4, vi ↑nd), (5, vi 0), (6, vo 102), (7, vb true), (16, .v (Value.slice none 0 0)), (31, vo 102), (32, vb false), (33, vb false), (34, vo 102), (35, vb false), (36, vb false), (74, vo 102), (75, vb false)] h7 d7 (fun a8 h8 d8 => ?_)
  clear h7 d7
  show Code.wp _ _ _ _ _
  refine wp_cond_false (h8.2 75 _ rfl) ?_
  refine wp_seq (wp_region ?_)
  refine oP 272 [] [0, 1] [(0, .v v), (1, vb false), (2, .s 0 0 32 32), (3, vi ↑D), (4, vi ↑nd), (5, vi 0), (6, vo 102), (7, vb true), (16, .v (Value.slice none 0 0)), (31, vo 102), (32, vb false), (33, vb false), (34, vo 102), (35, vb false), (36, vb false), (74, vo 102), (75, vb false), (176, vb true)] h8 d8 (fun a9 h9 d9 => ?_)
  clear h8 d8
  show Code.wp _ _ _ _ _
  refine wp_cond_true (h9.2 176 _ rfl) ?_
  refine wp_seq ?_
  refine wp_seq (wp_region ?_)
  refine oP 272 [] [0] [(0, .v v), (1, vb false), (2, .s 0 0 32 32), (3, vi ↑D), (4, vi ↑nd), (5, vi 0), (6, vo 102), (7, vb true), (16, .v (Value.slice none 0 0)), (31, vo 102), (32, vb false), (33, vb false), (34, vo 102), (35, vb false), (36, vb false), (74, vo 102), (75, vb false), (176, vb true), (178, vb false)] h9 d9 (fun a10 h10 d10 => ?_)
  clear h9 d9
  show Code.wp _ _ _ _ _
  refine wp_cond_false (h10.2 178 _ rfl) ?_
  refine wp_skip ?_
  show Code.wp _ _ _ _ _
  show Code.wp Tryd.prog efT _ _ _
  refine efT1 g m c n hn hc D nd h1 h2 hnd hD w0 _ _ l D0 (by (try simp); omega) a10 (sub_ok (E := [(0, .v v), (2, .s 0 0 32 32), (3, vi ↑D), (4, vi ↑nd), (5, vi 0)]) h10 sE) d10 (fun a v' W' D h d => ?_)
  refine wp_ret ?_
  exact ⟨d, _, results_tmp rfl _ _ _, v', congrArg Ending.returned (h.2 16 _ rfl), D⟩
set_option maxHeartbeats 8000000 in
set_option maxRecDepth 100000 in
theorem efg1true_walk (g : Nat) (m : Nat → Value) (hb : Bool) (c : Nat → Int) (n : Nat) (hn : n ≤ 32) (hc : ∀ i, i < n → m i = .int .u8 (c i)) (D nd : Nat) (h1 : 0 < D) (h2 : nd ≤ D) (hnd : nd ≤ n) (hD : D < 100) (w0 W : World) (v : Value) (l : List Int) (D0 : DS g m true w0 W v l) (hl : l.length < 1000) :
    Calls Tryd.prog 33 #[v, .bool true, (.slice (some ⟨g, 0, none⟩) 32 32), .int .i64 ↑D, .int .i64 ↑nd, .int .i64 0, .int .u8 102, .bool true] W fun e w' => ∃ v', e = .returned v' ∧ DS g m true w0 w' v' (((l ++ [45]) ++ (List.range nd).map (fun q => c (0 + q))) ++ List.replicate (D - nd) 48) := by
  refine calls_of_wp Tryd.func33 rfl ?_
  have h0 := has_eight (β := bn [g]) (.v v) (vb true) (.s 0 0 32 32) (vi ↑D) (vi ↑nd) (vi 0) (vo 102) (vb true) 264
  have d0 : (⟨#[v, .bool true, (.slice (some ⟨g, 0, none⟩) 32 32), .int .i64 ↑D, .int .i64 ↑nd, .int .i64 0, .int .u8 102, .bool true] ++ Array.replicate 264 undef, []⟩ : Act).defers = [] := rfl
  refine wp_seq (wp_region ?_)
  refine oP 272 [] [0] [(0, .v v), (1, vb true), (2, .s 0 0 32 32), (3, vi ↑D), (4, vi ↑nd), (5, vi 0), (6, vo 102), (7, vb true), (16, .v (Value.slice none 0 0))] h0 d0 (fun a1 h1 d1 => ?_)
  clear h0 d0
  show Code.wp _ _ _ _ _
  refine wp_seq ?_
  refine wp_seq (wp_region ?_)
  refine oP 272 [3, 4, 5] [0, 1, 2] [(0, .v v), (1, vb true), (2, .s 0 0 32 32), (3, vi ↑D), (4, vi ↑nd), (5, vi 0), (6, vo 102), (7, vb true), (16, .v (Value.slice none 0 0)), (31, vo 102), (32, vb false), (33, vb false)] h1 d1 (fun a2 h2 d2 => ?_)
  clear h1 d1
  refine guard_ops (N := 272) (T := TT) (M := (fun _ _ => none)) tabOk (i := 3) (d := 34) (j := 2) (dj := 33) (b := false) (s := vo 102) (l := [4, 5]) (fun _ _ _ h => by cases h) rfl rfl rfl rfl rfl (by decide) h2 (by kernel_rfl) (fun a3 h3 d3 => ?_)
  replace d3 := d3.trans d2
  clear h2 d2
  refine guard_ops (N := 272) (T := TT) (M := (fun _ _ => none)) tabOk (i := 4) (d := 35) (j := 2) (dj := 33) (b := false) (s := vb false) (l := [5]) (fun _ _ _ h => by cases h) rfl rfl rfl rfl rfl (by decide) h3 (by kernel_rfl) (fun a4 h4 d4 => ?_)
  replace d4 := d4.trans d3
  clear h3 d3
  refine gW (s := vb false) 272 [] h4 d4 rfl (want_ rfl) rfl (by decide) (op_pickF rfl (h4.2 33 _ rfl) (h4.2 35 _ rfl)) (fun a5 h5 d5 => ?_)
  clear h4 d4
  show Code.wp _ _ _ _ _
  refine wp_cond_false (h5.2 36 _ rfl) ?_
  refine wp_skip ?_
  show Code.wp _ _ _ _ _
  refine wp_seq ?_
  refine wp_seq (wp_region ?_)
  refine oP 272 [] [0] [(0, .v v), (1, vb true), (2, .s 0 0 32 32), (3, vi ↑D), (4, vi ↑nd), (5, vi 0), (6, vo 102), (7, vb true), (16, .v (Value.slice none 0 0)), (31, vo 102), (32, vb false), (33, vb false), (34, vo 102), (35, vb false), (36, vb false), (74, vo 102)] h5 d5 (fun a6 h6 d6 => ?_)
  clear h5 d5
  show Code.wp _ _ _ _ _
  refine wp_block ?_
  refine wp_seq ?_
  refine wp_seq (wp_region ?_)
  refine oP 272 [] [0, 1] [(0, .v v), (1, vb true), (2, .s 0 0 32 32), (3, vi ↑D), (4, vi ↑nd), (5, vi 0), (6, vo 102), (7, vb true), (16, .v (Value.slice none 0 0)), (31, vo 102), (32, vb false), (33, vb false), (34, vo 102), (35, vb false), (36, vb false), (74, vo 102), (75, vb false)] h6 d6 (fun a7 h7 d7 => ?_)
  clear h6 d6
  show Code.wp _ _ _ _ _
  refine wp_cond_false (h7.2 75 _ rfl) ?_
  refine wp_region ?_
  refine oP 272 [] [0, 1] [(0, .v v), (1, vb true), (2, .s 0 0 32 32), (3, vi ↑D), (4, vi ↑nd), (5, vi 0), (6, vo 102), (7, vb true), (16, .v (Value.slice none 0 0)), (31, vo 102), (32, vb false), (33, vb false), (34, vo 102), (35, vb false), (36, vb false), (74, vo 102), (75, vb false)] h7 d7 (fun a8 h8 d8 => ?_)
  clear h7 d7
  show Code.wp _ _ _ _ _
  refine wp_cond_false (h8.2 75 _ rfl) ?_
  refine wp_seq (wp_region ?_)
  refine oP 272 [] [0, 1] [(0, .v v), (1, vb true), (2, .s 0 0 32 32), (3, vi ↑D), (4, vi ↑nd), (5, vi 0), (6, vo 102), (7, vb true), (16, .v (Value.slice none 0 0)), (31, vo 102), (32, vb false), (33, vb false), (34, vo 102), (35, vb false), (36, vb false), (74, vo 102), (75, vb false), (176, vb true)] h8 d8 (fun a9 h9 d9 => ?_)
  clear h8 d8
  show Code.wp _ _ _ _ _
  refine wp_cond_true (h9.2 176 _ rfl) ?_
  refine wp_seq ?_
  refine wp_seq (wp_region ?_)
  refine oP 272 [] [0] [(0, .v v), (1, vb true), (2, .s 0 0 32 32), (3, vi ↑D), (4, vi ↑nd), (5, vi 0), (6, vo 102), (7, vb true), (16, .v (Value.slice none 0 0)), (31, vo 102), (32, vb false), (33, vb false), (34, vo 102), (35, vb false), (36, vb false), (74, vo 102), (75, vb false), (176, vb true), (178, vb true)] h9 d9 (fun a10 h10 d10 => ?_)
  clear h9 d9
  show Code.wp _ _ _ _ _
  refine wp_cond_true (h10.2 178 _ rfl) ?_
  refine wp_region ?_
  refine oP 272 [1, 2, 3] [0] [(0, .v v), (1, vb true), (2, .s 0 0 32 32), (3, vi ↑D), (4, vi ↑nd), (5, vi 0), (6, vo 102), (7, vb true), (16, .v (Value.slice none 0 0)), (31, vo 102), (32, vb false), (33, vb false), (34, vo 102), (35, vb false), (36, vb false), (74, vo 102), (75, vb false), (176, vb true), (178, vb true), (179, .v v)] h10 d10 (fun a11 h11 d11 => ?_)
  clear h10 d10
  refine push_ops (N := 272) (i := 1) (j := 2) (d1 := 180) (d2 := 181) (ts := 179) (x := 45) (rest := [3]) D0 (by (try simp); omega) h11 rfl rfl rfl (by decide) rfl rfl rfl rfl rfl (by decide) rfl rfl rfl (fun v12 W12 a12 D12 h12 d12 => ?_)
  replace d12 := d12.trans d11
  clear h11 d11
  refine oP 272 [] [3] [(0, .v v12), (1, vb true), (2, .s 0 0 32 32), (3, vi ↑D), (4, vi ↑nd), (5, vi 0), (6, vo 102), (7, vb true), (16, .v (Value.slice none 0 0)), (31, vo 102), (32, vb false), (33, vb false), (34, vo 102), (35, vb false), (36, vb false), (74, vo 102), (75, vb false), (176, vb true), (178, vb true)] h12 d12 (fun a13 h13 d13 => ?_)
  clear h12 d12
  show Code.wp _ _ _ _ _
  show Code.wp Tryd.prog efT _ _ _
  refine efT1 g m c n hn hc D nd h1 h2 hnd hD w0 _ _ (l ++ [45]) D12 (by (try simp); omega) a13 (sub_ok (E := [(0, .v v12), (2, .s 0 0 32 32), (3, vi ↑D), (4, vi ↑nd), (5, vi 0)]) h13 sE) d13 (fun a v' W' D h d => ?_)
  refine wp_ret ?_
  exact ⟨d, _, results_tmp rfl _ _ _, v', congrArg Ending.returned (h.2 16 _ rfl), by simpa using D⟩
set_option maxHeartbeats 8000000 in
set_option maxRecDepth 100000 in
theorem efT2 {Q : Exit → Act → World → Prop} (g : Nat) (m : Nat → Value) (c : Nat → Int) (n : Nat) (hn : n ≤ 32) (hc : ∀ i, i < n → m i = .int .u8 (c i)) (D nd : Nat) (h1 : 0 < D) (h2 : D < nd) (hnd : nd ≤ n) (w0 W : World) (v : Value) (l : List Int) (D0 : DS g m true w0 W v l) (hl : l.length < 2000) (a0 : Act) (h0 : Has 272 (bn [g]) [(0, .v v), (2, .s 0 0 32 32), (3, vi ↑D), (4, vi ↑nd), (5, vi ((nd - D : Nat) : Int))] a0) (d0 : a0.defers = [])
    (hret : ∀ (a : Act) (v' : Value) (W' : World), DS g m true w0 W' v' ((((((l ++ (List.range D).map (fun q => c (0 + q))) ++ List.replicate (0) 48) ++ [46]) ++ List.replicate (0) 48) ++ (List.range (nd - D)).map (fun q => c (D + 0 + q))) ++ List.replicate 0 48) → Has 272 (bn [g]) [(16, .v v')] a → a.defers = [] → Code.wp Tryd.prog .ret Q a W') : Code.wp Tryd.prog efT Q a0 W := by
  refine wp_seq ?_
  refine wp_seq (wp_region ?_)
  refine oP 272 [] [0, 1] [(0, .v v), (2, .s 0 0 32 32), (3, vi ↑D), (4, vi ↑nd), (5, vi ((nd - D : Nat) : Int)), (183, vb (decide ((((D : Nat) : Int) : Int) > 0)))] h0 d0 (fun a1 h1 d1 => ?_)
  clear h0 d0
  rw [show (decide ((((D : Nat) : Int) : Int) > 0)) = true from decide_eq_true (by omega)] at h1
  show Code.wp _ _ _ _ _
  refine wp_cond_true (h1.2 183 _ rfl) ?_
  refine wp_seq (wp_region ?_)
  refine oP 272 [2, 3] [0, 1] [(0, .v v), (2, .s 0 0 32 32), (3, vi ↑D), (4, vi ↑nd), (5, vi ((nd - D : Nat) : Int)), (183, vb true), (184, vi ↑nd), (185, vi ↑D)] h1 d1 (fun a2 h2 d2 => ?_)
  clear h1 d1
  refine gW (s := vi ↑D) 272 [3] h2 d2 rfl (want_ rfl) rfl (by decide) ((op_min rfl (h2.2 184 _ rfl) (h2.2 185 _ rfl)).trans (by rw [show (if ((D : Nat) : Int) < ((nd : Nat) : Int) then ((D : Nat) : Int) else ((nd : Nat) : Int)) = ((D : Nat) : Int) from by split <;> omega]; rfl)) (fun a3 h3 d3 => ?_)
  clear h2 d2
  refine oP 272 [] [3] [(0, .v v), (2, .s 0 0 32 32), (3, vi ↑D), (4, vi ↑nd), (5, vi ((nd - D : Nat) : Int)), (23, vi ↑D), (183, vb true)] h3 d3 (fun a4 h4 d4 => ?_)
  clear h3 d3
  show Code.wp _ _ _ _ _
  refine wp_seq ?_
  refine wp_seq (wp_region ?_)
  refine oP 272 [2, 3, 4] [0, 1] [(0, .v v), (2, .s 0 0 32 32), (3, vi ↑D), (4, vi ↑nd), (5, vi ((nd - D : Nat) : Int)), (23, vi ↑D), (183, vb true), (187, .s 0 0 32 32), (188, vi ↑D)] h4 d4 (fun a5 h5 d5 => ?_)
  clear h4 d4
  refine gW (s := .s 0 0 D 32) 272 [3, 4] h5 d5 rfl (want_ rfl) rfl (by decide) ((op_slice rfl (by rw [show (Option.map a5.eval (some (Operand.tmp 188))) = some (.int .i64 ↑D) from congrArg some (h5.2 188 _ rfl), show a5.eval (Operand.tmp 187) = _ from h5.2 187 _ rfl]; exact sl_to _ g 0 32 32 D (by omega) (by decide)))) (fun a6 h6 d6 => ?_)
  clear h5 d5
  refine oP 272 [] [3, 4] [(0, .v v), (2, .s 0 0 32 32), (3, vi ↑D), (4, vi ↑nd), (5, vi ((nd - D : Nat) : Int)), (23, vi ↑D), (183, vb true), (189, .s 0 0 D 32), (190, vi ↑D), (191, vi 0)] h6 d6 (fun a7 h7 d7 => ?_)
  clear h6 d6
  show Code.wp _ _ _ _ _
  refine wp_block ?_
  refine wp_loop_rounds (D + 1) ?_
  refine ef58 g m w0 (.s 0 0 32 32) (vi ↑D) (vi ↑nd) (vi ((nd - D : Nat) : Int)) (vi ↑D) (D) (by omega) c n hn hc (by omega) (D) 0 (by omega) a7 _ _ _ D0 (by (try simp); omega) (sub_ok (E := [(0, .v v), (2, .s 0 0 32 32), (3, vi ↑D), (4, vi ↑nd), (5, vi ((nd - D : Nat) : Int)), (23, vi ↑D), (189, .s 0 0 D 32), (190, vi ↑D), (191, vi ((0 : Nat) : Int))]) h7 sE) d7 (fun a8 v8 W8 D8 h8 d8 => ?_)
  refine exit_in ?_
  show Code.wp _ _ _ _ _
  refine wp_seq (wp_region ?_)
  refine oP 272 [2, 3] [0, 1] [(0, .v v8), (2, .s 0 0 32 32), (3, vi ↑D), (4, vi ↑nd), (5, vi ((nd - D : Nat) : Int)), (23, vi ↑D), (200, vi ↑D), (201, vi ↑D)] h8 d8 (fun a9 h9 d9 => ?_)
  clear h8 d8
  refine oP 272 [3] [2] [(0, .v v8), (2, .s 0 0 32 32), (3, vi ↑D), (4, vi ↑nd), (5, vi ((nd - D : Nat) : Int)), (23, vi ↑D), (200, vi ↑D), (201, vi ↑D), (202, vi (IntKind.i64.wrap (((D : Nat) : Int) - ((D : Nat) : Int))))] h9 d9 (fun a10 h10 d10 => ?_)
  clear h9 d9
  rw [show (IntKind.i64.wrap (((D : Nat) : Int) - ((D : Nat) : Int))) = ((0 : Nat) : Int) from by rw [IntKind.wrap_i64]; omega] at h10
  refine oP 272 [] [3] [(0, .v v8), (2, .s 0 0 32 32), (3, vi ↑D), (4, vi ↑nd), (5, vi ((nd - D : Nat) : Int)), (23, vi ↑D), (202, vi ((0 : Nat) : Int)), (203, vi 0)] h10 d10 (fun a11 h11 d11 => ?_)
  clear h10 d10
  show Code.wp _ _ _ _ _
  refine wp_block ?_
  refine wp_loop_rounds (0 + 1) ?_
  refine ef63 g m w0 (.s 0 0 32 32) (vi ↑D) (vi ↑nd) (vi ((nd - D : Nat) : Int)) (0) (by omega) (0) 0 (by omega) a11 _ _ _ D8 (by (try simp); omega) (sub_ok (E := [(0, .v v8), (2, .s 0 0 32 32), (3, vi ↑D), (4, vi ↑nd), (5, vi ((nd - D : Nat) : Int)), (202, vi ((0 : Nat) : Int)), (203, vi ((0 : Nat) : Int))]) h11 sE) d11 (fun a12 v12 W12 D12 h12 d12 => ?_)
  refine exit_in ?_
  show Code.wp _ _ _ _ _
  refine wp_seq ?_
  refine wp_seq (wp_region ?_)
  refine oP 272 [] [0, 1] [(0, .v v12), (2, .s 0 0 32 32), (3, vi ↑D), (4, vi ↑nd), (5, vi ((nd - D : Nat) : Int)), (213, vb (decide ((((nd - D : Nat) : Int) : Int) > 0)))] h12 d12 (fun a13 h13 d13 => ?_)
  clear h12 d12
  rw [show (decide ((((nd - D : Nat) : Int) : Int) > 0)) = true from decide_eq_true (by omega)] at h13
  show Code.wp _ _ _ _ _
  refine wp_cond_true (h13.2 213 _ rfl) ?_
  refine wp_seq (wp_region ?_)
  refine oP 272 [1, 2, 3] [0] [(0, .v v12), (2, .s 0 0 32 32), (3, vi ↑D), (4, vi ↑nd), (5, vi ((nd - D : Nat) : Int)), (213, vb true), (214, .v v12)] h13 d13 (fun a14 h14 d14 => ?_)
  clear h13 d13
  refine push_ops (N := 272) (i := 1) (j := 2) (d1 := 215) (d2 := 216) (ts := 214) (x := 46) (rest := [3]) D12 (by (try simp); omega) h14 rfl rfl rfl (by decide) rfl rfl rfl rfl rfl (by decide) rfl rfl rfl (fun v15 W15 a15 D15 h15 d15 => ?_)
  replace d15 := d15.trans d14
  clear h14 d14
  refine oP 272 [] [3] [(0, .v v15), (2, .s 0 0 32 32), (3, vi ↑D), (4, vi ↑nd), (5, vi ((nd - D : Nat) : Int)), (213, vb true)] h15 d15 (fun a16 h16 d16 => ?_)
  clear h15 d15
  show Code.wp _ _ _ _ _
  refine wp_seq (wp_region ?_)
  refine oP 272 [2, 3, 4, 5] [0, 1] [(0, .v v15), (2, .s 0 0 32 32), (3, vi ↑D), (4, vi ↑nd), (5, vi ((nd - D : Nat) : Int)), (213, vb true), (217, vi ((nd - D : Nat) : Int)), (218, vi ↑D)] h16 d16 (fun a17 h17 d17 => ?_)
  clear h16 d16
  refine oP 272 [3, 4, 5] [2] [(0, .v v15), (2, .s 0 0 32 32), (3, vi ↑D), (4, vi ↑nd), (5, vi ((nd - D : Nat) : Int)), (213, vb true), (217, vi ((nd - D : Nat) : Int)), (218, vi ↑D), (219, vi (IntKind.i64.wrap (0 - ((D : Nat) : Int))))] h17 d17 (fun a18 h18 d18 => ?_)
  clear h17 d17
  rw [show (IntKind.i64.wrap (0 - ((D : Nat) : Int))) = (-((D : Nat) : Int)) from by rw [IntKind.wrap_i64]; omega] at h18
  refine gW (s := vi ((0 : Nat) : Int)) 272 [4, 5] h18 d18 rfl (want_ rfl) rfl (by decide) ((op_max rfl rfl (h18.2 219 _ rfl)).trans (by rw [show (if 0 < (-((D : Nat) : Int)) then (-((D : Nat) : Int)) else 0) = ((0 : Nat) : Int) from by split <;> omega]; rfl)) (fun a19 h19 d19 => ?_)
  clear h18 d18
  refine gW (s := vi ((0 : Nat) : Int)) 272 [5] h19 d19 rfl (want_ rfl) rfl (by decide) ((op_min rfl (h19.2 217 _ rfl) (h19.2 220 _ rfl)).trans (by rw [show (if ((0 : Nat) : Int) < ((nd - D : Nat) : Int) then ((0 : Nat) : Int) else ((nd - D : Nat) : Int)) = ((0 : Nat) : Int) from by split <;> omega]; rfl)) (fun a20 h20 d20 => ?_)
  clear h19 d19
  refine oP 272 [] [5] [(0, .v v15), (2, .s 0 0 32 32), (3, vi ↑D), (4, vi ↑nd), (5, vi ((nd - D : Nat) : Int)), (26, vi ((0 : Nat) : Int)), (213, vb true)] h20 d20 (fun a21 h21 d21 => ?_)
  clear h20 d20
  show Code.wp _ _ _ _ _
  refine wp_seq (wp_region ?_)
  refine oP 272 [2, 3] [0, 1] [(0, .v v15), (2, .s 0 0 32 32), (3, vi ↑D), (4, vi ↑nd), (5, vi ((nd - D : Nat) : Int)), (26, vi ((0 : Nat) : Int)), (213, vb true), (222, vi ↑D), (223, vi ((0 : Nat) : Int))] h21 d21 (fun a22 h22 d22 => ?_)
  clear h21 d21
  refine oP 272 [3] [2] [(0, .v v15), (2, .s 0 0 32 32), (3, vi ↑D), (4, vi ↑nd), (5, vi ((nd - D : Nat) : Int)), (26, vi ((0 : Nat) : Int)), (213, vb true), (222, vi ↑D), (223, vi ((0 : Nat) : Int)), (224, vi (IntKind.i64.wrap (((D : Nat) : Int) + ((0 : Nat) : Int))))] h22 d22 (fun a23 h23 d23 => ?_)
  clear h22 d22
  rw [show (IntKind.i64.wrap (((D : Nat) : Int) + ((0 : Nat) : Int))) = ((D : Nat) : Int) from by rw [IntKind.wrap_i64]; omega] at h23
  refine oP 272 [] [3] [(0, .v v15), (2, .s 0 0 32 32), (3, vi ↑D), (4, vi ↑nd), (5, vi ((nd - D : Nat) : Int)), (26, vi ((0 : Nat) : Int)), (27, vi ↑D), (213, vb true)] h23 d23 (fun a24 h24 d24 => ?_)
  clear h23 d23
  show Code.wp _ _ _ _ _
  refine wp_seq (wp_region ?_)
  refine oP 272 [2, 3, 4, 5, 6, 7, 8] [0, 1] [(0, .v v15), (2, .s 0 0 32 32), (3, vi ↑D), (4, vi ↑nd), (5, vi ((nd - D : Nat) : Int)), (26, vi ((0 : Nat) : Int)), (27, vi ↑D), (213, vb true), (225, vi ((nd - D : Nat) : Int)), (226, vi ((0 : Nat) : Int))] h24 d24 (fun a25 h25 d25 => ?_)
  clear h24 d24
  refine oP 272 [3, 4, 5, 6, 7, 8] [2] [(0, .v v15), (2, .s 0 0 32 32), (3, vi ↑D), (4, vi ↑nd), (5, vi ((nd - D : Nat) : Int)), (26, vi ((0 : Nat) : Int)), (27, vi ↑D), (213, vb true), (225, vi ((nd - D : Nat) : Int)), (226, vi ((0 : Nat) : Int)), (227, vi (IntKind.i64.wrap (((nd - D : Nat) : Int) - ((0 : Nat) : Int))))] h25 d25 (fun a26 h26 d26 => ?_)
  clear h25 d25
  rw [show (IntKind.i64.wrap (((nd - D : Nat) : Int) - ((0 : Nat) : Int))) = ((nd - D : Nat) : Int) from by rw [IntKind.wrap_i64]; omega] at h26
  refine oP 272 [5, 6, 7, 8] [3, 4] [(0, .v v15), (2, .s 0 0 32 32), (3, vi ↑D), (4, vi ↑nd), (5, vi ((nd - D : Nat) : Int)), (26, vi ((0 : Nat) : Int)), (27, vi ↑D), (213, vb true), (225, vi ((nd - D : Nat) : Int)), (226, vi ((0 : Nat) : Int)), (227, vi ((nd - D : Nat) : Int)), (228, vi ↑nd), (229, vi ↑D)] h26 d26 (fun a27 h27 d27 => ?_)
  clear h26 d26
  refine oP 272 [6, 7, 8] [5] [(0, .v v15), (2, .s 0 0 32 32), (3, vi ↑D), (4, vi ↑nd), (5, vi ((nd - D : Nat) : Int)), (26, vi ((0 : Nat) : Int)), (27, vi ↑D), (213, vb true), (225, vi ((nd - D : Nat) : Int)), (226, vi ((0 : Nat) : Int)), (227, vi ((nd - D : Nat) : Int)), (228, vi ↑nd), (229, vi ↑D), (230, vi (IntKind.i64.wrap (((nd : Nat) : Int) - ((D : Nat) : Int))))] h27 d27 (fun a28 h28 d28 => ?_)
  clear h27 d27
  rw [show (IntKind.i64.wrap (((nd : Nat) : Int) - ((D : Nat) : Int))) = ((nd - D : Nat) : Int) from by rw [IntKind.wrap_i64]; omega] at h28
  refine gW (s := vi ((nd - D : Nat) : Int)) 272 [7, 8] h28 d28 rfl (want_ rfl) rfl (by decide) ((op_max rfl rfl (h28.2 230 _ rfl)).trans (by rw [show (if 0 < ((nd - D : Nat) : Int) then ((nd - D : Nat) : Int) else 0) = ((nd - D : Nat) : Int) from by split <;> omega]; rfl)) (fun a29 h29 d29 => ?_)
  clear h28 d28
  refine gW (s := vi ((nd - D : Nat) : Int)) 272 [8] h29 d29 rfl (want_ rfl) rfl (by decide) ((op_min rfl (h29.2 227 _ rfl) (h29.2 231 _ rfl)).trans (by rw [show (if ((nd - D : Nat) : Int) < ((nd - D : Nat) : Int) then ((nd - D : Nat) : Int) else ((nd - D : Nat) : Int)) = ((nd - D : Nat) : Int) from by split <;> omega]; rfl)) (fun a30 h30 d30 => ?_)
  clear h29 d29
  refine oP 272 [] [8] [(0, .v v15), (2, .s 0 0 32 32), (3, vi ↑D), (4, vi ↑nd), (5, vi ((nd - D : Nat) : Int)), (26, vi ((0 : Nat) : Int)), (27, vi ↑D), (28, vi ((nd - D : Nat) : Int)), (213, vb true)] h30 d30 (fun a31 h31 d31 => ?_)
  clear h30 d30
  show Code.wp _ _ _ _ _
  refine wp_seq (wp_region ?_)
  refine oP 272 [2, 3, 4, 5, 6] [0, 1] [(0, .v v15), (2, .s 0 0 32 32), (3, vi ↑D), (4, vi ↑nd), (5, vi ((nd - D : Nat) : Int)), (26, vi ((0 : Nat) : Int)), (27, vi ↑D), (28, vi ((nd - D : Nat) : Int)), (213, vb true), (233, vi ((nd - D : Nat) : Int)), (234, vi ((0 : Nat) : Int))] h31 d31 (fun a32 h32 d32 => ?_)
  clear h31 d31
  refine oP 272 [3, 4, 5, 6] [2] [(0, .v v15), (2, .s 0 0 32 32), (3, vi ↑D), (4, vi ↑nd), (5, vi ((nd - D : Nat) : Int)), (26, vi ((0 : Nat) : Int)), (27, vi ↑D), (28, vi ((nd - D : Nat) : Int)), (213, vb true), (233, vi ((nd - D : Nat) : Int)), (234, vi ((0 : Nat) : Int)), (235, vi (IntKind.i64.wrap (((nd - D : Nat) : Int) - ((0 : Nat) : Int))))] h32 d32 (fun a33 h33 d33 => ?_)
  clear h32 d32
  rw [show (IntKind.i64.wrap (((nd - D : Nat) : Int) - ((0 : Nat) : Int))) = ((nd - D : Nat) : Int) from by rw [IntKind.wrap_i64]; omega] at h33
  refine oP 272 [4, 5, 6] [3] [(0, .v v15), (2, .s 0 0 32 32), (3, vi ↑D), (4, vi ↑nd), (5, vi ((nd - D : Nat) : Int)), (26, vi ((0 : Nat) : Int)), (27, vi ↑D), (28, vi ((nd - D : Nat) : Int)), (213, vb true), (233, vi ((nd - D : Nat) : Int)), (234, vi ((0 : Nat) : Int)), (235, vi ((nd - D : Nat) : Int)), (236, vi ((nd - D : Nat) : Int))] h33 d33 (fun a34 h34 d34 => ?_)
  clear h33 d33
  refine oP 272 [5, 6] [4] [(0, .v v15), (2, .s 0 0 32 32), (3, vi ↑D), (4, vi ↑nd), (5, vi ((nd - D : Nat) : Int)), (26, vi ((0 : Nat) : Int)), (27, vi ↑D), (28, vi ((nd - D : Nat) : Int)), (213, vb true), (233, vi ((nd - D : Nat) : Int)), (234, vi ((0 : Nat) : Int)), (235, vi ((nd - D : Nat) : Int)), (236, vi ((nd - D : Nat) : Int)), (237, vi (IntKind.i64.wrap (((nd - D : Nat) : Int) - ((nd - D : Nat) : Int))))] h34 d34 (fun a35 h35 d35 => ?_)
  clear h34 d34
  rw [show (IntKind.i64.wrap (((nd - D : Nat) : Int) - ((nd - D : Nat) : Int))) = ((0 : Nat) : Int) from by rw [IntKind.wrap_i64]; omega] at h35
  refine gW (s := vi ((0 : Nat) : Int)) 272 [6] h35 d35 rfl (want_ rfl) rfl (by decide) ((op_max rfl rfl (h35.2 237 _ rfl)).trans (by rw [show (if 0 < ((0 : Nat) : Int) then ((0 : Nat) : Int) else 0) = ((0 : Nat) : Int) from by split <;> omega]; rfl)) (fun a36 h36 d36 => ?_)
  clear h35 d35
  refine oP 272 [] [6] [(0, .v v15), (2, .s 0 0 32 32), (3, vi ↑D), (4, vi ↑nd), (5, vi ((nd - D : Nat) : Int)), (26, vi ((0 : Nat) : Int)), (27, vi ↑D), (28, vi ((nd - D : Nat) : Int)), (29, vi ((0 : Nat) : Int)), (213, vb true)] h36 d36 (fun a37 h37 d37 => ?_)
  clear h36 d36
  show Code.wp _ _ _ _ _
  refine wp_seq ?_
  refine wp_seq (wp_region ?_)
  refine oP 272 [] [0, 1] [(0, .v v15), (2, .s 0 0 32 32), (3, vi ↑D), (4, vi ↑nd), (5, vi ((nd - D : Nat) : Int)), (26, vi ((0 : Nat) : Int)), (27, vi ↑D), (28, vi ((nd - D : Nat) : Int)), (29, vi ((0 : Nat) : Int)), (213, vb true), (239, vi ((0 : Nat) : Int)), (240, vi 0)] h37 d37 (fun a38 h38 d38 => ?_)
  clear h37 d37
  show Code.wp _ _ _ _ _
  refine wp_block ?_
  refine wp_loop_rounds (0 + 1) ?_
  refine ef74 g m w0 (.s 0 0 32 32) (vi ↑D) (vi ((nd - D : Nat) : Int)) (vi ((0 : Nat) : Int)) (0) (by omega) (0) 0 (by omega) a38 _ _ _ D15 (by (try simp); omega) (sub_ok (E := [(0, .v v15), (2, .s 0 0 32 32), (27, vi ↑D), (28, vi ((nd - D : Nat) : Int)), (29, vi ((0 : Nat) : Int)), (239, vi ((0 : Nat) : Int)), (240, vi ((0 : Nat) : Int))]) h38 sE) d38 (fun a39 v39 W39 D39 h39 d39 => ?_)
  refine exit_in ?_
  show Code.wp _ _ _ _ _
  refine wp_seq ?_
  refine wp_seq (wp_region ?_)
  refine oP 272 [] [0, 1] [(0, .v v39), (2, .s 0 0 32 32), (27, vi ↑D), (28, vi ((nd - D : Nat) : Int)), (29, vi ((0 : Nat) : Int)), (246, vi ((nd - D : Nat) : Int)), (247, vi 0)] h39 d39 (fun a40 h40 d40 => ?_)
  clear h39 d39
  show Code.wp _ _ _ _ _
  refine wp_block ?_
  refine wp_loop_rounds (nd - D + 1) ?_
  refine ef78 g m w0 (vi ((0 : Nat) : Int)) (nd - D) (by omega) c n hn hc (D) (by omega) (nd - D) 0 (by omega) a40 _ _ _ D39 (by (try simp); omega) (sub_ok (E := [(0, .v v39), (2, .s 0 0 32 32), (27, vi ↑D), (29, vi ((0 : Nat) : Int)), (246, vi ((nd - D : Nat) : Int)), (247, vi ((0 : Nat) : Int))]) h40 sE) d40 (fun a41 v41 W41 D41 h41 d41 => ?_)
  refine exit_in ?_
  show Code.wp _ _ _ _ _
  refine wp_seq (wp_region ?_)
  refine oP 272 [] [0, 1] [(0, .v v41), (2, .s 0 0 32 32), (27, vi ↑D), (260, vi ((0 : Nat) : Int)), (261, vi 0)] h41 d41 (fun a42 h42 d42 => ?_)
  clear h41 d41
  show Code.wp _ _ _ _ _
  refine wp_block ?_
  refine wp_loop_rounds (0 + 1) ?_
  refine ef83 g m w0  (0) (by omega) (0) 0 (by omega) a42 _ _ _ D41 (by (try simp); omega) (sub_ok (E := [(0, .v v41), (260, vi ((0 : Nat) : Int)), (261, vi ((0 : Nat) : Int))]) h42 sE) d42 (fun a43 v43 W43 D43 h43 d43 => ?_)
  refine exit_in ?_
  show Code.wp _ _ _ _ _
  refine wp_seq (wp_region ?_)
  refine oP 272 [] [0, 1] [(0, .v v43), (16, .v v43)] h43 d43 (fun a44 h44 d44 => ?_)
  clear h43 d43
  show Code.wp _ _ _ _ _
  exact hret a44 v43 W43 D43 (sub_ok (E := [(16, .v v43)]) h44 sE) d44
set_option maxHeartbeats 8000000 in
set_option maxRecDepth 100000 in
theorem efg2false_walk (g : Nat) (m : Nat → Value) (hb : Bool) (c : Nat → Int) (n : Nat) (hn : n ≤ 32) (hc : ∀ i, i < n → m i = .int .u8 (c i)) (D nd : Nat) (h1 : 0 < D) (h2 : D < nd) (hnd : nd ≤ n) (w0 W : World) (v : Value) (l : List Int) (D0 : DS g m true w0 W v l) (hl : l.length < 1000) :
    Calls Tryd.prog 33 #[v, .bool false, (.slice (some ⟨g, 0, none⟩) 32 32), .int .i64 ↑D, .int .i64 ↑nd, .int .i64 ((nd - D : Nat) : Int), .int .u8 102, .bool true] W fun e w' => ∃ v', e = .returned v' ∧ DS g m true w0 w' v' ((((((l ++ (List.range D).map (fun q => c (0 + q))) ++ List.replicate (0) 48) ++ [46]) ++ List.replicate (0) 48) ++ (List.range (nd - D)).map (fun q => c (D + 0 + q))) ++ List.replicate 0 48) := by
  refine calls_of_wp Tryd.func33 rfl ?_
  have h0 := has_eight (β := bn [g]) (.v v) (vb false) (.s 0 0 32 32) (vi ↑D) (vi ↑nd) (vi ((nd - D : Nat) : Int)) (vo 102) (vb true) 264
  have d0 : (⟨#[v, .bool false, (.slice (some ⟨g, 0, none⟩) 32 32), .int .i64 ↑D, .int .i64 ↑nd, .int .i64 ((nd - D : Nat) : Int), .int .u8 102, .bool true] ++ Array.replicate 264 undef, []⟩ : Act).defers = [] := rfl
  refine wp_seq (wp_region ?_)
  refine oP 272 [] [0] [(0, .v v), (1, vb false), (2, .s 0 0 32 32), (3, vi ↑D), (4, vi ↑nd), (5, vi ((nd - D : Nat) : Int)), (6, vo 102), (7, vb true), (16, .v (Value.slice none 0 0))] h0 d0 (fun a1 h1 d1 => ?_)
  clear h0 d0
  show Code.wp _ _ _ _ _
  refine wp_seq ?_
  refine wp_seq (wp_region ?_)
  refine oP 272 [3, 4, 5] [0, 1, 2] [(0, .v v), (1, vb false), (2, .s 0 0 32 32), (3, vi ↑D), (4, vi ↑nd), (5, vi ((nd - D : Nat) : Int)), (6, vo 102), (7, vb true), (16, .v (Value.slice none 0 0)), (31, vo 102), (32, vb false), (33, vb false)] h1 d1 (fun a2 h2 d2 => ?_)
  clear h1 d1
  refine guard_ops (N := 272) (T := TT) (M := (fun _ _ => none)) tabOk (i := 3) (d := 34) (j := 2) (dj := 33) (b := false) (s := vo 102) (l := [4, 5]) (fun _ _ _ h => by cases h) rfl rfl rfl rfl rfl (by decide) h2 (by kernel_rfl) (fun a3 h3 d3 => ?_)
  replace d3 := d3.trans d2
  clear h2 d2
  refine guard_ops (N := 272) (T := TT) (M := (fun _ _ => none)) tabOk (i := 4) (d := 35) (j := 2) (dj := 33) (b := false) (s := vb false) (l := [5]) (fun _ _ _ h => by cases h) rfl rfl rfl rfl rfl (by decide) h3 (by kernel_rfl) (fun a4 h4 d4 => ?_)
  replace d4 := d4.trans d3
  clear h3 d3
  refine gW (s := vb false) 272 [] h4 d4 rfl (want_ rfl) rfl (by decide) (op_pickF rfl (h4.2 33 _ rfl) (h4.2 35 _ rfl)) (fun a5 h5 d5 => ?_)
  clear h4 d4
  show Code.wp _ _ _ _ _
  refine wp_cond_false (h5.2 36 _ rfl) ?_
  refine wp_skip ?_
  show Code.wp _ _ _ _ _
  refine wp_seq ?_
  refine wp_seq (wp_region ?_)
  refine oP 272 [] [0] [(0, .v v), (1, vb false), (2, .s 0 0 32 32), (3, vi ↑D), (4, vi ↑nd), (5, vi ((nd - D : Nat) : Int)), (6, vo 102), (7, vb true), (16, .v (Value.slice none 0 0)), (31, vo 102), (32, vb false), (33, vb false), (34, vo 102), (35, vb false), (36, vb false), (74, vo 102)] h5 d5 (fun a6 h6 d6 => ?_)
  clear h5 d5
  show Code.wp _ _ _ _ _
  refine wp_block ?_
  refine wp_seq ?_
  refine wp_seq (wp_region ?_)
  refine oP 272 [] [0, 1] [(0, .v v), (1, vb false), (2, .s 0 0 32 32), (3, vi ↑D), (4, vi ↑nd), (5, vi ((nd - D : Nat) : Int)), (6, vo 102), (7, vb true), (16, .v (Value.slice none 0 0)), (31, vo 102), (32, vb false), (33, vb false), (34, vo 102), (35, vb false), (36, vb false), (74, vo 102), (75, vb false)] h6 d6 (fun a7 h7 d7 => ?_)
  clear h6 d6
  show Code.wp _ _ _ _ _
  refine wp_cond_false (h7.2 75 _ rfl) ?_
  refine wp_region ?_
  refine oP 272 [] [0, 1] [(0, .v v), (1, vb false), (2, .s 0 0 32 32), (3, vi ↑D), (4, vi ↑nd), (5, vi ((nd - D : Nat) : Int)), (6, vo 102), (7, vb true), (16, .v (Value.slice none 0 0)), (31, vo 102), (32, vb false), (33, vb false), (34, vo 102), (35, vb false), (36, vb false), (74, vo 102), (75, vb false)] h7 d7 (fun a8 h8 d8 => ?_)
  clear h7 d7
  show Code.wp _ _ _ _ _
  refine wp_cond_false (h8.2 75 _ rfl) ?_
  refine wp_seq (wp_region ?_)
  refine oP 272 [] [0, 1] [(0, .v v), (1, vb false), (2, .s 0 0 32 32), (3, vi ↑D), (4, vi ↑nd), (5, vi ((nd - D : Nat) : Int)), (6, vo 102), (7, vb true), (16, .v (Value.slice none 0 0)), (31, vo 102), (32, vb false), (33, vb false), (34, vo 102), (35, vb false), (36, vb false), (74, vo 102), (75, vb false), (176, vb true)] h8 d8 (fun a9 h9 d9 => ?_)
  clear h8 d8
  show Code.wp _ _ _ _ _
  refine wp_cond_true (h9.2 176 _ rfl) ?_
  refine wp_seq ?_
  refine wp_seq (wp_region ?_)
  refine oP 272 [] [0] [(0, .v v), (1, vb false), (2, .s 0 0 32 32), (3, vi ↑D), (4, vi ↑nd), (5, vi ((nd - D : Nat) : Int)), (6, vo 102), (7, vb true), (16, .v (Value.slice none 0 0)), (31, vo 102), (32, vb false), (33, vb false), (34, vo 102), (35, vb false), (36, vb false), (74, vo 102), (75, vb false), (176, vb true), (178, vb false)] h9 d9 (fun a10 h10 d10 => ?_)
  clear h9 d9
  show Code.wp _ _ _ _ _
  refine wp_cond_false (h10.2 178 _ rfl) ?_
  refine wp_skip ?_
  show Code.wp _ _ _ _ _
  show Code.wp Tryd.prog efT _ _ _
  refine efT2 g m c n hn hc D nd h1 h2 hnd w0 _ _ l D0 (by (try simp); omega) a10 (sub_ok (E := [(0, .v v), (2, .s 0 0 32 32), (3, vi ↑D), (4, vi ↑nd), (5, vi ((nd - D : Nat) : Int))]) h10 sE) d10 (fun a v' W' D h d => ?_)
  refine wp_ret ?_
  exact ⟨d, _, results_tmp rfl _ _ _, v', congrArg Ending.returned (h.2 16 _ rfl), D⟩
set_option maxHeartbeats 8000000 in
set_option maxRecDepth 100000 in
theorem efg2true_walk (g : Nat) (m : Nat → Value) (hb : Bool) (c : Nat → Int) (n : Nat) (hn : n ≤ 32) (hc : ∀ i, i < n → m i = .int .u8 (c i)) (D nd : Nat) (h1 : 0 < D) (h2 : D < nd) (hnd : nd ≤ n) (w0 W : World) (v : Value) (l : List Int) (D0 : DS g m true w0 W v l) (hl : l.length < 1000) :
    Calls Tryd.prog 33 #[v, .bool true, (.slice (some ⟨g, 0, none⟩) 32 32), .int .i64 ↑D, .int .i64 ↑nd, .int .i64 ((nd - D : Nat) : Int), .int .u8 102, .bool true] W fun e w' => ∃ v', e = .returned v' ∧ DS g m true w0 w' v' (((((((l ++ [45]) ++ (List.range D).map (fun q => c (0 + q))) ++ List.replicate (0) 48) ++ [46]) ++ List.replicate (0) 48) ++ (List.range (nd - D)).map (fun q => c (D + 0 + q))) ++ List.replicate 0 48) := by
  refine calls_of_wp Tryd.func33 rfl ?_
  have h0 := has_eight (β := bn [g]) (.v v) (vb true) (.s 0 0 32 32) (vi ↑D) (vi ↑nd) (vi ((nd - D : Nat) : Int)) (vo 102) (vb true) 264
  have d0 : (⟨#[v, .bool true, (.slice (some ⟨g, 0, none⟩) 32 32), .int .i64 ↑D, .int .i64 ↑nd, .int .i64 ((nd - D : Nat) : Int), .int .u8 102, .bool true] ++ Array.replicate 264 undef, []⟩ : Act).defers = [] := rfl
  refine wp_seq (wp_region ?_)
  refine oP 272 [] [0] [(0, .v v), (1, vb true), (2, .s 0 0 32 32), (3, vi ↑D), (4, vi ↑nd), (5, vi ((nd - D : Nat) : Int)), (6, vo 102), (7, vb true), (16, .v (Value.slice none 0 0))] h0 d0 (fun a1 h1 d1 => ?_)
  clear h0 d0
  show Code.wp _ _ _ _ _
  refine wp_seq ?_
  refine wp_seq (wp_region ?_)
  refine oP 272 [3, 4, 5] [0, 1, 2] [(0, .v v), (1, vb true), (2, .s 0 0 32 32), (3, vi ↑D), (4, vi ↑nd), (5, vi ((nd - D : Nat) : Int)), (6, vo 102), (7, vb true), (16, .v (Value.slice none 0 0)), (31, vo 102), (32, vb false), (33, vb false)] h1 d1 (fun a2 h2 d2 => ?_)
  clear h1 d1
  refine guard_ops (N := 272) (T := TT) (M := (fun _ _ => none)) tabOk (i := 3) (d := 34) (j := 2) (dj := 33) (b := false) (s := vo 102) (l := [4, 5]) (fun _ _ _ h => by cases h) rfl rfl rfl rfl rfl (by decide) h2 (by kernel_rfl) (fun a3 h3 d3 => ?_)
  replace d3 := d3.trans d2
  clear h2 d2
  refine guard_ops (N := 272) (T := TT) (M := (fun _ _ => none)) tabOk (i := 4) (d := 35) (j := 2) (dj := 33) (b := false) (s := vb false) (l := [5]) (fun _ _ _ h => by cases h) rfl rfl rfl rfl rfl (by decide) h3 (by kernel_rfl) (fun a4 h4 d4 => ?_)
  replace d4 := d4.trans d3
  clear h3 d3
  refine gW (s := vb false) 272 [] h4 d4 rfl (want_ rfl) rfl (by decide) (op_pickF rfl (h4.2 33 _ rfl) (h4.2 35 _ rfl)) (fun a5 h5 d5 => ?_)
  clear h4 d4
  show Code.wp _ _ _ _ _
  refine wp_cond_false (h5.2 36 _ rfl) ?_
  refine wp_skip ?_
  show Code.wp _ _ _ _ _
  refine wp_seq ?_
  refine wp_seq (wp_region ?_)
  refine oP 272 [] [0] [(0, .v v), (1, vb true), (2, .s 0 0 32 32), (3, vi ↑D), (4, vi ↑nd), (5, vi ((nd - D : Nat) : Int)), (6, vo 102), (7, vb true), (16, .v (Value.slice none 0 0)), (31, vo 102), (32, vb false), (33, vb false), (34, vo 102), (35, vb false), (36, vb false), (74, vo 102)] h5 d5 (fun a6 h6 d6 => ?_)
  clear h5 d5
  show Code.wp _ _ _ _ _
  refine wp_block ?_
  refine wp_seq ?_
  refine wp_seq (wp_region ?_)
  refine oP 272 [] [0, 1] [(0, .v v), (1, vb true), (2, .s 0 0 32 32), (3, vi ↑D), (4, vi ↑nd), (5, vi ((nd - D : Nat) : Int)), (6, vo 102), (7, vb true), (16, .v (Value.slice none 0 0)), (31, vo 102), (32, vb false), (33, vb false), (34, vo 102), (35, vb false), (36, vb false), (74, vo 102), (75, vb false)] h6 d6 (fun a7 h7 d7 => ?_)
  clear h6 d6
  show Code.wp _ _ _ _ _
  refine wp_cond_false (h7.2 75 _ rfl) ?_
  refine wp_region ?_
  refine oP 272 [] [0, 1] [(0, .v v), (1, vb true), (2, .s 0 0 32 32), (3, vi ↑D), (4, vi ↑nd), (5, vi ((nd - D : Nat) : Int)), (6, vo 102), (7, vb true), (16, .v (Value.slice none 0 0)), (31, vo 102), (32, vb false), (33, vb false), (34, vo 102), (35, vb false), (36, vb false), (74, vo 102), (75, vb false)] h7 d7 (fun a8 h8 d8 => ?_)
  clear h7 d7
  show Code.wp _ _ _ _ _
  refine wp_cond_false (h8.2 75 _ rfl) ?_
  refine wp_seq (wp_region ?_)
  refine oP 272 [] [0, 1] [(0, .v v), (1, vb true), (2, .s 0 0 32 32), (3, vi ↑D), (4, vi ↑nd), (5, vi ((nd - D : Nat) : Int)), (6, vo 102), (7, vb true), (16, .v (Value.slice none 0 0)), (31, vo 102), (32, vb false), (33, vb false), (34, vo 102), (35, vb false), (36, vb false), (74, vo 102), (75, vb false), (176, vb true)] h8 d8 (fun a9 h9 d9 => ?_)
  clear h8 d8
  show Code.wp _ _ _ _ _
  refine wp_cond_true (h9.2 176 _ rfl) ?_
  refine wp_seq ?_
  refine wp_seq (wp_region ?_)
  refine oP 272 [] [0] [(0, .v v), (1, vb true), (2, .s 0 0 32 32), (3, vi ↑D), (4, vi ↑nd), (5, vi ((nd - D : Nat) : Int)), (6, vo 102), (7, vb true), (16, .v (Value.slice none 0 0)), (31, vo 102), (32, vb false), (33, vb false), (34, vo 102), (35, vb false), (36, vb false), (74, vo 102), (75, vb false), (176, vb true), (178, vb true)] h9 d9 (fun a10 h10 d10 => ?_)
  clear h9 d9
  show Code.wp _ _ _ _ _
  refine wp_cond_true (h10.2 178 _ rfl) ?_
  refine wp_region ?_
  refine oP 272 [1, 2, 3] [0] [(0, .v v), (1, vb true), (2, .s 0 0 32 32), (3, vi ↑D), (4, vi ↑nd), (5, vi ((nd - D : Nat) : Int)), (6, vo 102), (7, vb true), (16, .v (Value.slice none 0 0)), (31, vo 102), (32, vb false), (33, vb false), (34, vo 102), (35, vb false), (36, vb false), (74, vo 102), (75, vb false), (176, vb true), (178, vb true), (179, .v v)] h10 d10 (fun a11 h11 d11 => ?_)
  clear h10 d10
  refine push_ops (N := 272) (i := 1) (j := 2) (d1 := 180) (d2 := 181) (ts := 179) (x := 45) (rest := [3]) D0 (by (try simp); omega) h11 rfl rfl rfl (by decide) rfl rfl rfl rfl rfl (by decide) rfl rfl rfl (fun v12 W12 a12 D12 h12 d12 => ?_)
  replace d12 := d12.trans d11
  clear h11 d11
  refine oP 272 [] [3] [(0, .v v12), (1, vb true), (2, .s 0 0 32 32), (3, vi ↑D), (4, vi ↑nd), (5, vi ((nd - D : Nat) : Int)), (6, vo 102), (7, vb true), (16, .v (Value.slice none 0 0)), (31, vo 102), (32, vb false), (33, vb false), (34, vo 102), (35, vb false), (36, vb false), (74, vo 102), (75, vb false), (176, vb true), (178, vb true)] h12 d12 (fun a13 h13 d13 => ?_)
  clear h12 d12
  show Code.wp _ _ _ _ _
  show Code.wp Tryd.prog efT _ _ _
  refine efT2 g m c n hn hc D nd h1 h2 hnd w0 _ _ (l ++ [45]) D12 (by (try simp); omega) a13 (sub_ok (E := [(0, .v v12), (2, .s 0 0 32 32), (3, vi ↑D), (4, vi ↑nd), (5, vi ((nd - D : Nat) : Int))]) h13 sE) d13 (fun a v' W' D h d => ?_)
  refine wp_ret ?_
  exact ⟨d, _, results_tmp rfl _ _ _, v', congrArg Ending.returned (h.2 16 _ rfl), by simpa using D⟩
set_option maxHeartbeats 8000000 in
set_option maxRecDepth 100000 in
theorem efT3 {Q : Exit → Act → World → Prop} (g : Nat) (m : Nat → Value) (c : Nat → Int) (n : Nat) (hn : n ≤ 32) (hc : ∀ i, i < n → m i = .int .u8 (c i)) (D nd : Nat) (h1 : 0 < nd) (hnd : nd ≤ n) (hD : D < 100) (w0 W : World) (v : Value) (l : List Int) (D0 : DS g m true w0 W v l) (hl : l.length < 2000) (a0 : Act) (h0 : Has 272 (bn [g]) [(0, .v v), (2, .s 0 0 32 32), (3, vi (-((D : Nat) : Int))), (4, vi ↑nd), (5, vi ((nd + D : Nat) : Int))] a0) (d0 : a0.defers = [])
    (hret : ∀ (a : Act) (v' : Value) (W' : World), DS g m true w0 W' v' (((((l ++ [48]) ++ [46]) ++ List.replicate (D) 48) ++ (List.range (nd)).map (fun q => c (0 + 0 + q))) ++ List.replicate 0 48) → Has 272 (bn [g]) [(16, .v v')] a → a.defers = [] → Code.wp Tryd.prog .ret Q a W') : Code.wp Tryd.prog efT Q a0 W := by
  refine wp_seq ?_
  refine wp_seq (wp_region ?_)
  refine oP 272 [] [0, 1] [(0, .v v), (2, .s 0 0 32 32), (3, vi (-((D : Nat) : Int))), (4, vi ↑nd), (5, vi ((nd + D : Nat) : Int)), (183, vb (decide (((-((D : Nat) : Int)) : Int) > 0)))] h0 d0 (fun a1 h1 d1 => ?_)
  clear h0 d0
  rw [show (decide (((-((D : Nat) : Int)) : Int) > 0)) = false from decide_eq_false (by omega)] at h1
  show Code.wp _ _ _ _ _
  refine wp_cond_false (h1.2 183 _ rfl) ?_
  refine wp_region ?_
  refine oP 272 [1, 2, 3] [0] [(0, .v v), (2, .s 0 0 32 32), (3, vi (-((D : Nat) : Int))), (4, vi ↑nd), (5, vi ((nd + D : Nat) : Int)), (183, vb false), (209, .v v)] h1 d1 (fun a2 h2 d2 => ?_)
  clear h1 d1
  refine push_ops (N := 272) (i := 1) (j := 2) (d1 := 210) (d2 := 211) (ts := 209) (x := 48) (rest := [3]) D0 (by (try simp); omega) h2 rfl rfl rfl (by decide) rfl rfl rfl rfl rfl (by decide) rfl rfl rfl (fun v3 W3 a3 D3 h3 d3 => ?_)
  replace d3 := d3.trans d2
  clear h2 d2
  refine oP 272 [] [3] [(0, .v v3), (2, .s 0 0 32 32), (3, vi (-((D : Nat) : Int))), (4, vi ↑nd), (5, vi ((nd + D : Nat) : Int)), (183, vb false)] h3 d3 (fun a4 h4 d4 => ?_)
  clear h3 d3
  show Code.wp _ _ _ _ _
  refine wp_seq ?_
  refine wp_seq (wp_region ?_)
  refine oP 272 [] [0, 1] [(0, .v v3), (2, .s 0 0 32 32), (3, vi (-((D : Nat) : Int))), (4, vi ↑nd), (5, vi ((nd + D : Nat) : Int)), (183, vb false), (213, vb (decide ((((nd + D : Nat) : Int) : Int) > 0)))] h4 d4 (fun a5 h5 d5 => ?_)
  clear h4 d4
  rw [show (decide ((((nd + D : Nat) : Int) : Int) > 0)) = true from decide_eq_true (by omega)] at h5
  show Code.wp _ _ _ _ _
  refine wp_cond_true (h5.2 213 _ rfl) ?_
  refine wp_seq (wp_region ?_)
  refine oP 272 [1, 2, 3] [0] [(0, .v v3), (2, .s 0 0 32 32), (3, vi (-((D : Nat) : Int))), (4, vi ↑nd), (5, vi ((nd + D : Nat) : Int)), (183, vb false), (213, vb true), (214, .v v3)] h5 d5 (fun a6 h6 d6 => ?_)
  clear h5 d5
  refine push_ops (N := 272) (i := 1) (j := 2) (d1 := 215) (d2 := 216) (ts := 214) (x := 46) (rest := [3]) D3 (by (try simp); omega) h6 rfl rfl rfl (by decide) rfl rfl rfl rfl rfl (by decide) rfl rfl rfl (fun v7 W7 a7 D7 h7 d7 => ?_)
  replace d7 := d7.trans d6
  clear h6 d6
  refine oP 272 [] [3] [(0, .v v7), (2, .s 0 0 32 32), (3, vi (-((D : Nat) : Int))), (4, vi ↑nd), (5, vi ((nd + D : Nat) : Int)), (183, vb false), (213, vb true)] h7 d7 (fun a8 h8 d8 => ?_)
  clear h7 d7
  show Code.wp _ _ _ _ _
  refine wp_seq (wp_region ?_)
  refine oP 272 [2, 3, 4, 5] [0, 1] [(0, .v v7), (2, .s 0 0 32 32), (3, vi (-((D : Nat) : Int))), (4, vi ↑nd), (5, vi ((nd + D : Nat) : Int)), (183, vb false), (213, vb true), (217, vi ((nd + D : Nat) : Int)), (218, vi (-((D : Nat) : Int)))] h8 d8 (fun a9 h9 d9 => ?_)
  clear h8 d8
  refine oP 272 [3, 4, 5] [2] [(0, .v v7), (2, .s 0 0 32 32), (3, vi (-((D : Nat) : Int))), (4, vi ↑nd), (5, vi ((nd + D : Nat) : Int)), (183, vb false), (213, vb true), (217, vi ((nd + D : Nat) : Int)), (218, vi (-((D : Nat) : Int))), (219, vi (IntKind.i64.wrap (0 - (-((D : Nat) : Int)))))] h9 d9 (fun a10 h10 d10 => ?_)
  clear h9 d9
  rw [show (IntKind.i64.wrap (0 - (-((D : Nat) : Int)))) = ((D : Nat) : Int) from by rw [IntKind.wrap_i64]; omega] at h10
  refine gW (s := vi ↑D) 272 [4, 5] h10 d10 rfl (want_ rfl) rfl (by decide) ((op_max rfl rfl (h10.2 219 _ rfl)).trans (by rw [show (if 0 < ((D : Nat) : Int) then ((D : Nat) : Int) else 0) = ((D : Nat) : Int) from by split <;> omega]; rfl)) (fun a11 h11 d11 => ?_)
  clear h10 d10
  refine gW (s := vi ↑D) 272 [5] h11 d11 rfl (want_ rfl) rfl (by decide) ((op_min rfl (h11.2 217 _ rfl) (h11.2 220 _ rfl)).trans (by rw [show (if ((D : Nat) : Int) < ((nd + D : Nat) : Int) then ((D : Nat) : Int) else ((nd + D : Nat) : Int)) = ((D : Nat) : Int) from by split <;> omega]; rfl)) (fun a12 h12 d12 => ?_)
  clear h11 d11
  refine oP 272 [] [5] [(0, .v v7), (2, .s 0 0 32 32), (3, vi (-((D : Nat) : Int))), (4, vi ↑nd), (5, vi ((nd + D : Nat) : Int)), (26, vi ↑D), (183, vb false), (213, vb true)] h12 d12 (fun a13 h13 d13 => ?_)
  clear h12 d12
  show Code.wp _ _ _ _ _
  refine wp_seq (wp_region ?_)
  refine oP 272 [2, 3] [0, 1] [(0, .v v7), (2, .s 0 0 32 32), (3, vi (-((D : Nat) : Int))), (4, vi ↑nd), (5, vi ((nd + D : Nat) : Int)), (26, vi ↑D), (183, vb false), (213, vb true), (222, vi (-((D : Nat) : Int))), (223, vi ↑D)] h13 d13 (fun a14 h14 d14 => ?_)
  clear h13 d13
  refine oP 272 [3] [2] [(0, .v v7), (2, .s 0 0 32 32), (3, vi (-((D : Nat) : Int))), (4, vi ↑nd), (5, vi ((nd + D : Nat) : Int)), (26, vi ↑D), (183, vb false), (213, vb true), (222, vi (-((D : Nat) : Int))), (223, vi ↑D), (224, vi (IntKind.i64.wrap ((-((D : Nat) : Int)) + ((D : Nat) : Int))))] h14 d14 (fun a15 h15 d15 => ?_)
  clear h14 d14
  rw [show (IntKind.i64.wrap ((-((D : Nat) : Int)) + ((D : Nat) : Int))) = ((0 : Nat) : Int) from by rw [IntKind.wrap_i64]; omega] at h15
  refine oP 272 [] [3] [(0, .v v7), (2, .s 0 0 32 32), (3, vi (-((D : Nat) : Int))), (4, vi ↑nd), (5, vi ((nd + D : Nat) : Int)), (26, vi ↑D), (27, vi ((0 : Nat) : Int)), (183, vb false), (213, vb true)] h15 d15 (fun a16 h16 d16 => ?_)
  clear h15 d15
  show Code.wp _ _ _ _ _
  refine wp_seq (wp_region ?_)
  refine oP 272 [2, 3, 4, 5, 6, 7, 8] [0, 1] [(0, .v v7), (2, .s 0 0 32 32), (3, vi (-((D : Nat) : Int))), (4, vi ↑nd), (5, vi ((nd + D : Nat) : Int)), (26, vi ↑D), (27, vi ((0 : Nat) : Int)), (183, vb false), (213, vb true), (225, vi ((nd + D : Nat) : Int)), (226, vi ↑D)] h16 d16 (fun a17 h17 d17 => ?_)
  clear h16 d16
  refine oP 272 [3, 4, 5, 6, 7, 8] [2] [(0, .v v7), (2, .s 0 0 32 32), (3, vi (-((D : Nat) : Int))), (4, vi ↑nd), (5, vi ((nd + D : Nat) : Int)), (26, vi ↑D), (27, vi ((0 : Nat) : Int)), (183, vb false), (213, vb true), (225, vi ((nd + D : Nat) : Int)), (226, vi ↑D), (227, vi (IntKind.i64.wrap (((nd + D : Nat) : Int) - ((D : Nat) : Int))))] h17 d17 (fun a18 h18 d18 => ?_)
  clear h17 d17
  rw [show (IntKind.i64.wrap (((nd + D : Nat) : Int) - ((D : Nat) : Int))) = ((nd : Nat) : Int) from by rw [IntKind.wrap_i64]; omega] at h18
  refine oP 272 [5, 6, 7, 8] [3, 4] [(0, .v v7), (2, .s 0 0 32 32), (3, vi (-((D : Nat) : Int))), (4, vi ↑nd), (5, vi ((nd + D : Nat) : Int)), (26, vi ↑D), (27, vi ((0 : Nat) : Int)), (183, vb false), (213, vb true), (225, vi ((nd + D : Nat) : Int)), (226, vi ↑D), (227, vi ↑nd), (228, vi ↑nd), (229, vi ((0 : Nat) : Int))] h18 d18 (fun a19 h19 d19 => ?_)
  clear h18 d18
  refine oP 272 [6, 7, 8] [5] [(0, .v v7), (2, .s 0 0 32 32), (3, vi (-((D : Nat) : Int))), (4, vi ↑nd), (5, vi ((nd + D : Nat) : Int)), (26, vi ↑D), (27, vi ((0 : Nat) : Int)), (183, vb false), (213, vb true), (225, vi ((nd + D : Nat) : Int)), (226, vi ↑D), (227, vi ↑nd), (228, vi ↑nd), (229, vi ((0 : Nat) : Int)), (230, vi (IntKind.i64.wrap (((nd : Nat) : Int) - ((0 : Nat) : Int))))] h19 d19 (fun a20 h20 d20 => ?_)
  clear h19 d19
  rw [show (IntKind.i64.wrap (((nd : Nat) : Int) - ((0 : Nat) : Int))) = ((nd : Nat) : Int) from by rw [IntKind.wrap_i64]; omega] at h20
  refine gW (s := vi ↑nd) 272 [7, 8] h20 d20 rfl (want_ rfl) rfl (by decide) ((op_max rfl rfl (h20.2 230 _ rfl)).trans (by rw [show (if 0 < ((nd : Nat) : Int) then ((nd : Nat) : Int) else 0) = ((nd : Nat) : Int) from by split <;> omega]; rfl)) (fun a21 h21 d21 => ?_)
  clear h20 d20
  refine gW (s := vi ↑nd) 272 [8] h21 d21 rfl (want_ rfl) rfl (by decide) ((op_min rfl (h21.2 227 _ rfl) (h21.2 231 _ rfl)).trans (by rw [show (if ((nd : Nat) : Int) < ((nd : Nat) : Int) then ((nd : Nat) : Int) else ((nd : Nat) : Int)) = ((nd : Nat) : Int) from by split <;> omega]; rfl)) (fun a22 h22 d22 => ?_)
  clear h21 d21
  refine oP 272 [] [8] [(0, .v v7), (2, .s 0 0 32 32), (3, vi (-((D : Nat) : Int))), (4, vi ↑nd), (5, vi ((nd + D : Nat) : Int)), (26, vi ↑D), (27, vi ((0 : Nat) : Int)), (28, vi ↑nd), (183, vb false), (213, vb true)] h22 d22 (fun a23 h23 d23 => ?_)
  clear h22 d22
  show Code.wp _ _ _ _ _
  refine wp_seq (wp_region ?_)
  refine oP 272 [2, 3, 4, 5, 6] [0, 1] [(0, .v v7), (2, .s 0 0 32 32), (3, vi (-((D : Nat) : Int))), (4, vi ↑nd), (5, vi ((nd + D : Nat) : Int)), (26, vi ↑D), (27, vi ((0 : Nat) : Int)), (28, vi ↑nd), (183, vb false), (213, vb true), (233, vi ((nd + D : Nat) : Int)), (234, vi ↑D)] h23 d23 (fun a24 h24 d24 => ?_)
  clear h23 d23
  refine oP 272 [3, 4, 5, 6] [2] [(0, .v v7), (2, .s 0 0 32 32), (3, vi (-((D : Nat) : Int))), (4, vi ↑nd), (5, vi ((nd + D : Nat) : Int)), (26, vi ↑D), (27, vi ((0 : Nat) : Int)), (28, vi ↑nd), (183, vb false), (213, vb true), (233, vi ((nd + D : Nat) : Int)), (234, vi ↑D), (235, vi (IntKind.i64.wrap (((nd + D : Nat) : Int) - ((D : Nat) : Int))))] h24 d24 (fun a25 h25 d25 => ?_)
  clear h24 d24
  rw [show (IntKind.i64.wrap (((nd + D : Nat) : Int) - ((D : Nat) : Int))) = ((nd : Nat) : Int) from by rw [IntKind.wrap_i64]; omega] at h25
  refine oP 272 [4, 5, 6] [3] [(0, .v v7), (2, .s 0 0 32 32), (3, vi (-((D : Nat) : Int))), (4, vi ↑nd), (5, vi ((nd + D : Nat) : Int)), (26, vi ↑D), (27, vi ((0 : Nat) : Int)), (28, vi ↑nd), (183, vb false), (213, vb true), (233, vi ((nd + D : Nat) : Int)), (234, vi ↑D), (235, vi ↑nd), (236, vi ↑nd)] h25 d25 (fun a26 h26 d26 => ?_)
  clear h25 d25
  refine oP 272 [5, 6] [4] [(0, .v v7), (2, .s 0 0 32 32), (3, vi (-((D : Nat) : Int))), (4, vi ↑nd), (5, vi ((nd + D : Nat) : Int)), (26, vi ↑D), (27, vi ((0 : Nat) : Int)), (28, vi ↑nd), (183, vb false), (213, vb true), (233, vi ((nd + D : Nat) : Int)), (234, vi ↑D), (235, vi ↑nd), (236, vi ↑nd), (237, vi (IntKind.i64.wrap (((nd : Nat) : Int) - ((nd : Nat) : Int))))] h26 d26 (fun a27 h27 d27 => ?_)
  clear h26 d26
  rw [show (IntKind.i64.wrap (((nd : Nat) : Int) - ((nd : Nat) : Int))) = ((0 : Nat) : Int) from by rw [IntKind.wrap_i64]; omega] at h27
  refine gW (s := vi ((0 : Nat) : Int)) 272 [6] h27 d27 rfl (want_ rfl) rfl (by decide) ((op_max rfl rfl (h27.2 237 _ rfl)).trans (by rw [show (if 0 < ((0 : Nat) : Int) then ((0 : Nat) : Int) else 0) = ((0 : Nat) : Int) from by split <;> omega]; rfl)) (fun a28 h28 d28 => ?_)
  clear h27 d27
  refine oP 272 [] [6] [(0, .v v7), (2, .s 0 0 32 32), (3, vi (-((D : Nat) : Int))), (4, vi ↑nd), (5, vi ((nd + D : Nat) : Int)), (26, vi ↑D), (27, vi ((0 : Nat) : Int)), (28, vi ↑nd), (29, vi ((0 : Nat) : Int)), (183, vb false), (213, vb true)] h28 d28 (fun a29 h29 d29 => ?_)
  clear h28 d28
  show Code.wp _ _ _ _ _
  refine wp_seq ?_
  refine wp_seq (wp_region ?_)
  refine oP 272 [] [0, 1] [(0, .v v7), (2, .s 0 0 32 32), (3, vi (-((D : Nat) : Int))), (4, vi ↑nd), (5, vi ((nd + D : Nat) : Int)), (26, vi ↑D), (27, vi ((0 : Nat) : Int)), (28, vi ↑nd), (29, vi ((0 : Nat) : Int)), (183, vb false), (213, vb true), (239, vi ↑D), (240, vi 0)] h29 d29 (fun a30 h30 d30 => ?_)
  clear h29 d29
  show Code.wp _ _ _ _ _
  refine wp_block ?_
  refine wp_loop_rounds (D + 1) ?_
  refine ef74 g m w0 (.s 0 0 32 32) (vi ((0 : Nat) : Int)) (vi ↑nd) (vi ((0 : Nat) : Int)) (D) (by omega) (D) 0 (by omega) a30 _ _ _ D7 (by (try simp); omega) (sub_ok (E := [(0, .v v7), (2, .s 0 0 32 32), (27, vi ((0 : Nat) : Int)), (28, vi ↑nd), (29, vi ((0 : Nat) : Int)), (239, vi ↑D), (240, vi ((0 : Nat) : Int))]) h30 sE) d30 (fun a31 v31 W31 D31 h31 d31 => ?_)
  refine exit_in ?_
  show Code.wp _ _ _ _ _
  refine wp_seq ?_
  refine wp_seq (wp_region ?_)
  refine oP 272 [] [0, 1] [(0, .v v31), (2, .s 0 0 32 32), (27, vi ((0 : Nat) : Int)), (28, vi ↑nd), (29, vi ((0 : Nat) : Int)), (246, vi ↑nd), (247, vi 0)] h31 d31 (fun a32 h32 d32 => ?_)
  clear h31 d31
  show Code.wp _ _ _ _ _
  refine wp_block ?_
  refine wp_loop_rounds (nd + 1) ?_
  refine ef78 g m w0 (vi ((0 : Nat) : Int)) (nd) (by omega) c n hn hc (0) (by omega) (nd) 0 (by omega) a32 _ _ _ D31 (by (try simp); omega) (sub_ok (E := [(0, .v v31), (2, .s 0 0 32 32), (27, vi ((0 : Nat) : Int)), (29, vi ((0 : Nat) : Int)), (246, vi ↑nd), (247, vi ((0 : Nat) : Int))]) h32 sE) d32 (fun a33 v33 W33 D33 h33 d33 => ?_)
  refine exit_in ?_
  show Code.wp _ _ _ _ _
  refine wp_seq (wp_region ?_)
  refine oP 272 [] [0, 1] [(0, .v v33), (2, .s 0 0 32 32), (27, vi ((0 : Nat) : Int)), (260, vi ((0 : Nat) : Int)), (261, vi 0)] h33 d33 (fun a34 h34 d34 => ?_)
  clear h33 d33
  show Code.wp _ _ _ _ _
  refine wp_block ?_
  refine wp_loop_rounds (0 + 1) ?_
  refine ef83 g m w0  (0) (by omega) (0) 0 (by omega) a34 _ _ _ D33 (by (try simp); omega) (sub_ok (E := [(0, .v v33), (260, vi ((0 : Nat) : Int)), (261, vi ((0 : Nat) : Int))]) h34 sE) d34 (fun a35 v35 W35 D35 h35 d35 => ?_)
  refine exit_in ?_
  show Code.wp _ _ _ _ _
  refine wp_seq (wp_region ?_)
  refine oP 272 [] [0, 1] [(0, .v v35), (16, .v v35)] h35 d35 (fun a36 h36 d36 => ?_)
  clear h35 d35
  show Code.wp _ _ _ _ _
  exact hret a36 v35 W35 D35 (sub_ok (E := [(16, .v v35)]) h36 sE) d36
set_option maxHeartbeats 8000000 in
set_option maxRecDepth 100000 in
theorem efg3false_walk (g : Nat) (m : Nat → Value) (hb : Bool) (c : Nat → Int) (n : Nat) (hn : n ≤ 32) (hc : ∀ i, i < n → m i = .int .u8 (c i)) (D nd : Nat) (h1 : 0 < nd) (hnd : nd ≤ n) (hD : D < 100) (w0 W : World) (v : Value) (l : List Int) (D0 : DS g m true w0 W v l) (hl : l.length < 1000) :
    Calls Tryd.prog 33 #[v, .bool false, (.slice (some ⟨g, 0, none⟩) 32 32), .int .i64 (-((D : Nat) : Int)), .int .i64 ↑nd, .int .i64 ((nd + D : Nat) : Int), .int .u8 102, .bool true] W fun e w' => ∃ v', e = .returned v' ∧ DS g m true w0 w' v' (((((l ++ [48]) ++ [46]) ++ List.replicate (D) 48) ++ (List.range (nd)).map (fun q => c (0 + 0 + q))) ++ List.replicate 0 48) := by
  refine calls_of_wp Tryd.func33 rfl ?_
  have h0 := has_eight (β := bn [g]) (.v v) (vb false) (.s 0 0 32 32) (vi (-((D : Nat) : Int))) (vi ↑nd) (vi ((nd + D : Nat) : Int)) (vo 102) (vb true) 264
  have d0 : (⟨#[v, .bool false, (.slice (some ⟨g, 0, none⟩) 32 32), .int .i64 (-((D : Nat) : Int)), .int .i64 ↑nd, .int .i64 ((nd + D : Nat) : Int), .int .u8 102, .bool true] ++ Array.replicate 264 undef, []⟩ : Act).defers = [] := rfl
  refine wp_seq (wp_region ?_)
  refine oP 272 [] [0] [(0, .v v), (1, vb false), (2, .s 0 0 32 32), (3, vi (-((D : Nat) : Int))), (4, vi ↑nd), (5, vi ((nd + D : Nat) : Int)), (6, vo 102), (7, vb true), (16, .v (Value.slice none 0 0))] h0 d0 (fun a1 h1 d1 => ?_)
  clear h0 d0
  show Code.wp _ _ _ _ _
  refine wp_seq ?_
  refine wp_seq (wp_region ?_)
  refine oP 272 [3, 4, 5] [0, 1, 2] [(0, .v v), (1, vb false), (2, .s 0 0 32 32), (3, vi (-((D : Nat) : Int))), (4, vi ↑nd), (5, vi ((nd + D : Nat) : Int)), (6, vo 102), (7, vb true), (16, .v (Value.slice none 0 0)), (31, vo 102), (32, vb false), (33, vb false)] h1 d1 (fun a2 h2 d2 => ?_)
  clear h1 d1
  refine guard_ops (N := 272) (T := TT) (M := (fun _ _ => none)) tabOk (i := 3) (d := 34) (j := 2) (dj := 33) (b := false) (s := vo 102) (l := [4, 5]) (fun _ _ _ h => by cases h) rfl rfl rfl rfl rfl (by decide) h2 (by kernel_rfl) (fun a3 h3 d3 => ?_)
  replace d3 := d3.trans d2
  clear h2 d2
  refine guard_ops (N := 272) (T := TT) (M := (fun _ _ => none)) tabOk (i := 4) (d := 35) (j := 2) (dj := 33) (b := false) (s := vb false) (l := [5]) (fun _ _ _ h => by cases h) rfl rfl rfl rfl rfl (by decide) h3 (by kernel_rfl) (fun a4 h4 d4 => ?_)
  replace d4 := d4.trans d3
  clear h3 d3
  refine gW (s := vb false) 272 [] h4 d4 rfl (want_ rfl) rfl (by decide) (op_pickF rfl (h4.2 33 _ rfl) (h4.2 35 _ rfl)) (fun a5 h5 d5 => ?_)
  clear h4 d4
  show Code.wp _ _ _ _ _
  refine wp_cond_false (h5.2 36 _ rfl) ?_
  refine wp_skip ?_
  show Code.wp _ _ _ _ _
  refine wp_seq ?_
  refine wp_seq (wp_region ?_)
  refine oP 272 [] [0] [(0, .v v), (1, vb false), (2, .s 0 0 32 32), (3, vi (-((D : Nat) : Int))), (4, vi ↑nd), (5, vi ((nd + D : Nat) : Int)), (6, vo 102), (7, vb true), (16, .v (Value.slice none 0 0)), (31, vo 102), (32, vb false), (33, vb false), (34, vo 102), (35, vb false), (36, vb false), (74, vo 102)] h5 d5 (fun a6 h6 d6 => ?_)
  clear h5 d5
  show Code.wp _ _ _ _ _
  refine wp_block ?_
  refine wp_seq ?_
  refine wp_seq (wp_region ?_)
  refine oP 272 [] [0, 1] [(0, .v v), (1, vb false), (2, .s 0 0 32 32), (3, vi (-((D : Nat) : Int))), (4, vi ↑nd), (5, vi ((nd + D : Nat) : Int)), (6, vo 102), (7, vb true), (16, .v (Value.slice none 0 0)), (31, vo 102), (32, vb false), (33, vb false), (34, vo 102), (35, vb false), (36, vb false), (74, vo 102), (75, vb false)] h6 d6 (fun a7 h7 d7 => ?_)
  clear h6 d6
  show Code.wp _ _ _ _ _
  refine wp_cond_false (h7.2 75 _ rfl) ?_
  refine wp_region ?_
  refine oP 272 [] [0, 1] [(0, .v v), (1, vb false), (2, .s 0 0 32 32), (3, vi (-((D : Nat) : Int))), (4, vi ↑nd), (5, vi ((nd + D : Nat) : Int)), (6, vo 102), (7, vb true), (16, .v (Value.slice none 0 0)), (31, vo 102), (32, vb false), (33, vb false), (34, vo 102), (35, vb false), (36, vb false), (74, vo 102), (75, vb false)] h7 d7 (fun a8 h8 d8 => ?_)
  clear h7 d7
  show Code.wp _ _ _ _ _
  refine wp_cond_false (h8.2 75 _ rfl) ?_
  refine wp_seq (wp_region ?_)
  refine oP 272 [] [0, 1] [(0, .v v), (1, vb false), (2, .s 0 0 32 32), (3, vi (-((D : Nat) : Int))), (4, vi ↑nd), (5, vi ((nd + D : Nat) : Int)), (6, vo 102), (7, vb true), (16, .v (Value.slice none 0 0)), (31, vo 102), (32, vb false), (33, vb false), (34, vo 102), (35, vb false), (36, vb false), (74, vo 102), (75, vb false), (176, vb true)] h8 d8 (fun a9 h9 d9 => ?_)
  clear h8 d8
  show Code.wp _ _ _ _ _
  refine wp_cond_true (h9.2 176 _ rfl) ?_
  refine wp_seq ?_
  refine wp_seq (wp_region ?_)
  refine oP 272 [] [0] [(0, .v v), (1, vb false), (2, .s 0 0 32 32), (3, vi (-((D : Nat) : Int))), (4, vi ↑nd), (5, vi ((nd + D : Nat) : Int)), (6, vo 102), (7, vb true), (16, .v (Value.slice none 0 0)), (31, vo 102), (32, vb false), (33, vb false), (34, vo 102), (35, vb false), (36, vb false), (74, vo 102), (75, vb false), (176, vb true), (178, vb false)] h9 d9 (fun a10 h10 d10 => ?_)
  clear h9 d9
  show Code.wp _ _ _ _ _
  refine wp_cond_false (h10.2 178 _ rfl) ?_
  refine wp_skip ?_
  show Code.wp _ _ _ _ _
  show Code.wp Tryd.prog efT _ _ _
  refine efT3 g m c n hn hc D nd h1 hnd hD w0 _ _ l D0 (by (try simp); omega) a10 (sub_ok (E := [(0, .v v), (2, .s 0 0 32 32), (3, vi (-((D : Nat) : Int))), (4, vi ↑nd), (5, vi ((nd + D : Nat) : Int))]) h10 sE) d10 (fun a v' W' D h d => ?_)
  refine wp_ret ?_
  exact ⟨d, _, results_tmp rfl _ _ _, v', congrArg Ending.returned (h.2 16 _ rfl), D⟩
set_option maxHeartbeats 8000000 in
set_option maxRecDepth 100000 in
theorem efg3true_walk (g : Nat) (m : Nat → Value) (hb : Bool) (c : Nat → Int) (n : Nat) (hn : n ≤ 32) (hc : ∀ i, i < n → m i = .int .u8 (c i)) (D nd : Nat) (h1 : 0 < nd) (hnd : nd ≤ n) (hD : D < 100) (w0 W : World) (v : Value) (l : List Int) (D0 : DS g m true w0 W v l) (hl : l.length < 1000) :
    Calls Tryd.prog 33 #[v, .bool true, (.slice (some ⟨g, 0, none⟩) 32 32), .int .i64 (-((D : Nat) : Int)), .int .i64 ↑nd, .int .i64 ((nd + D : Nat) : Int), .int .u8 102, .bool true] W fun e w' => ∃ v', e = .returned v' ∧ DS g m true w0 w' v' ((((((l ++ [45]) ++ [48]) ++ [46]) ++ List.replicate (D) 48) ++ (List.range (nd)).map (fun q => c (0 + 0 + q))) ++ List.replicate 0 48) := by
  refine calls_of_wp Tryd.func33 rfl ?_
  have h0 := has_eight (β := bn [g]) (.v v) (vb true) (.s 0 0 32 32) (vi (-((D : Nat) : Int))) (vi ↑nd) (vi ((nd + D : Nat) : Int)) (vo 102) (vb true) 264
  have d0 : (⟨#[v, .bool true, (.slice (some ⟨g, 0, none⟩) 32 32), .int .i64 (-((D : Nat) : Int)), .int .i64 ↑nd, .int .i64 ((nd + D : Nat) : Int), .int .u8 102, .bool true] ++ Array.replicate 264 undef, []⟩ : Act).defers = [] := rfl
  refine wp_seq (wp_region ?_)
  refine oP 272 [] [0] [(0, .v v), (1, vb true), (2, .s 0 0 32 32), (3, vi (-((D : Nat) : Int))), (4, vi ↑nd), (5, vi ((nd + D : Nat) : Int)), (6, vo 102), (7, vb true), (16, .v (Value.slice none 0 0))] h0 d0 (fun a1 h1 d1 => ?_)
  clear h0 d0
  show Code.wp _ _ _ _ _
  refine wp_seq ?_
  refine wp_seq (wp_region ?_)
  refine oP 272 [3, 4, 5] [0, 1, 2] [(0, .v v), (1, vb true), (2, .s 0 0 32 32), (3, vi (-((D : Nat) : Int))), (4, vi ↑nd), (5, vi ((nd + D : Nat) : Int)), (6, vo 102), (7, vb true), (16, .v (Value.slice none 0 0)), (31, vo 102), (32, vb false), (33, vb false)] h1 d1 (fun a2 h2 d2 => ?_)
  clear h1 d1
  refine guard_ops (N := 272) (T := TT) (M := (fun _ _ => none)) tabOk (i := 3) (d := 34) (j := 2) (dj := 33) (b := false) (s := vo 102) (l := [4, 5]) (fun _ _ _ h => by cases h) rfl rfl rfl rfl rfl (by decide) h2 (by kernel_rfl) (fun a3 h3 d3 => ?_)
  replace d3 := d3.trans d2
  clear h2 d2
  refine guard_ops (N := 272) (T := TT) (M := (fun _ _ => none)) tabOk (i := 4) (d := 35) (j := 2) (dj := 33) (b := false) (s := vb false) (l := [5]) (fun _ _ _ h => by cases h) rfl rfl rfl rfl rfl (by decide) h3 (by kernel_rfl) (fun a4 h4 d4 => ?_)
  replace d4 := d4.trans d3
  clear h3 d3
  refine gW (s := vb false) 272 [] h4 d4 rfl (want_ rfl) rfl (by decide) (op_pickF rfl (h4.2 33 _ rfl) (h4.2 35 _ rfl)) (fun a5 h5 d5 => ?_)
  clear h4 d4
  show Code.wp _ _ _ _ _
  refine wp_cond_false (h5.2 36 _ rfl) ?_
  refine wp_skip ?_
  show Code.wp _ _ _ _ _
  refine wp_seq ?_
  refine wp_seq (wp_region ?_)
  refine oP 272 [] [0] [(0, .v v), (1, vb true), (2, .s 0 0 32 32), (3, vi (-((D : Nat) : Int))), (4, vi ↑nd), (5, vi ((nd + D : Nat) : Int)), (6, vo 102), (7, vb true), (16, .v (Value.slice none 0 0)), (31, vo 102), (32, vb false), (33, vb false), (34, vo 102), (35, vb false), (36, vb false), (74, vo 102)] h5 d5 (fun a6 h6 d6 => ?_)
  clear h5 d5
  show Code.wp _ _ _ _ _
  refine wp_block ?_
  refine wp_seq ?_
  refine wp_seq (wp_region ?_)
  refine oP 272 [] [0, 1] [(0, .v v), (1, vb true), (2, .s 0 0 32 32), (3, vi (-((D : Nat) : Int))), (4, vi ↑nd), (5, vi ((nd + D : Nat) : Int)), (6, vo 102), (7, vb true), (16, .v (Value.slice none 0 0)), (31, vo 102), (32, vb false), (33, vb false), (34, vo 102), (35, vb false), (36, vb false), (74, vo 102), (75, vb false)] h6 d6 (fun a7 h7 d7 => ?_)
  clear h6 d6
  show Code.wp _ _ _ _ _
  refine wp_cond_false (h7.2 75 _ rfl) ?_
  refine wp_region ?_
  refine oP 272 [] [0, 1] [(0, .v v), (1, vb true), (2, .s 0 0 32 32), (3, vi (-((D : Nat) : Int))), (4, vi ↑nd), (5, vi ((nd + D : Nat) : Int)), (6, vo 102), (7, vb true), (16, .v (Value.slice none 0 0)), (31, vo 102), (32, vb false), (33, vb false), (34, vo 102), (35, vb false), (36, vb false), (74, vo 102), (75, vb false)] h7 d7 (fun a8 h8 d8 => ?_)
  clear h7 d7
  show Code.wp _ _ _ _ _
  refine wp_cond_false (h8.2 75 _ rfl) ?_
  refine wp_seq (wp_region ?_)
  refine oP 272 [] [0, 1] [(0, .v v), (1, vb true), (2, .s 0 0 32 32), (3, vi (-((D : Nat) : Int))), (4, vi ↑nd), (5, vi ((nd + D : Nat) : Int)), (6, vo 102), (7, vb true), (16, .v (Value.slice none 0 0)), (31, vo 102), (32, vb false), (33, vb false), (34, vo 102), (35, vb false), (36, vb false), (74, vo 102), (75, vb false), (176, vb true)] h8 d8 (fun a9 h9 d9 => ?_)
  clear h8 d8
  show Code.wp _ _ _ _ _
  refine wp_cond_true (h9.2 176 _ rfl) ?_
  refine wp_seq ?_
  refine wp_seq (wp_region ?_)
  refine oP 272 [] [0] [(0, .v v), (1, vb true), (2, .s 0 0 32 32), (3, vi (-((D : Nat) : Int))), (4, vi ↑nd), (5, vi ((nd + D : Nat) : Int)), (6, vo 102), (7, vb true), (16, .v (Value.slice none 0 0)), (31, vo 102), (32, vb false), (33, vb false), (34, vo 102), (35, vb false), (36, vb false), (74, vo 102), (75, vb false), (176, vb true), (178, vb true)] h9 d9 (fun a10 h10 d10 => ?_)
  clear h9 d9
  show Code.wp _ _ _ _ _
  refine wp_cond_true (h10.2 178 _ rfl) ?_
  refine wp_region ?_
  refine oP 272 [1, 2, 3] [0] [(0, .v v), (1, vb true), (2, .s 0 0 32 32), (3, vi (-((D : Nat) : Int))), (4, vi ↑nd), (5, vi ((nd + D : Nat) : Int)), (6, vo 102), (7, vb true), (16, .v (Value.slice none 0 0)), (31, vo 102), (32, vb false), (33, vb false), (34, vo 102), (35, vb false), (36, vb false), (74, vo 102), (75, vb false), (176, vb true), (178, vb true), (179, .v v)] h10 d10 (fun a11 h11 d11 => ?_)
  clear h10 d10
  refine push_ops (N := 272) (i := 1) (j := 2) (d1 := 180) (d2 := 181) (ts := 179) (x := 45) (rest := [3]) D0 (by (try simp); omega) h11 rfl rfl rfl (by decide) rfl rfl rfl rfl rfl (by decide) rfl rfl rfl (fun v12 W12 a12 D12 h12 d12 => ?_)
  replace d12 := d12.trans d11
  clear h11 d11
  refine oP 272 [] [3] [(0, .v v12), (1, vb true), (2, .s 0 0 32 32), (3, vi (-((D : Nat) : Int))), (4, vi ↑nd), (5, vi ((nd + D : Nat) : Int)), (6, vo 102), (7, vb true), (16, .v (Value.slice none 0 0)), (31, vo 102), (32, vb false), (33, vb false), (34, vo 102), (35, vb false), (36, vb false), (74, vo 102), (75, vb false), (176, vb true), (178, vb true)] h12 d12 (fun a13 h13 d13 => ?_)
  clear h12 d12
  show Code.wp _ _ _ _ _
  show Code.wp Tryd.prog efT _ _ _
  refine efT3 g m c n hn hc D nd h1 hnd hD w0 _ _ (l ++ [45]) D12 (by (try simp); omega) a13 (sub_ok (E := [(0, .v v12), (2, .s 0 0 32 32), (3, vi (-((D : Nat) : Int))), (4, vi ↑nd), (5, vi ((nd + D : Nat) : Int))]) h13 sE) d13 (fun a v' W' D h d => ?_)
  refine wp_ret ?_
  exact ⟨d, _, results_tmp rfl _ _ _, v', congrArg Ending.returned (h.2 16 _ rfl), by simpa using D⟩
end Go.Proofs.YtmgnffklmdhooaaDoor.PAll
namespace Go.Proofs.YtmgnffklmdhooaaDoor.PAll
open Go.RowKit Go.Proofs.YtmgnffklmdhooaaDoorW.PrintWords Go.Proofs.YtmgnffklmdhooaaDoorW.PrintLast Go.Proofs.YtmgnffklmdhooaaDoorW.PrintMore
set_option linter.unusedVariables false
set_option linter.unusedSimpArgs false
theorem set_walk (n g u : Nat) (p dp : Int) (m : Nat → Value) (h1 : 6 ≤ n) (h9 : n ≤ 9) (hu : u < 10 ^ n) (w : World) (hg : (⟨g, 59, 32, m⟩ : Bl).In w) (hdp : IntKind.i64.wrap ((n : Int) + p) = dp) :
    Calls Tryd.prog 36 #[.slice (some ⟨g, 0, none⟩) 32 32, .int .u64 (u : Int), .int .i64 p, .int .i64 ((n : Nat) : Int)] w fun e' w' => e' = .returned (.tuple #[.int .i64 dp, .int .i64 ((strip (dgC n u) n : Nat) : Int)]) ∧ (⟨g, 59, 32, dgM m n u⟩ : Bl).In w' ∧ Fr [g] w w' := by
  match n, h1, h9, hu, hdp with
  | 6, _, _, hu, hdp => exact set6_walk g u p dp m hu w hg hdp
  | 7, _, _, hu, hdp => exact set7_walk g u p dp m hu w hg hdp
  | 8, _, _, hu, hdp => exact set8_walk g u p dp m hu w hg hdp
  | 9, _, _, hu, hdp => exact set9_walk g u p dp m hu w hg hdp
  | 0, h1, _, _, _ | 1, h1, _, _, _ | 2, h1, _, _, _ | 3, h1, _, _, _ | 4, h1, _, _, _ | 5, h1, _, _, _ => exact absurd h1 (by decide)
  | n + 10, _, h9, _, _ => omega
/-- A number's text: digits c, nd of them, the point behind place dp. -/
def efgR (neg : Bool) (c : Nat → Int) (dp : Int) (nd : Nat) : List Int :=
  (if neg = true then [45] else []) ++ (if 0 < dp then (if nd ≤ dp.toNat then (List.range nd).map c ++ List.replicate (dp.toNat - nd) 48 else (List.range dp.toNat).map c ++ ([46] ++ (List.range (nd - dp.toNat)).map (fun q => c (dp.toNat + q)))) else [48, 46] ++ (List.replicate (-dp).toNat 48 ++ (List.range nd).map c))
theorem efg_walk (g : Nat) (m : Nat → Value) (c : Nat → Int) (n : Nat) (hn : n ≤ 32) (hc : ∀ i, i < n → m i = .int .u8 (c i)) (neg : Bool) (dp : Int) (nd : Nat) (pr : Int) (h1 : 0 < nd) (hnd : nd ≤ n) (hlo : -100 < dp) (hhi : dp < 100) (hpr : pr = if (nd : Int) - dp < 0 then 0 else (nd : Int) - dp) (w0 W : World) (v : Value) (l : List Int) (D0 : DS g m true w0 W v l) (hl : l.length < 1000) :
    Calls Tryd.prog 33 #[v, .bool neg, .slice (some ⟨g, 0, none⟩) 32 32, .int .i64 dp, .int .i64 ((nd : Nat) : Int), .int .i64 pr, .int .u8 102, .bool true] W fun e w' => ∃ v', e = .returned v' ∧ DS g m true w0 w' v' (l ++ efgR neg c dp nd) := by
  by_cases hd : 0 < dp
  · obtain ⟨D, rfl⟩ := Int.eq_ofNat_of_zero_le (Int.le_of_lt hd)
    have hD : 0 < D := by omega
    by_cases h2 : nd ≤ D
    · obtain rfl : pr = 0 := by rw [hpr]; split <;> omega
      have e : ∀ b, efgR b c (D : Int) nd = (if b = true then [45] else []) ++ ((List.range nd).map c ++ List.replicate (D - nd) 48) := fun b => by
        unfold efgR
        rw [if_pos hd, Int.toNat_natCast, if_pos h2]
      rw [e]
      cases neg
      · refine (efg1false_walk g m true c n hn hc D nd hD h2 hnd (by omega) w0 W v l D0 hl).mono fun e w' hh => ?_
        obtain ⟨v', h3, h4⟩ := hh
        exact ⟨v', h3, by simpa using h4⟩
      · refine (efg1true_walk g m true c n hn hc D nd hD h2 hnd (by omega) w0 W v l D0 hl).mono fun e w' hh => ?_
        obtain ⟨v', h3, h4⟩ := hh
        exact ⟨v', h3, by simpa using h4⟩
    · obtain rfl : pr = ((nd - D : Nat) : Int) := by rw [hpr]; split <;> omega
      have e : ∀ b, efgR b c (D : Int) nd = (if b = true then [45] else []) ++ ((List.range D).map c ++ ([46] ++ (List.range (nd - D)).map (fun q => c (D + q)))) := fun b => by
        unfold efgR
        rw [if_pos hd, Int.toNat_natCast, if_neg h2]
      rw [e]
      cases neg
      · refine (efg2false_walk g m true c n hn hc D nd hD (by omega) hnd w0 W v l D0 hl).mono fun e w' hh => ?_
        obtain ⟨v', h3, h4⟩ := hh
        exact ⟨v', h3, by simpa using h4⟩
      · refine (efg2true_walk g m true c n hn hc D nd hD (by omega) hnd w0 W v l D0 hl).mono fun e w' hh => ?_
        obtain ⟨v', h3, h4⟩ := hh
        exact ⟨v', h3, by simpa using h4⟩
  · obtain ⟨D, hD⟩ := Int.eq_ofNat_of_zero_le (show 0 ≤ -dp by omega)
    obtain rfl : dp = -((D : Nat) : Int) := by omega
    obtain rfl : pr = ((nd + D : Nat) : Int) := by rw [hpr]; split <;> omega
    have e : ∀ b, efgR b c (-((D : Nat) : Int)) nd = (if b = true then [45] else []) ++ ([48, 46] ++ (List.replicate D 48 ++ (List.range nd).map c)) := fun b => by
      unfold efgR
      rw [if_neg hd, Int.neg_neg, Int.toNat_natCast]
    rw [e]
    cases neg
    · refine (efg3false_walk g m true c n hn hc D nd h1 hnd (by omega) w0 W v l D0 hl).mono fun e w' hh => ?_
      obtain ⟨v', h3, h4⟩ := hh
      exact ⟨v', h3, by simpa using h4⟩
    · refine (efg3true_walk g m true c n hn hc D nd h1 hnd (by omega) w0 W v l D0 hl).mono fun e w' hh => ?_
      obtain ⟨v', h3, h4⟩ := hh
      exact ⟨v', h3, by simpa using h4⟩
end Go.Proofs.YtmgnffklmdhooaaDoor.PAll
