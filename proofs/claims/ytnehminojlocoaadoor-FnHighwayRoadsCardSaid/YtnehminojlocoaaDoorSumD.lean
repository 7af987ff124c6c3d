/- SumD: HvRem2, HvHwy, HvHwy2, HvHwy3, HvHwy4, HvLow, HvNo, HvImp, HvImp2, HvImp3, HvImp4, HvCon, HvPl1, HvPl2, HvPl3, HvPl4, HvPl5. -/
import Derived.Test.YtnehminojlocoaaDoorSumC
import Derived.Recover
import Derived.Defers
import Derived.Deep.WholeRow
namespace Go.Proofs.YtnehminojlocoaaDoor.PAll
open Go.RowKit Go.Proofs.YtnehminojlocoaaDoorW.PrintWords Go.Proofs.YtnehminojlocoaaDoorW.PrintLast Go.Proofs.YtnehminojlocoaaDoorW.PrintMore
set_option linter.unusedVariables false
set_option linter.unusedSimpArgs false
noncomputable def rem1 : Code := match Tryd.f22.body with
  | some (.seq _ (.seq c _)) => c
  | _ => .skip
end Go.Proofs.YtnehminojlocoaaDoor.PAll
namespace Go.Proofs.YtnehminojlocoaaDoor.PAll
open Go.RowKit Go.Proofs.YtnehminojlocoaaDoorW.PrintWords Go.Proofs.YtnehminojlocoaaDoorW.PrintLast Go.Proofs.YtnehminojlocoaaDoorW.PrintMore
set_option linter.unusedVariables false
set_option linter.unusedSimpArgs false
section
variable {P : Program} {ops : Array Oper} {Q : Exit → Act → World → Prop} {S : World → Prop} {ds : List Nat} {N : Nat} {β : Nat → Nat} {T : TypeId → Option Ty}
end
theorem cells_C {k : IntKind} {b o n : Nat} {x : Nat → Int} {W : World} (h : ∀ i, i < n → W.cell? ⟨b, o + i, none⟩ = some (.int k (x i))) (hn : n ≤ 9223372036854775807) : Kd.C (Kd.int k) W (some ⟨b, o, none⟩) n ((List.range n).map x) := by
  refine ⟨by simp, hn, fun _ => ⟨_, rfl, fun j p hp => ⟨[.int k p], rfl, rfl, fun i u hu => ?_⟩⟩⟩
  obtain ⟨hj, rfl⟩ := List.getElem?_eq_some_iff.1 hp
  have hj' : j < n := by simpa using hj
  cases i with
  | zero =>
    obtain rfl := Option.some.inj hu
    have := h j hj'
    show W.cell? (Addr.add ⟨b, o, none⟩ (j * 1 + 0)) = _
    have e : (Addr.add ⟨b, o, none⟩ (j * 1 + 0)) = ⟨b, o + j, none⟩ := by
      by_cases h0 : j = 0
      · simp [h0, Addr.add]
      · simp [h0, Addr.add]
    rw [e, this]
    simp
  | succ i => simp at hu
/-- A number's eight octets, the lowest first. -/
def hw8 (v : Int) : List Int := [v % 256, v / 256 % 256, v / 256 / 256 % 256, v / 256 / 256 / 256 % 256, v / 256 / 256 / 256 / 256 % 256, v / 256 / 256 / 256 / 256 / 256 % 256, v / 256 / 256 / 256 / 256 / 256 / 256 % 256, v / 256 / 256 / 256 / 256 / 256 / 256 / 256 % 256]
/-- What writes a text of numbers says. -/
def Wrote (w : World) (r : List Int) (v : Value) (w' : World) : Prop := Kd.R (Kd.int .u8) 5 w' w.heap.size (fun _ => True) v r ∧ Below w.heap.size w w'
/-- A state takes in its own numbers, k times. -/
def mxS : Nat → (Nat → Int) → (Nat → Int)
  | 0, s => s
  | k + 1, s => let t := mxS k s; US t (own4 t)
def rHi (a b c d : Int) : Int := ((spec_reduced.f a b c d).getD (0, 0)).1
def rLo (a b c d : Int) : Int := ((spec_reduced.f a b c d).getD (0, 0)).2
def pl (a b : Int) : Int := IntKind.u64.wrap (a + b)
def out8 (s : Nat → Int) : List Int := hw8 (pl (pl (pl (s 0) (s 4)) (s 8)) (s 12))
def out16 (s : Nat → Int) : List Int := hw8 (pl (pl (pl (s 0) (s 8)) (s 6)) (s 14)) ++ hw8 (pl (pl (pl (s 1) (s 9)) (s 7)) (s 15))
def rA3 (s : Nat → Int) (i : Nat) : Int := pl (s (4 + (i + 1))) (s (12 + (i + 1)))
def out32 (s : Nat → Int) : List Int :=
  hw8 (rLo (pl (s 5) (s 13)) (pl (s 4) (s 12)) (pl (s 1) (s 9)) (pl (s 0) (s 8))) ++ hw8 (rHi (pl (s 5) (s 13)) (pl (s 4) (s 12)) (pl (s 1) (s 9)) (pl (s 0) (s 8))) ++ hw8 (rLo (pl (s 7) (s 15)) (pl (s 6) (s 14)) (pl (s 3) (s 11)) (pl (s 2) (s 10))) ++ hw8 (rHi (pl (s 7) (s 15)) (pl (s 6) (s 14)) (pl (s 3) (s 11)) (pl (s 2) (s 10)))
/-- The numbers of a state, by the sum's size. -/
def outS (sz : Int) (s : Nat → Int) : List Int := if sz = 8 then out8 (mxS 4 s) else if sz = 16 then out16 (mxS 6 s) else out32 (mxS 10 s)
theorem Kd.R_base {α : Type} {d : Kd α} {e : Nat} {w : World} {base base' : Nat} {ok : Nat → Prop} {v : Value} {xs : List α} (h : d.R e w base ok v xs) (hb : base' ≤ base) : d.R e w base' ok v xs := Kd.R_lower h hb
noncomputable def hwyB : Code := match Tryd.f11.body with
  | some (.seq _ (.seq _ (.seq _ (.seq _ (.seq (.seq _ b) c))))) => b
  | _ => .skip
noncomputable def hwyC : Code := match Tryd.f11.body with
  | some (.seq _ (.seq _ (.seq _ (.seq _ (.seq (.seq _ b) c))))) => c
  | _ => .skip
end Go.Proofs.YtnehminojlocoaaDoor.PAll
namespace Go.Proofs.YtnehminojlocoaaDoor.PAll
open Go.RowKit Go.Proofs.YtnehminojlocoaaDoorW.PrintWords Go.Proofs.YtnehminojlocoaaDoorW.PrintLast Go.Proofs.YtnehminojlocoaaDoorW.PrintMore
set_option linter.unusedVariables false
set_option linter.unusedSimpArgs false
end Go.Proofs.YtnehminojlocoaaDoor.PAll
namespace Go.Proofs.YtnehminojlocoaaDoor.PAll
open Go.RowKit Go.Proofs.YtnehminojlocoaaDoorW.PrintWords Go.Proofs.YtnehminojlocoaaDoorW.PrintLast Go.Proofs.YtnehminojlocoaaDoorW.PrintMore
set_option linter.unusedVariables false
set_option linter.unusedSimpArgs false
/-- k times 32 octets, by the published steps. -/
def upsN : Nat → (Nat → Int) → (Nat → Int) → Nat → Int
  | 0, s, _ => s
  | k + 1, s, x => US (upsN k s x) (lan (fun i => x (k * 32 + i)))
/-- The state at a text's end. -/
def hwS (y x : Nat → Int) (n : Nat) : Nat → Int := if n % 32 = 0 then upsN (n / 32) (newH (lan y)) x else remS (upsN (n / 32) (newH (lan y)) x) (n % 32) (fun i => x (n / 32 * 32 + i))
noncomputable def hwy5 : Code := match Tryd.f11.body with
  | some (.seq _ (.seq _ (.seq _ c))) => c
  | _ => .skip
noncomputable def hwy7 : Code := match Tryd.f11.body with
  | some (.seq _ (.seq _ (.seq _ (.seq _ c)))) => c
  | _ => .skip
noncomputable def hwy2 : Code := match Tryd.f11.body with
  | some (.seq _ (.seq _ c)) => c
  | _ => .skip
end Go.Proofs.YtnehminojlocoaaDoor.PAll
namespace Go.Proofs.YtnehminojlocoaaDoor.PAll
open Go.RowKit Go.Proofs.YtnehminojlocoaaDoorW.PrintWords Go.Proofs.YtnehminojlocoaaDoorW.PrintLast Go.Proofs.YtnehminojlocoaaDoorW.PrintMore
set_option linter.unusedVariables false
set_option linter.unusedSimpArgs false
end Go.Proofs.YtnehminojlocoaaDoor.PAll
namespace Go.Proofs.YtnehminojlocoaaDoor.PAll
open Go.RowKit Go.Proofs.YtnehminojlocoaaDoorW.PrintWords Go.Proofs.YtnehminojlocoaaDoorW.PrintLast Go.Proofs.YtnehminojlocoaaDoorW.PrintMore
set_option linter.unusedVariables false
set_option linter.unusedSimpArgs false
/-- A store, in the order of the text. -/
theorem put_ops {P : Program} {ops : Array Oper} {Q : Exit → Act → World → Prop} {N : Nat} {β : Nat → Nat} {T : TypeId → Option Ty} {n k i : Nat} {u vk : Value} {l : List Nat} {B : List Bl} {E : List (Nat × SV)} {a : Act} {w : World} (hT : TabOk P T) (hA : Has N β E a) (hM : Mw β B w) (hst : stV T ops n (some E) = some (k, i, u)) (hvk : bm B k i = some vk)
    (h : ∀ W, Mw β (bput B k i u) W → Fr [β k] w W → wpOps P ops Q l a W) : wpOps P ops Q (n :: l) a w := by
  obtain ⟨rfl, hM⟩ := hM
  obtain ⟨E', o, he, ho, hg, hd, hrun⟩ := stV_ok (P := P) (β := bg B) (N := N) hst
  obtain rfl := Option.some.inj he
  unfold wpOps
  simp only [ho]
  rw [if_pos (want_ hg)]
  refine Or.inl ?_
  unfold Oper.wp
  rw [hrun a w hT hA ⟨_, (hM.at hvk).1⟩ (hM.at hvk).2, Oper.upon_skip, hd]
  exact h _ ⟨bg_put _ _ _ _, Mm.set u hM hvk⟩ ((Fr.refl [bg B k] w).set _ (by simp) u)
/-- A block as a row of the call's own. -/
theorem bl_R {k : IntKind} {b : Bl} {W : World} {base : Nat} {x : Nat → Int} (h : b.In W) (hx : ∀ i, i < b.n → b.m i = .int k (x i)) (hb : base ≤ b.g) (hn : b.n ≤ 140737488355328) : Kd.R (Kd.int k) b.T W base (fun _ => True) (.slice (some ⟨b.g, 0, none⟩) b.n b.n) ((List.range b.n).map x) := by
  obtain ⟨cs, h1, h2, h3⟩ := h
  refine Kd.R_of_own ⟨?_, Or.inr ⟨b.g, b.n, cs, ?_, hb, h1, ?_, ?_, ?_, ?_⟩⟩ (fun _ _ => trivial)
  · simp [encs_length]
  · simp
  · simp
  · show b.n ≤ maxLen
    unfold maxLen
    omega
  · rw [h2, Nat.mul_one]
  · rw [List.length_map, List.length_range, Nat.mul_one, ← h2, ← Array.length_toList, List.take_length]
    apply List.ext_getElem?
    intro i
    rw [Array.getElem?_toList]
    by_cases hi : i < b.n
    · rw [h3 i hi, hx i hi]
      have hi' : i < cs.size := by omega
      simp [encs, List.getElem?_range hi']
    · rw [Array.getElem?_eq_none (by omega)]
      have hi' : (List.range cs.size).length ≤ i := by simp; omega
      simp [encs, List.getElem?_eq_none hi']
def lowL (v : Int) (i : Nat) : Int := IntKind.u8.wrap (v / ((2 ^ (8 * i) : Nat) : Int))
noncomputable def low2 : Code := match Tryd.f17.body with
  | some (.seq _ (.seq _ c)) => c
  | _ => .skip
set_option maxHeartbeats 8000000 in
set_option maxRecDepth 100000 in
theorem low_rest (g : Nat) (v : Int) (w W0 : World) (a0 : Act) (hg : w.heap.size ≤ g) (β : Nat → Nat) (M0 : Mw β [⟨g, 5, 8, (fun _ => .int .u8 0)⟩] W0) (F0 : Fr [] w W0) (h0 : Has 21 β [(0, .v (.int .u64 v)), (3, .s 0 0 8 8)] a0) (d0 : a0.defers = []) :
    Code.wp Tryd.prog low2 (bodyPost Tryd.prog Tryd.f17 fun e w' => ∃ r, e = .returned r ∧ Wrote w ((List.range 8).map (lowL v)) r w') a0 W0 := by
  obtain ⟨rfl, _⟩ := id M0
  refine wp_seq ?_
  refine wp_seq ?_
  refine regM_seq (N := 21) (T := TT) (n := 3) (E2 := [(0, .v (.int .u64 v)), (3, .s 0 0 8 8), (7, .v (.int .i64 8)), (8, .v (.int .i64 0))]) tabOk h0 M0 rfl (by kernel_rfl) ⟨by kernel_rfl, by kernel_rfl, by kernel_rfl, by kernel_rfl, trivial⟩ (fun a1 h1 d1 => ?_)
  show Code.wp _ _ _ _ _
  replace d1 := d1.trans d0
  clear h0 d0
  refine wp_block ?_
  refine wp_loop_rounds 9 ?_
  rw [rounds_succ]
  refine wp_seq ?_
  refine regM_seq (N := 21) (T := TT) (n := 1) (E2 := [(0, .v (.int .u64 v)), (3, .s 0 0 8 8), (7, .v (.int .i64 8)), (8, .v (.int .i64 0)), (9, .v (.bool true))]) tabOk h1 M0 rfl (by kernel_rfl) ⟨by kernel_rfl, by kernel_rfl, by kernel_rfl, by kernel_rfl, by kernel_rfl, trivial⟩ (fun a2 h2 d2 => ?_)
  show Code.wp _ _ _ _ _
  replace d2 := d2.trans d1
  clear h1 d1
  refine wp_seq ?_
  refine wp_cond_true (h2.2 9 _ rfl) ?_
  refine wp_skip ?_
  show Code.wp _ _ _ _ _
  refine wp_seq ?_
  refine wp_block ?_
  refine wp_seq ?_
  refine regM_seq (N := 21) (T := TT) (n := 2) (E2 := [(0, .v (.int .u64 v)), (3, .s 0 0 8 8), (4, .v (.int .i64 0)), (7, .v (.int .i64 8)), (8, .v (.int .i64 0))]) tabOk h2 M0 rfl (by kernel_rfl) ⟨by kernel_rfl, by kernel_rfl, by kernel_rfl, by kernel_rfl, by kernel_rfl, trivial⟩ (fun a3 h3 d3 => ?_)
  show Code.wp _ _ _ _ _
  replace d3 := d3.trans d2
  clear h2 d2
  refine wp_region ?_
  refine ops_ (N := 21) (M := fun _ _ => none) (T := TT) (E' := [(17, .v (.int .u8 (IntKind.u8.wrap (v / 1)))), (16, .v (.int .u64 (v / 1))), (15, .v (.int .i64 0)), (14, .v (.int .i64 0)), (13, .v (.int .u64 v)), (12, .v (.int .i64 0)), (11, .s 0 0 8 8), (0, .v (.int .u64 v)), (3, .s 0 0 8 8), (4, .v (.int .i64 0)), (7, .v (.int .i64 8)), (8, .v (.int .i64 0))]) tabOk noMem [7, 8] [0, 1, 2, 3, 4, 5, 6] (by kernel_rfl) (sub_ok (E := [(0, .v (.int .u64 v)), (3, .s 0 0 8 8), (4, .v (.int .i64 0)), (7, .v (.int .i64 8)), (8, .v (.int .i64 0))]) h3 ⟨by kernel_rfl, by kernel_rfl, by kernel_rfl, by kernel_rfl, by kernel_rfl, trivial⟩) (fun b1 g1 e1 => ?_)
  refine givenS_ops (N := 21) (i := 7) (d := 18) (s := .p 0 0) (l := [8]) rfl rfl rfl (by decide) g1 (op_indexSl (j := 0) (i := 0) rfl (g1.2 11 _ rfl) (g1.2 12 _ rfl) Tryd.underlying22 Tryd.sizeOf5 (by decide)) (fun b2 g2 e2 => ?_)
  refine put_ops (N := 21) (n := 8) (k := 0) (i := 0) (u := .int .u8 (IntKind.u8.wrap (v / 1))) (l := []) tabOk g2 M0 (by kernel_rfl) rfl (fun W4 M4 G4 => ?_)
  have h4 := sub_ok (E := [(0, .v (.int .u64 v)), (3, .s 0 0 8 8), (7, .v (.int .i64 8)), (8, .v (.int .i64 0))]) g2 ⟨by kernel_rfl, by kernel_rfl, by kernel_rfl, by kernel_rfl, trivial⟩
  have d4 := e2.trans (e1.trans d3)
  replace M4 : Mw (bg [⟨g, 5, 8, (fun _ => .int .u8 0)⟩]) [⟨g, 5, 8, (upm (fun _ => .int .u8 0) 0 (.int .u8 (IntKind.u8.wrap (v / 1))))⟩] W4 := M4
  have F4 := Fr.comp F0 G4 (fun x hx => Or.inr (by simp at hx; subst hx; exact hg))
  clear g1 g2 e1 e2 h3 d3 M0 F0 G4
  show Code.wp _ _ _ _ _
  refine regM_seq (N := 21) (T := TT) (n := 2) (E2 := [(0, .v (.int .u64 v)), (3, .s 0 0 8 8), (7, .v (.int .i64 8)), (8, .v (.int .i64 1))]) tabOk h4 M4 rfl (by kernel_rfl) ⟨by kernel_rfl, by kernel_rfl, by kernel_rfl, by kernel_rfl, trivial⟩ (fun a5 h5 d5 => ?_)
  replace d5 := d5.trans d4
  clear h4 d4
  show Code.rounds _ _ _ _ _ _
  rw [rounds_succ]
  refine wp_seq ?_
  refine regM_seq (N := 21) (T := TT) (n := 1) (E2 := [(0, .v (.int .u64 v)), (3, .s 0 0 8 8), (7, .v (.int .i64 8)), (8, .v (.int .i64 1)), (9, .v (.bool true))]) tabOk h5 M4 rfl (by kernel_rfl) ⟨by kernel_rfl, by kernel_rfl, by kernel_rfl, by kernel_rfl, by kernel_rfl, trivial⟩ (fun a6 h6 d6 => ?_)
  show Code.wp _ _ _ _ _
  replace d6 := d6.trans d5
  clear h5 d5
  refine wp_seq ?_
  refine wp_cond_true (h6.2 9 _ rfl) ?_
  refine wp_skip ?_
  show Code.wp _ _ _ _ _
  refine wp_seq ?_
  refine wp_block ?_
  refine wp_seq ?_
  refine regM_seq (N := 21) (T := TT) (n := 2) (E2 := [(0, .v (.int .u64 v)), (3, .s 0 0 8 8), (4, .v (.int .i64 1)), (7, .v (.int .i64 8)), (8, .v (.int .i64 1))]) tabOk h6 M4 rfl (by kernel_rfl) ⟨by kernel_rfl, by kernel_rfl, by kernel_rfl, by kernel_rfl, by kernel_rfl, trivial⟩ (fun a7 h7 d7 => ?_)
  show Code.wp _ _ _ _ _
  replace d7 := d7.trans d6
  clear h6 d6
  refine wp_region ?_
  refine ops_ (N := 21) (M := fun _ _ => none) (T := TT) (E' := [(17, .v (.int .u8 (IntKind.u8.wrap (v / 256)))), (16, .v (.int .u64 (v / 256))), (15, .v (.int .i64 8)), (14, .v (.int .i64 1)), (13, .v (.int .u64 v)), (12, .v (.int .i64 1)), (11, .s 0 0 8 8), (0, .v (.int .u64 v)), (3, .s 0 0 8 8), (4, .v (.int .i64 1)), (7, .v (.int .i64 8)), (8, .v (.int .i64 1))]) tabOk noMem [7, 8] [0, 1, 2, 3, 4, 5, 6] (by kernel_rfl) (sub_ok (E := [(0, .v (.int .u64 v)), (3, .s 0 0 8 8), (4, .v (.int .i64 1)), (7, .v (.int .i64 8)), (8, .v (.int .i64 1))]) h7 ⟨by kernel_rfl, by kernel_rfl, by kernel_rfl, by kernel_rfl, by kernel_rfl, trivial⟩) (fun b1 g1 e1 => ?_)
  refine givenS_ops (N := 21) (i := 7) (d := 18) (s := .p 0 1) (l := [8]) rfl rfl rfl (by decide) g1 (op_indexSl (j := 1) (i := 0) rfl (g1.2 11 _ rfl) (g1.2 12 _ rfl) Tryd.underlying22 Tryd.sizeOf5 (by decide)) (fun b2 g2 e2 => ?_)
  refine put_ops (N := 21) (n := 8) (k := 0) (i := 1) (u := .int .u8 (IntKind.u8.wrap (v / 256))) (l := []) tabOk g2 M4 (by kernel_rfl) rfl (fun W8 M8 G8 => ?_)
  have h8 := sub_ok (E := [(0, .v (.int .u64 v)), (3, .s 0 0 8 8), (7, .v (.int .i64 8)), (8, .v (.int .i64 1))]) g2 ⟨by kernel_rfl, by kernel_rfl, by kernel_rfl, by kernel_rfl, trivial⟩
  have d8 := e2.trans (e1.trans d7)
  replace M8 : Mw (bg [⟨g, 5, 8, (fun _ => .int .u8 0)⟩]) [⟨g, 5, 8, (upm (upm (fun _ => .int .u8 0) 0 (.int .u8 (IntKind.u8.wrap (v / 1)))) 1 (.int .u8 (IntKind.u8.wrap (v / 256))))⟩] W8 := M8
  have F8 := Fr.comp F4 G8 (fun x hx => Or.inr (by simp at hx; subst hx; exact hg))
  clear g1 g2 e1 e2 h7 d7 M4 F4 G8
  show Code.wp _ _ _ _ _
  refine regM_seq (N := 21) (T := TT) (n := 2) (E2 := [(0, .v (.int .u64 v)), (3, .s 0 0 8 8), (7, .v (.int .i64 8)), (8, .v (.int .i64 2))]) tabOk h8 M8 rfl (by kernel_rfl) ⟨by kernel_rfl, by kernel_rfl, by kernel_rfl, by kernel_rfl, trivial⟩ (fun a9 h9 d9 => ?_)
  replace d9 := d9.trans d8
  clear h8 d8
  show Code.rounds _ _ _ _ _ _
  rw [rounds_succ]
  refine wp_seq ?_
  refine regM_seq (N := 21) (T := TT) (n := 1) (E2 := [(0, .v (.int .u64 v)), (3, .s 0 0 8 8), (7, .v (.int .i64 8)), (8, .v (.int .i64 2)), (9, .v (.bool true))]) tabOk h9 M8 rfl (by kernel_rfl) ⟨by kernel_rfl, by kernel_rfl, by kernel_rfl, by kernel_rfl, by kernel_rfl, trivial⟩ (fun a10 h10 d10 => ?_)
  show Code.wp _ _ _ _ _
  replace d10 := d10.trans d9
  clear h9 d9
  refine wp_seq ?_
  refine wp_cond_true (h10.2 9 _ rfl) ?_
  refine wp_skip ?_
  show Code.wp _ _ _ _ _
  refine wp_seq ?_
  refine wp_block ?_
  refine wp_seq ?_
  refine regM_seq (N := 21) (T := TT) (n := 2) (E2 := [(0, .v (.int .u64 v)), (3, .s 0 0 8 8), (4, .v (.int .i64 2)), (7, .v (.int .i64 8)), (8, .v (.int .i64 2))]) tabOk h10 M8 rfl (by kernel_rfl) ⟨by kernel_rfl, by kernel_rfl, by kernel_rfl, by kernel_rfl, by kernel_rfl, trivial⟩ (fun a11 h11 d11 => ?_)
  show Code.wp _ _ _ _ _
  replace d11 := d11.trans d10
  clear h10 d10
  refine wp_region ?_
  refine ops_ (N := 21) (M := fun _ _ => none) (T := TT) (E' := [(17, .v (.int .u8 (IntKind.u8.wrap (v / 65536)))), (16, .v (.int .u64 (v / 65536))), (15, .v (.int .i64 16)), (14, .v (.int .i64 2)), (13, .v (.int .u64 v)), (12, .v (.int .i64 2)), (11, .s 0 0 8 8), (0, .v (.int .u64 v)), (3, .s 0 0 8 8), (4, .v (.int .i64 2)), (7, .v (.int .i64 8)), (8, .v (.int .i64 2))]) tabOk noMem [7, 8] [0, 1, 2, 3, 4, 5, 6] (by kernel_rfl) (sub_ok (E := [(0, .v (.int .u64 v)), (3, .s 0 0 8 8), (4, .v (.int .i64 2)), (7, .v (.int .i64 8)), (8, .v (.int .i64 2))]) h11 ⟨by kernel_rfl, by kernel_rfl, by kernel_rfl, by kernel_rfl, by kernel_rfl, trivial⟩) (fun b1 g1 e1 => ?_)
  refine givenS_ops (N := 21) (i := 7) (d := 18) (s := .p 0 2) (l := [8]) rfl rfl rfl (by decide) g1 (op_indexSl (j := 2) (i := 0) rfl (g1.2 11 _ rfl) (g1.2 12 _ rfl) Tryd.underlying22 Tryd.sizeOf5 (by decide)) (fun b2 g2 e2 => ?_)
  refine put_ops (N := 21) (n := 8) (k := 0) (i := 2) (u := .int .u8 (IntKind.u8.wrap (v / 65536))) (l := []) tabOk g2 M8 (by kernel_rfl) rfl (fun W12 M12 G12 => ?_)
  have h12 := sub_ok (E := [(0, .v (.int .u64 v)), (3, .s 0 0 8 8), (7, .v (.int .i64 8)), (8, .v (.int .i64 2))]) g2 ⟨by kernel_rfl, by kernel_rfl, by kernel_rfl, by kernel_rfl, trivial⟩
  have d12 := e2.trans (e1.trans d11)
  replace M12 : Mw (bg [⟨g, 5, 8, (fun _ => .int .u8 0)⟩]) [⟨g, 5, 8, (upm (upm (upm (fun _ => .int .u8 0) 0 (.int .u8 (IntKind.u8.wrap (v / 1)))) 1 (.int .u8 (IntKind.u8.wrap (v / 256)))) 2 (.int .u8 (IntKind.u8.wrap (v / 65536))))⟩] W12 := M12
  have F12 := Fr.comp F8 G12 (fun x hx => Or.inr (by simp at hx; subst hx; exact hg))
  clear g1 g2 e1 e2 h11 d11 M8 F8 G12
  show Code.wp _ _ _ _ _
  refine regM_seq (N := 21) (T := TT) (n := 2) (E2 := [(0, .v (.int .u64 v)), (3, .s 0 0 8 8), (7, .v (.int .i64 8)), (8, .v (.int .i64 3))]) tabOk h12 M12 rfl (by kernel_rfl) ⟨by kernel_rfl, by kernel_rfl, by kernel_rfl, by kernel_rfl, trivial⟩ (fun a13 h13 d13 => ?_)
  replace d13 := d13.trans d12
  clear h12 d12
  show Code.rounds _ _ _ _ _ _
  rw [rounds_succ]
  refine wp_seq ?_
  refine regM_seq (N := 21) (T := TT) (n := 1) (E2 := [(0, .v (.int .u64 v)), (3, .s 0 0 8 8), (7, .v (.int .i64 8)), (8, .v (.int .i64 3)), (9, .v (.bool true))]) tabOk h13 M12 rfl (by kernel_rfl) ⟨by kernel_rfl, by kernel_rfl, by kernel_rfl, by kernel_rfl, by kernel_rfl, trivial⟩ (fun a14 h14 d14 => ?_)
  show Code.wp _ _ _ _ _
  replace d14 := d14.trans d13
  clear h13 d13
  refine wp_seq ?_
  refine wp_cond_true (h14.2 9 _ rfl) ?_
  refine wp_skip ?_
  show Code.wp _ _ _ _ _
  refine wp_seq ?_
  refine wp_block ?_
  refine wp_seq ?_
  refine regM_seq (N := 21) (T := TT) (n := 2) (E2 := [(0, .v (.int .u64 v)), (3, .s 0 0 8 8), (4, .v (.int .i64 3)), (7, .v (.int .i64 8)), (8, .v (.int .i64 3))]) tabOk h14 M12 rfl (by kernel_rfl) ⟨by kernel_rfl, by kernel_rfl, by kernel_rfl, by kernel_rfl, by kernel_rfl, trivial⟩ (fun a15 h15 d15 => ?_)
  show Code.wp _ _ _ _ _
  replace d15 := d15.trans d14
  clear h14 d14
  refine wp_region ?_
  refine ops_ (N := 21) (M := fun _ _ => none) (T := TT) (E' := [(17, .v (.int .u8 (IntKind.u8.wrap (v / 16777216)))), (16, .v (.int .u64 (v / 16777216))), (15, .v (.int .i64 24)), (14, .v (.int .i64 3)), (13, .v (.int .u64 v)), (12, .v (.int .i64 3)), (11, .s 0 0 8 8), (0, .v (.int .u64 v)), (3, .s 0 0 8 8), (4, .v (.int .i64 3)), (7, .v (.int .i64 8)), (8, .v (.int .i64 3))]) tabOk noMem [7, 8] [0, 1, 2, 3, 4, 5, 6] (by kernel_rfl) (sub_ok (E := [(0, .v (.int .u64 v)), (3, .s 0 0 8 8), (4, .v (.int .i64 3)), (7, .v (.int .i64 8)), (8, .v (.int .i64 3))]) h15 ⟨by kernel_rfl, by kernel_rfl, by kernel_rfl, by kernel_rfl, by kernel_rfl, trivial⟩) (fun b1 g1 e1 => ?_)
  refine givenS_ops (N := 21) (i := 7) (d := 18) (s := .p 0 3) (l := [8]) rfl rfl rfl (by decide) g1 (op_indexSl (j := 3) (i := 0) rfl (g1.2 11 _ rfl) (g1.2 12 _ rfl) Tryd.underlying22 Tryd.sizeOf5 (by decide)) (fun b2 g2 e2 => ?_)
  refine put_ops (N := 21) (n := 8) (k := 0) (i := 3) (u := .int .u8 (IntKind.u8.wrap (v / 16777216))) (l := []) tabOk g2 M12 (by kernel_rfl) rfl (fun W16 M16 G16 => ?_)
  have h16 := sub_ok (E := [(0, .v (.int .u64 v)), (3, .s 0 0 8 8), (7, .v (.int .i64 8)), (8, .v (.int .i64 3))]) g2 ⟨by kernel_rfl, by kernel_rfl, by kernel_rfl, by kernel_rfl, trivial⟩
  have d16 := e2.trans (e1.trans d15)
  replace M16 : Mw (bg [⟨g, 5, 8, (fun _ => .int .u8 0)⟩]) [⟨g, 5, 8, (upm (upm (upm (upm (fun _ => .int .u8 0) 0 (.int .u8 (IntKind.u8.wrap (v / 1)))) 1 (.int .u8 (IntKind.u8.wrap (v / 256)))) 2 (.int .u8 (IntKind.u8.wrap (v / 65536)))) 3 (.int .u8 (IntKind.u8.wrap (v / 16777216))))⟩] W16 := M16
  have F16 := Fr.comp F12 G16 (fun x hx => Or.inr (by simp at hx; subst hx; exact hg))
  clear g1 g2 e1 e2 h15 d15 M12 F12 G16
  show Code.wp _ _ _ _ _
  refine regM_seq (N := 21) (T := TT) (n := 2) (E2 := [(0, .v (.int .u64 v)), (3, .s 0 0 8 8), (7, .v (.int .i64 8)), (8, .v (.int .i64 4))]) tabOk h16 M16 rfl (by kernel_rfl) ⟨by kernel_rfl, by kernel_rfl, by kernel_rfl, by kernel_rfl, trivial⟩ (fun a17 h17 d17 => ?_)
  replace d17 := d17.trans d16
  clear h16 d16
  show Code.rounds _ _ _ _ _ _
  rw [rounds_succ]
  refine wp_seq ?_
  refine regM_seq (N := 21) (T := TT) (n := 1) (E2 := [(0, .v (.int .u64 v)), (3, .s 0 0 8 8), (7, .v (.int .i64 8)), (8, .v (.int .i64 4)), (9, .v (.bool true))]) tabOk h17 M16 rfl (by kernel_rfl) ⟨by kernel_rfl, by kernel_rfl, by kernel_rfl, by kernel_rfl, by kernel_rfl, trivial⟩ (fun a18 h18 d18 => ?_)
  show Code.wp _ _ _ _ _
  replace d18 := d18.trans d17
  clear h17 d17
  refine wp_seq ?_
  refine wp_cond_true (h18.2 9 _ rfl) ?_
  refine wp_skip ?_
  show Code.wp _ _ _ _ _
  refine wp_seq ?_
  refine wp_block ?_
  refine wp_seq ?_
  refine regM_seq (N := 21) (T := TT) (n := 2) (E2 := [(0, .v (.int .u64 v)), (3, .s 0 0 8 8), (4, .v (.int .i64 4)), (7, .v (.int .i64 8)), (8, .v (.int .i64 4))]) tabOk h18 M16 rfl (by kernel_rfl) ⟨by kernel_rfl, by kernel_rfl, by kernel_rfl, by kernel_rfl, by kernel_rfl, trivial⟩ (fun a19 h19 d19 => ?_)
  show Code.wp _ _ _ _ _
  replace d19 := d19.trans d18
  clear h18 d18
  refine wp_region ?_
  refine ops_ (N := 21) (M := fun _ _ => none) (T := TT) (E' := [(17, .v (.int .u8 (IntKind.u8.wrap (v / 4294967296)))), (16, .v (.int .u64 (v / 4294967296))), (15, .v (.int .i64 32)), (14, .v (.int .i64 4)), (13, .v (.int .u64 v)), (12, .v (.int .i64 4)), (11, .s 0 0 8 8), (0, .v (.int .u64 v)), (3, .s 0 0 8 8), (4, .v (.int .i64 4)), (7, .v (.int .i64 8)), (8, .v (.int .i64 4))]) tabOk noMem [7, 8] [0, 1, 2, 3, 4, 5, 6] (by kernel_rfl) (sub_ok (E := [(0, .v (.int .u64 v)), (3, .s 0 0 8 8), (4, .v (.int .i64 4)), (7, .v (.int .i64 8)), (8, .v (.int .i64 4))]) h19 ⟨by kernel_rfl, by kernel_rfl, by kernel_rfl, by kernel_rfl, by kernel_rfl, trivial⟩) (fun b1 g1 e1 => ?_)
  refine givenS_ops (N := 21) (i := 7) (d := 18) (s := .p 0 4) (l := [8]) rfl rfl rfl (by decide) g1 (op_indexSl (j := 4) (i := 0) rfl (g1.2 11 _ rfl) (g1.2 12 _ rfl) Tryd.underlying22 Tryd.sizeOf5 (by decide)) (fun b2 g2 e2 => ?_)
  refine put_ops (N := 21) (n := 8) (k := 0) (i := 4) (u := .int .u8 (IntKind.u8.wrap (v / 4294967296))) (l := []) tabOk g2 M16 (by kernel_rfl) rfl (fun W20 M20 G20 => ?_)
  have h20 := sub_ok (E := [(0, .v (.int .u64 v)), (3, .s 0 0 8 8), (7, .v (.int .i64 8)), (8, .v (.int .i64 4))]) g2 ⟨by kernel_rfl, by kernel_rfl, by kernel_rfl, by kernel_rfl, trivial⟩
  have d20 := e2.trans (e1.trans d19)
  replace M20 : Mw (bg [⟨g, 5, 8, (fun _ => .int .u8 0)⟩]) [⟨g, 5, 8, (upm (upm (upm (upm (upm (fun _ => .int .u8 0) 0 (.int .u8 (IntKind.u8.wrap (v / 1)))) 1 (.int .u8 (IntKind.u8.wrap (v / 256)))) 2 (.int .u8 (IntKind.u8.wrap (v / 65536)))) 3 (.int .u8 (IntKind.u8.wrap (v / 16777216)))) 4 (.int .u8 (IntKind.u8.wrap (v / 4294967296))))⟩] W20 := M20
  have F20 := Fr.comp F16 G20 (fun x hx => Or.inr (by simp at hx; subst hx; exact hg))
  clear g1 g2 e1 e2 h19 d19 M16 F16 G20
  show Code.wp _ _ _ _ _
  refine regM_seq (N := 21) (T := TT) (n := 2) (E2 := [(0, .v (.int .u64 v)), (3, .s 0 0 8 8), (7, .v (.int .i64 8)), (8, .v (.int .i64 5))]) tabOk h20 M20 rfl (by kernel_rfl) ⟨by kernel_rfl, by kernel_rfl, by kernel_rfl, by kernel_rfl, trivial⟩ (fun a21 h21 d21 => ?_)
  replace d21 := d21.trans d20
  clear h20 d20
  show Code.rounds _ _ _ _ _ _
  rw [rounds_succ]
  refine wp_seq ?_
  refine regM_seq (N := 21) (T := TT) (n := 1) (E2 := [(0, .v (.int .u64 v)), (3, .s 0 0 8 8), (7, .v (.int .i64 8)), (8, .v (.int .i64 5)), (9, .v (.bool true))]) tabOk h21 M20 rfl (by kernel_rfl) ⟨by kernel_rfl, by kernel_rfl, by kernel_rfl, by kernel_rfl, by kernel_rfl, trivial⟩ (fun a22 h22 d22 => ?_)
  show Code.wp _ _ _ _ _
  replace d22 := d22.trans d21
  clear h21 d21
  refine wp_seq ?_
  refine wp_cond_true (h22.2 9 _ rfl) ?_
  refine wp_skip ?_
  show Code.wp _ _ _ _ _
  refine wp_seq ?_
  refine wp_block ?_
  refine wp_seq ?_
  refine regM_seq (N := 21) (T := TT) (n := 2) (E2 := [(0, .v (.int .u64 v)), (3, .s 0 0 8 8), (4, .v (.int .i64 5)), (7, .v (.int .i64 8)), (8, .v (.int .i64 5))]) tabOk h22 M20 rfl (by kernel_rfl) ⟨by kernel_rfl, by kernel_rfl, by kernel_rfl, by kernel_rfl, by kernel_rfl, trivial⟩ (fun a23 h23 d23 => ?_)
  show Code.wp _ _ _ _ _
  replace d23 := d23.trans d22
  clear h22 d22
  refine wp_region ?_
  refine ops_ (N := 21) (M := fun _ _ => none) (T := TT) (E' := [(17, .v (.int .u8 (IntKind.u8.wrap (v / 1099511627776)))), (16, .v (.int .u64 (v / 1099511627776))), (15, .v (.int .i64 40)), (14, .v (.int .i64 5)), (13, .v (.int .u64 v)), (12, .v (.int .i64 5)), (11, .s 0 0 8 8), (0, .v (.int .u64 v)), (3, .s 0 0 8 8), (4, .v (.int .i64 5)), (7, .v (.int .i64 8)), (8, .v (.int .i64 5))]) tabOk noMem [7, 8] [0, 1, 2, 3, 4, 5, 6] (by kernel_rfl) (sub_ok (E := [(0, .v (.int .u64 v)), (3, .s 0 0 8 8), (4, .v (.int .i64 5)), (7, .v (.int .i64 8)), (8, .v (.int .i64 5))]) h23 ⟨by kernel_rfl, by kernel_rfl, by kernel_rfl, by kernel_rfl, by kernel_rfl, trivial⟩) (fun b1 g1 e1 => ?_)
  refine givenS_ops (N := 21) (i := 7) (d := 18) (s := .p 0 5) (l := [8]) rfl rfl rfl (by decide) g1 (op_indexSl (j := 5) (i := 0) rfl (g1.2 11 _ rfl) (g1.2 12 _ rfl) Tryd.underlying22 Tryd.sizeOf5 (by decide)) (fun b2 g2 e2 => ?_)
  refine put_ops (N := 21) (n := 8) (k := 0) (i := 5) (u := .int .u8 (IntKind.u8.wrap (v / 1099511627776))) (l := []) tabOk g2 M20 (by kernel_rfl) rfl (fun W24 M24 G24 => ?_)
  have h24 := sub_ok (E := [(0, .v (.int .u64 v)), (3, .s 0 0 8 8), (7, .v (.int .i64 8)), (8, .v (.int .i64 5))]) g2 ⟨by kernel_rfl, by kernel_rfl, by kernel_rfl, by kernel_rfl, trivial⟩
  have d24 := e2.trans (e1.trans d23)
  replace M24 : Mw (bg [⟨g, 5, 8, (fun _ => .int .u8 0)⟩]) [⟨g, 5, 8, (upm (upm (upm (upm (upm (upm (fun _ => .int .u8 0) 0 (.int .u8 (IntKind.u8.wrap (v / 1)))) 1 (.int .u8 (IntKind.u8.wrap (v / 256)))) 2 (.int .u8 (IntKind.u8.wrap (v / 65536)))) 3 (.int .u8 (IntKind.u8.wrap (v / 16777216)))) 4 (.int .u8 (IntKind.u8.wrap (v / 4294967296)))) 5 (.int .u8 (IntKind.u8.wrap (v / 1099511627776))))⟩] W24 := M24
  have F24 := Fr.comp F20 G24 (fun x hx => Or.inr (by simp at hx; subst hx; exact hg))
  clear g1 g2 e1 e2 h23 d23 M20 F20 G24
  show Code.wp _ _ _ _ _
  refine regM_seq (N := 21) (T := TT) (n := 2) (E2 := [(0, .v (.int .u64 v)), (3, .s 0 0 8 8), (7, .v (.int .i64 8)), (8, .v (.int .i64 6))]) tabOk h24 M24 rfl (by kernel_rfl) ⟨by kernel_rfl, by kernel_rfl, by kernel_rfl, by kernel_rfl, trivial⟩ (fun a25 h25 d25 => ?_)
  replace d25 := d25.trans d24
  clear h24 d24
  show Code.rounds _ _ _ _ _ _
  rw [rounds_succ]
  refine wp_seq ?_
  refine regM_seq (N := 21) (T := TT) (n := 1) (E2 := [(0, .v (.int .u64 v)), (3, .s 0 0 8 8), (7, .v (.int .i64 8)), (8, .v (.int .i64 6)), (9, .v (.bool true))]) tabOk h25 M24 rfl (by kernel_rfl) ⟨by kernel_rfl, by kernel_rfl, by kernel_rfl, by kernel_rfl, by kernel_rfl, trivial⟩ (fun a26 h26 d26 => ?_)
  show Code.wp _ _ _ _ _
  replace d26 := d26.trans d25
  clear h25 d25
  refine wp_seq ?_
  refine wp_cond_true (h26.2 9 _ rfl) ?_
  refine wp_skip ?_
  show Code.wp _ _ _ _ _
  refine wp_seq ?_
  refine wp_block ?_
  refine wp_seq ?_
  refine regM_seq (N := 21) (T := TT) (n := 2) (E2 := [(0, .v (.int .u64 v)), (3, .s 0 0 8 8), (4, .v (.int .i64 6)), (7, .v (.int .i64 8)), (8, .v (.int .i64 6))]) tabOk h26 M24 rfl (by kernel_rfl) ⟨by kernel_rfl, by kernel_rfl, by kernel_rfl, by kernel_rfl, by kernel_rfl, trivial⟩ (fun a27 h27 d27 => ?_)
  show Code.wp _ _ _ _ _
  replace d27 := d27.trans d26
  clear h26 d26
  refine wp_region ?_
  refine ops_ (N := 21) (M := fun _ _ => none) (T := TT) (E' := [(17, .v (.int .u8 (IntKind.u8.wrap (v / 281474976710656)))), (16, .v (.int .u64 (v / 281474976710656))), (15, .v (.int .i64 48)), (14, .v (.int .i64 6)), (13, .v (.int .u64 v)), (12, .v (.int .i64 6)), (11, .s 0 0 8 8), (0, .v (.int .u64 v)), (3, .s 0 0 8 8), (4, .v (.int .i64 6)), (7, .v (.int .i64 8)), (8, .v (.int .i64 6))]) tabOk noMem [7, 8] [0, 1, 2, 3, 4, 5, 6] (by kernel_rfl) (sub_ok (E := [(0, .v (.int .u64 v)), (3, .s 0 0 8 8), (4, .v (.int .i64 6)), (7, .v (.int .i64 8)), (8, .v (.int .i64 6))]) h27 ⟨by kernel_rfl, by kernel_rfl, by kernel_rfl, by kernel_rfl, by kernel_rfl, trivial⟩) (fun b1 g1 e1 => ?_)
  refine givenS_ops (N := 21) (i := 7) (d := 18) (s := .p 0 6) (l := [8]) rfl rfl rfl (by decide) g1 (op_indexSl (j := 6) (i := 0) rfl (g1.2 11 _ rfl) (g1.2 12 _ rfl) Tryd.underlying22 Tryd.sizeOf5 (by decide)) (fun b2 g2 e2 => ?_)
  refine put_ops (N := 21) (n := 8) (k := 0) (i := 6) (u := .int .u8 (IntKind.u8.wrap (v / 281474976710656))) (l := []) tabOk g2 M24 (by kernel_rfl) rfl (fun W28 M28 G28 => ?_)
  have h28 := sub_ok (E := [(0, .v (.int .u64 v)), (3, .s 0 0 8 8), (7, .v (.int .i64 8)), (8, .v (.int .i64 6))]) g2 ⟨by kernel_rfl, by kernel_rfl, by kernel_rfl, by kernel_rfl, trivial⟩
  have d28 := e2.trans (e1.trans d27)
  replace M28 : Mw (bg [⟨g, 5, 8, (fun _ => .int .u8 0)⟩]) [⟨g, 5, 8, (upm (upm (upm (upm (upm (upm (upm (fun _ => .int .u8 0) 0 (.int .u8 (IntKind.u8.wrap (v / 1)))) 1 (.int .u8 (IntKind.u8.wrap (v / 256)))) 2 (.int .u8 (IntKind.u8.wrap (v / 65536)))) 3 (.int .u8 (IntKind.u8.wrap (v / 16777216)))) 4 (.int .u8 (IntKind.u8.wrap (v / 4294967296)))) 5 (.int .u8 (IntKind.u8.wrap (v / 1099511627776)))) 6 (.int .u8 (IntKind.u8.wrap (v / 281474976710656))))⟩] W28 := M28
  have F28 := Fr.comp F24 G28 (fun x hx => Or.inr (by simp at hx; subst hx; exact hg))
  clear g1 g2 e1 e2 h27 d27 M24 F24 G28
  show Code.wp _ _ _ _ _
  refine regM_seq (N := 21) (T := TT) (n := 2) (E2 := [(0, .v (.int .u64 v)), (3, .s 0 0 8 8), (7, .v (.int .i64 8)), (8, .v (.int .i64 7))]) tabOk h28 M28 rfl (by kernel_rfl) ⟨by kernel_rfl, by kernel_rfl, by kernel_rfl, by kernel_rfl, trivial⟩ (fun a29 h29 d29 => ?_)
  replace d29 := d29.trans d28
  clear h28 d28
  show Code.rounds _ _ _ _ _ _
  rw [rounds_succ]
  refine wp_seq ?_
  refine regM_seq (N := 21) (T := TT) (n := 1) (E2 := [(0, .v (.int .u64 v)), (3, .s 0 0 8 8), (7, .v (.int .i64 8)), (8, .v (.int .i64 7)), (9, .v (.bool true))]) tabOk h29 M28 rfl (by kernel_rfl) ⟨by kernel_rfl, by kernel_rfl, by kernel_rfl, by kernel_rfl, by kernel_rfl, trivial⟩ (fun a30 h30 d30 => ?_)
  show Code.wp _ _ _ _ _
  replace d30 := d30.trans d29
  clear h29 d29
  refine wp_seq ?_
  refine wp_cond_true (h30.2 9 _ rfl) ?_
  refine wp_skip ?_
  show Code.wp _ _ _ _ _
  refine wp_seq ?_
  refine wp_block ?_
  refine wp_seq ?_
  refine regM_seq (N := 21) (T := TT) (n := 2) (E2 := [(0, .v (.int .u64 v)), (3, .s 0 0 8 8), (4, .v (.int .i64 7)), (7, .v (.int .i64 8)), (8, .v (.int .i64 7))]) tabOk h30 M28 rfl (by kernel_rfl) ⟨by kernel_rfl, by kernel_rfl, by kernel_rfl, by kernel_rfl, by kernel_rfl, trivial⟩ (fun a31 h31 d31 => ?_)
  show Code.wp _ _ _ _ _
  replace d31 := d31.trans d30
  clear h30 d30
  refine wp_region ?_
  refine ops_ (N := 21) (M := fun _ _ => none) (T := TT) (E' := [(17, .v (.int .u8 (IntKind.u8.wrap (v / 72057594037927936)))), (16, .v (.int .u64 (v / 72057594037927936))), (15, .v (.int .i64 56)), (14, .v (.int .i64 7)), (13, .v (.int .u64 v)), (12, .v (.int .i64 7)), (11, .s 0 0 8 8), (0, .v (.int .u64 v)), (3, .s 0 0 8 8), (4, .v (.int .i64 7)), (7, .v (.int .i64 8)), (8, .v (.int .i64 7))]) tabOk noMem [7, 8] [0, 1, 2, 3, 4, 5, 6] (by kernel_rfl) (sub_ok (E := [(0, .v (.int .u64 v)), (3, .s 0 0 8 8), (4, .v (.int .i64 7)), (7, .v (.int .i64 8)), (8, .v (.int .i64 7))]) h31 ⟨by kernel_rfl, by kernel_rfl, by kernel_rfl, by kernel_rfl, by kernel_rfl, trivial⟩) (fun b1 g1 e1 => ?_)
  refine givenS_ops (N := 21) (i := 7) (d := 18) (s := .p 0 7) (l := [8]) rfl rfl rfl (by decide) g1 (op_indexSl (j := 7) (i := 0) rfl (g1.2 11 _ rfl) (g1.2 12 _ rfl) Tryd.underlying22 Tryd.sizeOf5 (by decide)) (fun b2 g2 e2 => ?_)
  refine put_ops (N := 21) (n := 8) (k := 0) (i := 7) (u := .int .u8 (IntKind.u8.wrap (v / 72057594037927936))) (l := []) tabOk g2 M28 (by kernel_rfl) rfl (fun W32 M32 G32 => ?_)
  have h32 := sub_ok (E := [(0, .v (.int .u64 v)), (3, .s 0 0 8 8), (7, .v (.int .i64 8)), (8, .v (.int .i64 7))]) g2 ⟨by kernel_rfl, by kernel_rfl, by kernel_rfl, by kernel_rfl, trivial⟩
  have d32 := e2.trans (e1.trans d31)
  replace M32 : Mw (bg [⟨g, 5, 8, (fun _ => .int .u8 0)⟩]) [⟨g, 5, 8, (upm (upm (upm (upm (upm (upm (upm (upm (fun _ => .int .u8 0) 0 (.int .u8 (IntKind.u8.wrap (v / 1)))) 1 (.int .u8 (IntKind.u8.wrap (v / 256)))) 2 (.int .u8 (IntKind.u8.wrap (v / 65536)))) 3 (.int .u8 (IntKind.u8.wrap (v / 16777216)))) 4 (.int .u8 (IntKind.u8.wrap (v / 4294967296)))) 5 (.int .u8 (IntKind.u8.wrap (v / 1099511627776)))) 6 (.int .u8 (IntKind.u8.wrap (v / 281474976710656)))) 7 (.int .u8 (IntKind.u8.wrap (v / 72057594037927936))))⟩] W32 := M32
  have F32 := Fr.comp F28 G32 (fun x hx => Or.inr (by simp at hx; subst hx; exact hg))
  clear g1 g2 e1 e2 h31 d31 M28 F28 G32
  show Code.wp _ _ _ _ _
  refine regM_seq (N := 21) (T := TT) (n := 2) (E2 := [(0, .v (.int .u64 v)), (3, .s 0 0 8 8), (7, .v (.int .i64 8)), (8, .v (.int .i64 8))]) tabOk h32 M32 rfl (by kernel_rfl) ⟨by kernel_rfl, by kernel_rfl, by kernel_rfl, by kernel_rfl, trivial⟩ (fun a33 h33 d33 => ?_)
  replace d33 := d33.trans d32
  clear h32 d32
  show Code.rounds _ _ _ _ _ _
  rw [rounds_succ]
  refine wp_seq ?_
  refine regM_seq (N := 21) (T := TT) (n := 1) (E2 := [(0, .v (.int .u64 v)), (3, .s 0 0 8 8), (7, .v (.int .i64 8)), (8, .v (.int .i64 8)), (9, .v (.bool false))]) tabOk h33 M32 rfl (by kernel_rfl) ⟨by kernel_rfl, by kernel_rfl, by kernel_rfl, by kernel_rfl, by kernel_rfl, trivial⟩ (fun a34 h34 d34 => ?_)
  show Code.wp _ _ _ _ _
  replace d34 := d34.trans d33
  clear h33 d33
  refine wp_seq ?_
  refine wp_cond_false (h34.2 9 _ rfl) ?_
  refine wp_exit ?_
  refine then_exit (then_exit (exit_in ?_))
  show Code.wp _ _ _ _ _
  refine wp_seq ?_
  refine regM_seq (N := 21) (T := TT) (n := 2) (E2 := [(0, .v (.int .u64 v)), (2, .s 0 0 8 8), (3, .s 0 0 8 8), (7, .v (.int .i64 8))]) tabOk h34 M32 rfl (by kernel_rfl) ⟨by kernel_rfl, by kernel_rfl, by kernel_rfl, by kernel_rfl, trivial⟩ (fun a35 h35 d35 => ?_)
  show Code.wp _ _ _ _ _
  replace d35 := d35.trans d34
  clear h34 d34
  refine wp_ret ?_
  have R := bl_R (k := .u8) (x := lowL v) (base := w.heap.size) (M32.2.get (k := 0) rfl) (fun i hi => ?_) hg (by show 8 ≤ 140737488355328; decide)
  · exact ⟨d35, _, results_tmp rfl _ _ _, _, congrArg Ending.returned (h35.2 2 _ rfl), R, F32.below _ (Nat.le_refl _) (by simp)⟩
  · have hi' : i < 8 := hi
    rcases (by omega : i = 0 ∨ i = 1 ∨ i = 2 ∨ i = 3 ∨ i = 4 ∨ i = 5 ∨ i = 6 ∨ i = 7) with rfl | rfl | rfl | rfl | rfl | rfl | rfl | rfl
    all_goals rfl
set_option maxHeartbeats 8000000 in
set_option maxRecDepth 100000 in
theorem low_walk (v : Int) (w : World) : Calls Tryd.prog 17 #[.int .u64 v] w fun e w' => ∃ r, e = .returned r ∧ Wrote w ((List.range 8).map (lowL v)) r w' := by
  refine calls_of_wp Tryd.func17 rfl ?_
  have hA := has_one (β := fun _ => 0) (.v (.int .u64 v)) 20
  refine wp_seq ?_
  refine reg_seq (N := 21) (T := TT) (M := fun _ _ => none) (n := 1) (E2 := [(0, .v (.int .u64 v))]) tabOk hA noMem rfl (by kernel_rfl) ⟨by kernel_rfl, trivial⟩ (fun a1 h1 d1 => ?_)
  show Code.wp _ _ _ _ _
  refine wp_seq ?_
  refine wp_region ?_
  refine new_ops (N := 21) (i := 0) (d := 5) (l := [1]) rfl rfl rfl (by decide) h1 (op_mk (n := 8) (bt := 1) (cs := Array.replicate 8 (.int .u8 0)) rfl rfl rfl Tryd.underlying22 (by kernel_rfl) (by decide) (by decide)) (fun a2 h2 d2 => ?_)
  have K1 := bl_rep0 w 8 (.int .u8 0) 5
  have F1 := (Fr.refl [] w).alloc (.cells (Array.replicate 8 (.int .u8 0)) 5)
  generalize w.alloc (.cells (Array.replicate 8 (.int .u8 0)) 5) = W1 at F1 K1 ⊢
  refine given_ops (N := 21) (i := 1) (d := 3) (v := .slice (some ⟨w.heap.size, 0, none⟩) 8 8) (l := []) rfl rfl rfl (by decide) h2 (op_assign rfl (h2.2 5 _ rfl)) (fun a3 h3 d3 => ?_)
  show Code.wp _ _ _ _ _
  exact low_rest w.heap.size v w W1 a3 (Nat.le_refl _) (bg [⟨w.heap.size, 5, 8, fun _ => .int .u8 0⟩]) ⟨rfl, K1, by simp, trivial⟩ F1 (has_list h3.1 ⟨h3.2 0 _ rfl, h3.2 3 _ rfl, trivial⟩) (d3.trans (d2.trans d1))
end Go.Proofs.YtnehminojlocoaaDoor.PAll
namespace Go.Proofs.YtnehminojlocoaaDoor.PAll
open Go.RowKit Go.Proofs.YtnehminojlocoaaDoorW.PrintWords Go.Proofs.YtnehminojlocoaaDoorW.PrintLast Go.Proofs.YtnehminojlocoaaDoorW.PrintMore
set_option linter.unusedVariables false
set_option linter.unusedSimpArgs false
/-- The package's variable for a bad key holds an error. -/
def GlobK (w : World) : Prop := ∃ pv, w.cell? ⟨0, 0, none⟩ = some (.iface 109 pv)
theorem GlobK.on {w W : World} (h : GlobK w) (hb : Below w.heap.size w W) : GlobK W := by
  obtain ⟨pv, h⟩ := h
  exact ⟨pv, (hb.cell (World.block_lt_of_cell? w _ h)).trans h⟩
def Died (w : World) (e : Ending) (w' : World) : Prop := (∃ pv, e = .panicked [{ v := .iface 109 pv, recovered := false }]) ∧ Below w.heap.size w w'
end Go.Proofs.YtnehminojlocoaaDoor.PAll
namespace Go.Proofs.YtnehminojlocoaaDoor.PAll
open Go.RowKit Go.Proofs.YtnehminojlocoaaDoorW.PrintWords Go.Proofs.YtnehminojlocoaaDoorW.PrintLast Go.Proofs.YtnehminojlocoaaDoorW.PrintMore
set_option linter.unusedVariables false
set_option linter.unusedSimpArgs false
theorem own_law (l : List Int) (h : l.length < 140737488355328) : impl_own.f l = some l := by
  unfold impl_own.f
  rw [Option.bind_some, if_pos (by simpa using h), List.nil_append]
def lx (l : List Int) (i : Nat) : Int := l.getD i 0
/-- A row of the call's own, as octets in a block. -/
theorem R_bts {W : World} {base : Nat} {ok : Nat → Prop} {v : Value} {l : List Int} (h : Kd.R (Kd.int .u8) 5 W base ok v l) : ∃ A c b, v = .slice A l.length c ∧ l.length ≤ c ∧ (0 < l.length → A = some ⟨b, 0, none⟩) ∧ Bts b 0 l.length (lx l) W := by
  have ho := Kd.own_of_R (enc := Value.int .u8) (h1 := fun _ => rfl) h
  rcases ho.2 with ⟨rfl, h0⟩ | ⟨g, cap, cur, rfl, hg, hh, hle, hmx, hsz, htk⟩
  · exact ⟨none, 0, 0, by rw [h0], by omega, fun h => by omega, fun i hi => by omega⟩
  · refine ⟨_, cap, g, rfl, hle, fun _ => rfl, fun i hi => ?_⟩
    rw [Nat.zero_add, blk_cell hh, ← Array.getElem?_toList]
    have e : cur.toList[i]? = (cur.toList.take (l.length * 1))[i]? := by rw [List.getElem?_take_of_lt (by omega)]
    rw [e, htk]
    unfold lx
    rw [List.getD_eq_getElem?_getD, List.getElem?_eq_getElem hi]
    simp [encs, hi]
set_option maxHeartbeats 8000000 in
set_option maxRecDepth 100000 in
theorem clo_idle (p q : Addr) (w : World) :
    CallsD Tryd.prog 26 #[.pointer (some p), .pointer (some q)] .returning w fun e u' w' => e = .returned (.tuple #[]) ∧ u' = .returning ∧ w' = w := by
  refine callsD_of_wpS Tryd.func26 rfl fun c₀ cs hu => ?_
  apply wpS_seq
  apply wpS_region
  simp [wpOpsS, go_sem, recoverD, hu, Tryd.ntmps26, Exit.thenS]
  refine wpS_cond (t := false) (by simp [Act.eval, Array.replicate]) ?_
  simp only [Bool.false_eq_true, if_false]
  refine wpS_of_wp (wp_skip ?_)
  cases c₀
  simp_all [bodyPostS, results, Tryd.results26]
end Go.Proofs.YtnehminojlocoaaDoor.PAll
namespace Go.Proofs.YtnehminojlocoaaDoor.PAll
open Go.RowKit Go.Proofs.YtnehminojlocoaaDoorW.PrintWords Go.Proofs.YtnehminojlocoaaDoorW.PrintLast Go.Proofs.YtnehminojlocoaaDoorW.PrintMore
set_option linter.unusedVariables false
set_option linter.unusedSimpArgs false
theorem Below.keep {B : Nat} {w W W' : World} (h : Below B w W) (hb : Below W.heap.size W W') (hB : B ≤ W.heap.size) : Below B w W' := h.trans (hb.mono hB)
theorem R_two {α : Type} {d : Kd α} {e : Nat} {W : World} {base g : Nat} {v : Value} {l : List α} (h : Kd.R d e W base (fun _ => True) v l) (h0 : g + 1 < base) (x y : Value) : Kd.R d e ((W.setCell ⟨g, 0, none⟩ x).setCell ⟨g + 1, 0, none⟩ y) base (fun _ => True) v l := by
  have h1 := Kd.R_far (Kd.R_bound h) (p := ⟨g, 0, none⟩) (fun k hk => by have := hk.2.1; show k ≠ g; omega) x
  have h2 := Kd.R_far (Kd.R_mono h1 (ok' := fun k => base ≤ k) (fun k hk => hk.2.1)) (p := ⟨g + 1, 0, none⟩) (fun k hk => by show k ≠ g + 1; omega) y
  exact Kd.R_mono h2 (fun _ _ => trivial)
theorem q_blk {W W' : World} {g : Nat} {o : Obj} (h : W.heap[g]? = some o) (h' : Below W.heap.size W W') : W'.heap[g]? = some o := (h'.block _ (blk_lt h)).trans h
set_option maxHeartbeats 8000000 in
set_option maxRecDepth 100000 in
theorem hs8_yes (A K : Option Addr) (c kc : Nat) (l0 l1 : List Int) (w : World) (hr0 : Kd.C (Kd.int .u8) w A l0.length l0) (hc0 : l0.length ≤ c) (hr1 : Kd.C (Kd.int .u8) w K l1.length l1) (hc1 : l1.length ≤ kc) (hm : l0.length < 140737488355328) (hk : l1.length = 32) :
    Calls Tryd.prog 14 #[.int .i64 8, .slice K l1.length kc, .slice A l0.length c] w fun e w' => ∃ v, e = .returned (.tuple #[v, .bool true]) ∧ Wrote w ((List.range 8).map (lowL (le8 (byt (add4 (mixN 4 (hvS (lx l1) (lx l0) l0.length)) 0 4 8 12))))) v w' := by
  have hmf : ∀ (fn : Fn) (first cap : Array Value) (w : World), (Instr.makeFunc fn first cap).run Tryd.prog w = .ok (.func fn first cap) w := fun _ _ _ _ => rfl
  have HX := Lib.hid (And.intro hr0 (And.intro hc0 (And.intro hr1 (And.intro hc1 (And.intro hm hk)))))
  clear hr0 hc0 hr1 hc1 hm hk
  go_enter_defers Tryd.func14, Tryd.ntmps14
  go_wp2_with fail
  have G0 : (((w.alloc (.cells #[.slice none 0 0] 22)).alloc (.cells #[.bool false] 4))).heap[w.heap.size]? = some (.cells #[.slice none 0 0] 22 (0, 0)) := blk_alloc (MapKept.heap_alloc w _).1 _
  have G1 : (((w.alloc (.cells #[.slice none 0 0] 22)).alloc (.cells #[.bool false] 4))).heap[w.heap.size + 1]? = some (.cells #[.bool false] 4 (0, 0)) := by
    have := (MapKept.heap_alloc (w.alloc (.cells #[.slice none 0 0] 22)) (Obj.cells #[Value.bool false] 4)).1
    simpa using this
  have B0 : Below w.heap.size w ((w.alloc (.cells #[.slice none 0 0] 22)).alloc (.cells #[.bool false] 4)) := ((Below.refl w.heap.size w).alloc (Nat.le_refl _) _).alloc (by simp) _
  generalize (w.alloc (.cells #[.slice none 0 0] 22)).alloc (.cells #[.bool false] 4) = W0 at G0 G1 B0 ⊢
  refine (impl_own.calls A c l0 l0 W0 (Kd.C_below HX.out.1 B0) HX.out.2.1 (own_law l0 HX.out.2.2.2.2.1)).mono ?_
  rintro e W1 ⟨v0, rfl, hR0, hb0⟩
  obtain ⟨A0, c0, b0, rfl, hc0, hA0, hx0⟩ := R_bts hR0
  have G0' := q_blk G0 hb0
  have G1' := q_blk G1 hb0
  have B1 := B0.trans (hb0.mono B0.size)
  have HY := Lib.hid (And.intro hc0 (And.intro hA0 hx0))
  have HG := Lib.hid (And.intro G0' (And.intro G1' B1))
  clear G0 G1 B0 hR0 hb0 G0' G1' B1 hc0 hA0 hx0
  go_wp2_with fail
  refine (impl_own.calls K kc l1 l1 W1 (Kd.C_below HX.out.2.2.1 HG.out.2.2) HX.out.2.2.2.1 (own_law l1 (by rw [HX.out.2.2.2.2.2]; decide))).mono ?_
  rintro e W2 ⟨v1, rfl, hR1, hb1⟩
  obtain ⟨A1, c1, b1, rfl, hc1, hA1, hx1⟩ := R_bts hR1
  have G0' := q_blk HG.out.1 hb1
  have G1' := q_blk HG.out.2.1 hb1
  have B1 := HG.out.2.2.trans (hb1.mono HG.out.2.2.size)
  have hx0 := HY.out.2.2.onB hb1
  obtain rfl := hA1 (by rw [HX.out.2.2.2.2.2]; decide)
  have HZ := Lib.hid (And.intro HY.out.1 (And.intro HY.out.2.1 (And.intro hx0 (And.intro hc1 hx1))))
  clear HG HY hR1 hb1 hc1 hA1 hx1 hx0
  have HG := Lib.hid (And.intro G0' (And.intro G1' B1))
  clear G0' G1' B1
  go_wp2_with fail
  have key := sum8_walk A0 b0 0 l0.length c0 b1 0 c1 (lx l0) (lx l1) W2 (by have := HX.out.2.2.2.2.1; omega) HZ.out.1 (by have := HZ.out.2.2.2.1; rw [HX.out.2.2.2.2.2] at this; exact this) HZ.out.2.1 HZ.out.2.2.1 (by have := HZ.out.2.2.2.2; rw [HX.out.2.2.2.2.2] at this; exact this)
  rw [← HX.out.2.2.2.2.2] at key
  refine key.mono ?_
  clear key
  rintro e W3 ⟨rfl, hb2⟩
  have G0' := q_blk HG.out.1 hb2
  have G1' := q_blk HG.out.2.1 hb2
  have B1 := HG.out.2.2.trans (hb2.mono HG.out.2.2.size)
  clear HG HZ hb2
  have HG := Lib.hid (And.intro G0' (And.intro G1' B1))
  clear G0' G1' B1
  unfold res8
  generalize hV : le8 (byt (add4 (mixN 4 (hvS (lx l1) (lx l0) l0.length)) 0 4 8 12)) = V
  go_wp2_with fail
  refine (low_walk V W3).mono ?_
  rintro e W4 ⟨r, rfl, hr, hb3⟩
  obtain ⟨A4, c4, b4, rfl, _, hA4, _⟩ := R_bts hr
  obtain rfl := hA4 (by simp)
  clear hA4
  simp only [List.length_map, List.length_range] at hr
  have G0' := q_blk HG.out.1 hb3
  have G1' := q_blk HG.out.2.1 hb3
  have B1 := HG.out.2.2.trans (hb3.mono HG.out.2.2.size)
  have lg : w.heap.size + 1 < W3.heap.size := blk_lt HG.out.2.1
  have HR := Lib.hid (And.intro hr lg)
  clear HG hb3 hr lg
  have cc : W4.cell? ⟨w.heap.size, 0, none⟩ = some (.slice none 0 0) := by rw [blk_cell G0']; rfl
  have cb : W4.cell? ⟨w.heap.size + 1, 0, none⟩ = some (.bool false) := by rw [blk_cell G1']; rfl
  have z0 : W4.frozen? ⟨w.heap.size, 0, none⟩ = false := blk_frozen G0' 0
  have zb : W4.frozen? ⟨w.heap.size + 1, 0, none⟩ = false := blk_frozen G1' 0
  have HG := Lib.hid (And.intro G0' (And.intro G1' B1))
  clear G0' G1' B1
  go_wp2
  have B := HG.out.2.2
  have k0 := blk_far (p := ⟨w.heap.size + 1, 0, none⟩) (blk_set HG.out.1 0 (.slice (some ⟨b4, 0, none⟩) 8 c4)) (by simp) (.bool true)
  have k1 := blk_set (blk_far (p := ⟨w.heap.size, 0, none⟩) HG.out.2.1 (by simp) (.slice (some ⟨b4, 0, none⟩) 8 c4)) 0 (.bool true)
  have R5 := Kd.R_base (R_two HR.out.1 HR.out.2 (.slice (some ⟨b4, 0, none⟩) 8 c4) (.bool true)) (by have := HR.out.2; omega : w.heap.size ≤ _)
  refine leaves_cons (f := 26) (args := #[.pointer (some ⟨w.heap.size, 0, none⟩), .pointer (some ⟨w.heap.size + 1, 0, none⟩)]) (by simp) (by simp [go_sem]) ?_
  refine (clo_idle _ _ _).mono ?_
  rintro e u' w'' ⟨rfl, rfl, rfl⟩
  refine ⟨.tuple #[.slice (some ⟨b4, 0, none⟩) 8 c4, .bool true], ?_, _, rfl, ?_, (B.setCell (p := ⟨w.heap.size, 0, none⟩) (Nat.le_refl _) _).setCell (p := ⟨w.heap.size + 1, 0, none⟩) (by simp) _⟩
  · have d0 := (blk_cell k0 0).trans (show _ = some (.slice (some ⟨b4, 0, none⟩) 8 c4) from rfl)
    have d4 := (blk_cell k1 0).trans (show _ = some (.bool true) from rfl)
    clear k0 k1 R5
    generalize (W4.setCell _ _).setCell _ _ = W at d0 d4 ⊢
    simp [results, Tryd.results14, go_sem, d0, d4]
  · subst hV
    exact R5
end Go.Proofs.YtnehminojlocoaaDoor.PAll
namespace Go.Proofs.YtnehminojlocoaaDoor.PAll
open Go.RowKit Go.Proofs.YtnehminojlocoaaDoorW.PrintWords Go.Proofs.YtnehminojlocoaaDoorW.PrintLast Go.Proofs.YtnehminojlocoaaDoorW.PrintMore
set_option linter.unusedVariables false
set_option linter.unusedSimpArgs false
/-- The octets that a row of octets holds. -/
def fB (f : (Nat → Value) → Nat → Value) (i : Nat) : Int := match f (fun _ => .int .u8 0) i with
  | .int _ x => x
  | _ => 0
theorem fB_16 (S : Nat → Int) (i : Nat) : fin16 S (fun _ => .int .u8 0) i = .int .u8 (fB (fin16 S) i) := by
  have h : ∃ x, fin16 S (fun _ => .int .u8 0) i = .int .u8 x := by
    unfold fin16 putB
    repeat' split
    all_goals exact ⟨_, rfl⟩
  obtain ⟨x, hx⟩ := h
  unfold fB
  rw [hx]
theorem fB_32 (S : Nat → Int) (i : Nat) : fin32 S (fun _ => .int .u8 0) i = .int .u8 (fB (fin32 S) i) := by
  have h : ∃ x, fin32 S (fun _ => .int .u8 0) i = .int .u8 x := by
    unfold fin32 putB
    repeat' split
    all_goals exact ⟨_, rfl⟩
  obtain ⟨x, hx⟩ := h
  unfold fB
  rw [hx]
set_option maxHeartbeats 8000000 in
set_option maxRecDepth 100000 in
theorem hs16_yes (A K : Option Addr) (c kc : Nat) (l0 l1 : List Int) (w : World) (hr0 : Kd.C (Kd.int .u8) w A l0.length l0) (hc0 : l0.length ≤ c) (hr1 : Kd.C (Kd.int .u8) w K l1.length l1) (hc1 : l1.length ≤ kc) (hm : l0.length < 140737488355328) (hk : l1.length = 32) :
    Calls Tryd.prog 14 #[.int .i64 16, .slice K l1.length kc, .slice A l0.length c] w fun e w' => ∃ v, e = .returned (.tuple #[v, .bool true]) ∧ Wrote w ((List.range 16).map (fB (fin16 (mixN 6 (hvS (lx l1) (lx l0) l0.length))))) v w' := by
  have hmf : ∀ (fn : Fn) (first cap : Array Value) (w : World), (Instr.makeFunc fn first cap).run Tryd.prog w = .ok (.func fn first cap) w := fun _ _ _ _ => rfl
  have HX := Lib.hid (And.intro hr0 (And.intro hc0 (And.intro hr1 (And.intro hc1 (And.intro hm hk)))))
  clear hr0 hc0 hr1 hc1 hm hk
  go_enter_defers Tryd.func14, Tryd.ntmps14
  go_wp2_with fail
  have G0 : (((w.alloc (.cells #[.slice none 0 0] 22)).alloc (.cells #[.bool false] 4))).heap[w.heap.size]? = some (.cells #[.slice none 0 0] 22 (0, 0)) := blk_alloc (MapKept.heap_alloc w _).1 _
  have G1 : (((w.alloc (.cells #[.slice none 0 0] 22)).alloc (.cells #[.bool false] 4))).heap[w.heap.size + 1]? = some (.cells #[.bool false] 4 (0, 0)) := by
    have := (MapKept.heap_alloc (w.alloc (.cells #[.slice none 0 0] 22)) (Obj.cells #[Value.bool false] 4)).1
    simpa using this
  have B0 : Below w.heap.size w ((w.alloc (.cells #[.slice none 0 0] 22)).alloc (.cells #[.bool false] 4)) := ((Below.refl w.heap.size w).alloc (Nat.le_refl _) _).alloc (by simp) _
  generalize (w.alloc (.cells #[.slice none 0 0] 22)).alloc (.cells #[.bool false] 4) = W0 at G0 G1 B0 ⊢
  refine (impl_own.calls A c l0 l0 W0 (Kd.C_below HX.out.1 B0) HX.out.2.1 (own_law l0 HX.out.2.2.2.2.1)).mono ?_
  rintro e W1 ⟨v0, rfl, hR0, hb0⟩
  obtain ⟨A0, c0, b0, rfl, hc0, hA0, hx0⟩ := R_bts hR0
  have G0' := q_blk G0 hb0
  have G1' := q_blk G1 hb0
  have B1 := B0.trans (hb0.mono B0.size)
  have HY := Lib.hid (And.intro hc0 (And.intro hA0 hx0))
  have HG := Lib.hid (And.intro G0' (And.intro G1' B1))
  clear G0 G1 B0 hR0 hb0 G0' G1' B1 hc0 hA0 hx0
  go_wp2_with fail
  refine (impl_own.calls K kc l1 l1 W1 (Kd.C_below HX.out.2.2.1 HG.out.2.2) HX.out.2.2.2.1 (own_law l1 (by rw [HX.out.2.2.2.2.2]; decide))).mono ?_
  rintro e W2 ⟨v1, rfl, hR1, hb1⟩
  obtain ⟨A1, c1, b1, rfl, hc1, hA1, hx1⟩ := R_bts hR1
  have G0' := q_blk HG.out.1 hb1
  have G1' := q_blk HG.out.2.1 hb1
  have B1 := HG.out.2.2.trans (hb1.mono HG.out.2.2.size)
  have hx0 := HY.out.2.2.onB hb1
  obtain rfl := hA1 (by rw [HX.out.2.2.2.2.2]; decide)
  have HZ := Lib.hid (And.intro HY.out.1 (And.intro HY.out.2.1 (And.intro hx0 (And.intro hc1 hx1))))
  clear HG HY hR1 hb1 hc1 hA1 hx1 hx0
  have HG := Lib.hid (And.intro G0' (And.intro G1' B1))
  clear G0' G1' B1
  go_wp2_with fail
  have key := sum16_walk A0 b0 0 l0.length c0 b1 0 c1 (lx l0) (lx l1) W2 (by have := HX.out.2.2.2.2.1; omega) HZ.out.1 (by have := HZ.out.2.2.2.1; rw [HX.out.2.2.2.2.2] at this; exact this) HZ.out.2.1 HZ.out.2.2.1 (by have := HZ.out.2.2.2.2; rw [HX.out.2.2.2.2.2] at this; exact this)
  rw [← HX.out.2.2.2.2.2] at key
  refine key.mono ?_
  clear key
  rintro e W3 ⟨rfl, hb2⟩
  have G0' := q_blk HG.out.1 hb2
  have G1' := q_blk HG.out.2.1 hb2
  have B1 := HG.out.2.2.trans (hb2.mono HG.out.2.2.size)
  clear HG HZ hb2
  have HG := Lib.hid (And.intro G0' (And.intro G1' B1))
  clear G0' G1' B1
  unfold res16
  generalize hS : mixN 6 (hvS (lx l1) (lx l0) l0.length) = S
  have hsz : ((List.range 16).map (fin16 S (fun _ => .int .u8 0))).toArray.size = 16 := by simp
  have hone : ((List.range 16).map (fin16 S (fun _ => .int .u8 0))).toArray.all (·.oneCell') = true := by
    rw [Array.all_eq_true_iff_forall_mem]
    intro v hv
    obtain ⟨j, hj, rfl⟩ : ∃ j, j < 16 ∧ fin16 S (fun _ => .int .u8 0) j = v := by simpa using hv
    exact one_fin16 S j hj
  have hget : ∀ i, i < 16 → ((List.range 16).map (fin16 S (fun _ => .int .u8 0))).toArray[i]? = some (.int .u8 (fB (fin16 S) i)) := by
    intro i hi
    rw [List.getElem?_toArray, List.getElem?_map, List.getElem?_range hi]
    exact congrArg some (fB_16 S i)
  generalize hcs : ((List.range 16).map (fin16 S (fun _ => .int .u8 0))).toArray = cs at hsz hone hget ⊢
  have hnew := run_storeCells_new (P := Tryd.prog) W3 69 (#[.int .u8 0, .int .u8 0, .int .u8 0, .int .u8 0, .int .u8 0, .int .u8 0, .int .u8 0, .int .u8 0, .int .u8 0, .int .u8 0, .int .u8 0, .int .u8 0, .int .u8 0, .int .u8 0, .int .u8 0, .int .u8 0]) cs (by rw [hsz]; kernel_rfl) (by rw [hsz]; rfl) hone
  have Hget := Lib.hid hget
  clear hone hcs hget
  go_wp2_with fail
  clear hnew
  have hal := (MapKept.heap_alloc W3 (.cells cs 69)).1
  have hbl : Below W3.heap.size W3 (W3.alloc (.cells cs 69)) := (Below.refl _ _).alloc (Nat.le_refl _) _
  have G0' := q_blk HG.out.1 hbl
  have G1' := q_blk HG.out.2.1 hbl
  have B1 := HG.out.2.2.trans (hbl.mono HG.out.2.2.size)
  have lg3 : w.heap.size + 1 < (W3.alloc (.cells cs 69)).heap.size := blk_lt G1'
  have hcell : ∀ i, i < 16 → (W3.alloc (.cells cs 69)).cell? ⟨W3.heap.size, 0 + i, none⟩ = some (.int .u8 (fB (fin16 S) i)) := by
    intro i hi
    rw [Nat.zero_add, blk_cell hal]
    exact Hget.out i hi
  have key := impl_own.calls (some ⟨W3.heap.size, 0, none⟩) 16 ((List.range 16).map (fB (fin16 S))) _ _ (by rw [List.length_map, List.length_range]; exact cells_C hcell (by decide)) (by simp) (own_law _ (by simp))
  rw [List.length_map, List.length_range] at key
  refine key.mono ?_
  clear key HG hcell hal hbl Hget
  generalize W3.alloc (.cells cs 69) = W5 at G0' G1' B1 lg3 ⊢
  rintro e W4 ⟨r, rfl, hr, hb3⟩
  obtain ⟨A4, c4, b4, rfl, _, hA4, _⟩ := R_bts hr
  obtain rfl := hA4 (by simp)
  clear hA4
  simp only [List.length_map, List.length_range] at hr
  have G0'' := q_blk G0' hb3
  have G1'' := q_blk G1' hb3
  have B2 := B1.trans (hb3.mono B1.size)
  have HR := Lib.hid (And.intro hr lg3)
  clear G0' G1' B1 hb3 hr lg3
  have cc : W4.cell? ⟨w.heap.size, 0, none⟩ = some (.slice none 0 0) := by rw [blk_cell G0'']; rfl
  have cb : W4.cell? ⟨w.heap.size + 1, 0, none⟩ = some (.bool false) := by rw [blk_cell G1'']; rfl
  have z0 : W4.frozen? ⟨w.heap.size, 0, none⟩ = false := blk_frozen G0'' 0
  have zb : W4.frozen? ⟨w.heap.size + 1, 0, none⟩ = false := blk_frozen G1'' 0
  have HG := Lib.hid (And.intro G0'' (And.intro G1'' B2))
  clear G0'' G1'' B2
  go_wp2
  have B := HG.out.2.2
  have k0 := blk_far (p := ⟨w.heap.size + 1, 0, none⟩) (blk_set HG.out.1 0 (.slice (some ⟨b4, 0, none⟩) 16 c4)) (by simp) (.bool true)
  have k1 := blk_set (blk_far (p := ⟨w.heap.size, 0, none⟩) HG.out.2.1 (by simp) (.slice (some ⟨b4, 0, none⟩) 16 c4)) 0 (.bool true)
  have R5 := Kd.R_base (R_two HR.out.1 HR.out.2 (.slice (some ⟨b4, 0, none⟩) 16 c4) (.bool true)) (by have := HR.out.2; omega : w.heap.size ≤ _)
  refine leaves_cons (f := 26) (args := #[.pointer (some ⟨w.heap.size, 0, none⟩), .pointer (some ⟨w.heap.size + 1, 0, none⟩)]) (by simp) (by simp [go_sem]) ?_
  refine (clo_idle _ _ _).mono ?_
  rintro e u' w'' ⟨rfl, rfl, rfl⟩
  refine ⟨.tuple #[.slice (some ⟨b4, 0, none⟩) 16 c4, .bool true], ?_, _, rfl, ?_, (B.setCell (p := ⟨w.heap.size, 0, none⟩) (Nat.le_refl _) _).setCell (p := ⟨w.heap.size + 1, 0, none⟩) (by simp) _⟩
  · have d0 := (blk_cell k0 0).trans (show _ = some (.slice (some ⟨b4, 0, none⟩) 16 c4) from rfl)
    have d4 := (blk_cell k1 0).trans (show _ = some (.bool true) from rfl)
    clear k0 k1 R5
    generalize (W4.setCell _ _).setCell _ _ = W at d0 d4 ⊢
    simp [results, Tryd.results14, go_sem, d0, d4]
  · subst hS
    exact R5
set_option maxHeartbeats 8000000 in
set_option maxRecDepth 100000 in
theorem hs32_yes (A K : Option Addr) (c kc : Nat) (l0 l1 : List Int) (w : World) (hr0 : Kd.C (Kd.int .u8) w A l0.length l0) (hc0 : l0.length ≤ c) (hr1 : Kd.C (Kd.int .u8) w K l1.length l1) (hc1 : l1.length ≤ kc) (hm : l0.length < 140737488355328) (hk : l1.length = 32) :
    Calls Tryd.prog 14 #[.int .i64 32, .slice K l1.length kc, .slice A l0.length c] w fun e w' => ∃ v, e = .returned (.tuple #[v, .bool true]) ∧ Wrote w ((List.range 32).map (fB (fin32 (mixN 10 (hvS (lx l1) (lx l0) l0.length))))) v w' := by
  have hmf : ∀ (fn : Fn) (first cap : Array Value) (w : World), (Instr.makeFunc fn first cap).run Tryd.prog w = .ok (.func fn first cap) w := fun _ _ _ _ => rfl
  have HX := Lib.hid (And.intro hr0 (And.intro hc0 (And.intro hr1 (And.intro hc1 (And.intro hm hk)))))
  clear hr0 hc0 hr1 hc1 hm hk
  go_enter_defers Tryd.func14, Tryd.ntmps14
  go_wp2_with fail
  have G0 : (((w.alloc (.cells #[.slice none 0 0] 22)).alloc (.cells #[.bool false] 4))).heap[w.heap.size]? = some (.cells #[.slice none 0 0] 22 (0, 0)) := blk_alloc (MapKept.heap_alloc w _).1 _
  have G1 : (((w.alloc (.cells #[.slice none 0 0] 22)).alloc (.cells #[.bool false] 4))).heap[w.heap.size + 1]? = some (.cells #[.bool false] 4 (0, 0)) := by
    have := (MapKept.heap_alloc (w.alloc (.cells #[.slice none 0 0] 22)) (Obj.cells #[Value.bool false] 4)).1
    simpa using this
  have B0 : Below w.heap.size w ((w.alloc (.cells #[.slice none 0 0] 22)).alloc (.cells #[.bool false] 4)) := ((Below.refl w.heap.size w).alloc (Nat.le_refl _) _).alloc (by simp) _
  generalize (w.alloc (.cells #[.slice none 0 0] 22)).alloc (.cells #[.bool false] 4) = W0 at G0 G1 B0 ⊢
  refine (impl_own.calls A c l0 l0 W0 (Kd.C_below HX.out.1 B0) HX.out.2.1 (own_law l0 HX.out.2.2.2.2.1)).mono ?_
  rintro e W1 ⟨v0, rfl, hR0, hb0⟩
  obtain ⟨A0, c0, b0, rfl, hc0, hA0, hx0⟩ := R_bts hR0
  have G0' := q_blk G0 hb0
  have G1' := q_blk G1 hb0
  have B1 := B0.trans (hb0.mono B0.size)
  have HY := Lib.hid (And.intro hc0 (And.intro hA0 hx0))
  have HG := Lib.hid (And.intro G0' (And.intro G1' B1))
  clear G0 G1 B0 hR0 hb0 G0' G1' B1 hc0 hA0 hx0
  go_wp2_with fail
  refine (impl_own.calls K kc l1 l1 W1 (Kd.C_below HX.out.2.2.1 HG.out.2.2) HX.out.2.2.2.1 (own_law l1 (by rw [HX.out.2.2.2.2.2]; decide))).mono ?_
  rintro e W2 ⟨v1, rfl, hR1, hb1⟩
  obtain ⟨A1, c1, b1, rfl, hc1, hA1, hx1⟩ := R_bts hR1
  have G0' := q_blk HG.out.1 hb1
  have G1' := q_blk HG.out.2.1 hb1
  have B1 := HG.out.2.2.trans (hb1.mono HG.out.2.2.size)
  have hx0 := HY.out.2.2.onB hb1
  obtain rfl := hA1 (by rw [HX.out.2.2.2.2.2]; decide)
  have HZ := Lib.hid (And.intro HY.out.1 (And.intro HY.out.2.1 (And.intro hx0 (And.intro hc1 hx1))))
  clear HG HY hR1 hb1 hc1 hA1 hx1 hx0
  have HG := Lib.hid (And.intro G0' (And.intro G1' B1))
  clear G0' G1' B1
  go_wp2_with fail
  have key := sum32_walk A0 b0 0 l0.length c0 b1 0 c1 (lx l0) (lx l1) W2 (by have := HX.out.2.2.2.2.1; omega) HZ.out.1 (by have := HZ.out.2.2.2.1; rw [HX.out.2.2.2.2.2] at this; exact this) HZ.out.2.1 HZ.out.2.2.1 (by have := HZ.out.2.2.2.2; rw [HX.out.2.2.2.2.2] at this; exact this)
  rw [← HX.out.2.2.2.2.2] at key
  refine key.mono ?_
  clear key
  rintro e W3 ⟨rfl, hb2⟩
  have G0' := q_blk HG.out.1 hb2
  have G1' := q_blk HG.out.2.1 hb2
  have B1 := HG.out.2.2.trans (hb2.mono HG.out.2.2.size)
  clear HG HZ hb2
  have HG := Lib.hid (And.intro G0' (And.intro G1' B1))
  clear G0' G1' B1
  unfold res32
  generalize hS : mixN 10 (hvS (lx l1) (lx l0) l0.length) = S
  have hsz : ((List.range 32).map (fin32 S (fun _ => .int .u8 0))).toArray.size = 32 := by simp
  have hone : ((List.range 32).map (fin32 S (fun _ => .int .u8 0))).toArray.all (·.oneCell') = true := by
    rw [Array.all_eq_true_iff_forall_mem]
    intro v hv
    obtain ⟨j, hj, rfl⟩ : ∃ j, j < 32 ∧ fin32 S (fun _ => .int .u8 0) j = v := by simpa using hv
    exact one_fin32 S j hj
  have hget : ∀ i, i < 32 → ((List.range 32).map (fin32 S (fun _ => .int .u8 0))).toArray[i]? = some (.int .u8 (fB (fin32 S) i)) := by
    intro i hi
    rw [List.getElem?_toArray, List.getElem?_map, List.getElem?_range hi]
    exact congrArg some (fB_32 S i)
  generalize hcs : ((List.range 32).map (fin32 S (fun _ => .int .u8 0))).toArray = cs at hsz hone hget ⊢
  have hnew := run_storeCells_new (P := Tryd.prog) W3 71 (#[.int .u8 0, .int .u8 0, .int .u8 0, .int .u8 0, .int .u8 0, .int .u8 0, .int .u8 0, .int .u8 0, .int .u8 0, .int .u8 0, .int .u8 0, .int .u8 0, .int .u8 0, .int .u8 0, .int .u8 0, .int .u8 0, .int .u8 0, .int .u8 0, .int .u8 0, .int .u8 0, .int .u8 0, .int .u8 0, .int .u8 0, .int .u8 0, .int .u8 0, .int .u8 0, .int .u8 0, .int .u8 0, .int .u8 0, .int .u8 0, .int .u8 0, .int .u8 0]) cs (by rw [hsz]; kernel_rfl) (by rw [hsz]; rfl) hone
  have Hget := Lib.hid hget
  clear hone hcs hget
  go_wp2_with fail
  clear hnew
  have hal := (MapKept.heap_alloc W3 (.cells cs 71)).1
  have hbl : Below W3.heap.size W3 (W3.alloc (.cells cs 71)) := (Below.refl _ _).alloc (Nat.le_refl _) _
  have G0' := q_blk HG.out.1 hbl
  have G1' := q_blk HG.out.2.1 hbl
  have B1 := HG.out.2.2.trans (hbl.mono HG.out.2.2.size)
  have lg3 : w.heap.size + 1 < (W3.alloc (.cells cs 71)).heap.size := blk_lt G1'
  have hcell : ∀ i, i < 32 → (W3.alloc (.cells cs 71)).cell? ⟨W3.heap.size, 0 + i, none⟩ = some (.int .u8 (fB (fin32 S) i)) := by
    intro i hi
    rw [Nat.zero_add, blk_cell hal]
    exact Hget.out i hi
  have key := impl_own.calls (some ⟨W3.heap.size, 0, none⟩) 32 ((List.range 32).map (fB (fin32 S))) _ _ (by rw [List.length_map, List.length_range]; exact cells_C hcell (by decide)) (by simp) (own_law _ (by simp))
  rw [List.length_map, List.length_range] at key
  refine key.mono ?_
  clear key HG hcell hal hbl Hget
  generalize W3.alloc (.cells cs 71) = W5 at G0' G1' B1 lg3 ⊢
  rintro e W4 ⟨r, rfl, hr, hb3⟩
  obtain ⟨A4, c4, b4, rfl, _, hA4, _⟩ := R_bts hr
  obtain rfl := hA4 (by simp)
  clear hA4
  simp only [List.length_map, List.length_range] at hr
  have G0'' := q_blk G0' hb3
  have G1'' := q_blk G1' hb3
  have B2 := B1.trans (hb3.mono B1.size)
  have HR := Lib.hid (And.intro hr lg3)
  clear G0' G1' B1 hb3 hr lg3
  have cc : W4.cell? ⟨w.heap.size, 0, none⟩ = some (.slice none 0 0) := by rw [blk_cell G0'']; rfl
  have cb : W4.cell? ⟨w.heap.size + 1, 0, none⟩ = some (.bool false) := by rw [blk_cell G1'']; rfl
  have z0 : W4.frozen? ⟨w.heap.size, 0, none⟩ = false := blk_frozen G0'' 0
  have zb : W4.frozen? ⟨w.heap.size + 1, 0, none⟩ = false := blk_frozen G1'' 0
  have HG := Lib.hid (And.intro G0'' (And.intro G1'' B2))
  clear G0'' G1'' B2
  go_wp2
  have B := HG.out.2.2
  have k0 := blk_far (p := ⟨w.heap.size + 1, 0, none⟩) (blk_set HG.out.1 0 (.slice (some ⟨b4, 0, none⟩) 32 c4)) (by simp) (.bool true)
  have k1 := blk_set (blk_far (p := ⟨w.heap.size, 0, none⟩) HG.out.2.1 (by simp) (.slice (some ⟨b4, 0, none⟩) 32 c4)) 0 (.bool true)
  have R5 := Kd.R_base (R_two HR.out.1 HR.out.2 (.slice (some ⟨b4, 0, none⟩) 32 c4) (.bool true)) (by have := HR.out.2; omega : w.heap.size ≤ _)
  refine leaves_cons (f := 26) (args := #[.pointer (some ⟨w.heap.size, 0, none⟩), .pointer (some ⟨w.heap.size + 1, 0, none⟩)]) (by simp) (by simp [go_sem]) ?_
  refine (clo_idle _ _ _).mono ?_
  rintro e u' w'' ⟨rfl, rfl, rfl⟩
  refine ⟨.tuple #[.slice (some ⟨b4, 0, none⟩) 32 c4, .bool true], ?_, _, rfl, ?_, (B.setCell (p := ⟨w.heap.size, 0, none⟩) (Nat.le_refl _) _).setCell (p := ⟨w.heap.size + 1, 0, none⟩) (by simp) _⟩
  · have d0 := (blk_cell k0 0).trans (show _ = some (.slice (some ⟨b4, 0, none⟩) 32 c4) from rfl)
    have d4 := (blk_cell k1 0).trans (show _ = some (.bool true) from rfl)
    clear k0 k1 R5
    generalize (W4.setCell _ _).setCell _ _ = W at d0 d4 ⊢
    simp [results, Tryd.results14, go_sem, d0, d4]
  · subst hS
    exact R5
end Go.Proofs.YtnehminojlocoaaDoor.PAll
namespace Go.Proofs.YtnehminojlocoaaDoor.PAll
open Go.RowKit Go.Proofs.YtnehminojlocoaaDoorW.PrintWords Go.Proofs.YtnehminojlocoaaDoorW.PrintLast Go.Proofs.YtnehminojlocoaaDoorW.PrintMore
set_option linter.unusedVariables false
set_option linter.unusedSimpArgs false
theorem GlobK.below {w W : World} (h : GlobK w) (hb : Below w.heap.size w W) : GlobK W := h.on hb
end Go.Proofs.YtnehminojlocoaaDoor.PAll
namespace Go.Proofs.YtnehminojlocoaaDoor.PAll
open Go.RowKit Go.Proofs.YtnehminojlocoaaDoorW.PrintWords Go.Proofs.YtnehminojlocoaaDoorW.PrintLast Go.Proofs.YtnehminojlocoaaDoorW.PrintMore
set_option linter.unusedVariables false
set_option linter.unusedSimpArgs false
theorem cell_spot {w : World} {a : Addr} {v : Value} (h : w.cell? a = some v) : a.spot = none := by
  unfold World.cell? at h
  split at h
  · split at h
    · cases h
    · next hs => cases hq : a.spot <;> simp_all
  · cases h
/-- What impl.HighwaySum answers. -/
def sumS (sz : Int) (S : Nat → Int) : List Int := if sz = 8 then (List.range 8).map (lowL (le8 (byt (add4 (mixN 4 S) 0 4 8 12)))) else if sz = 16 then (List.range 16).map (fB (fin16 (mixN 6 S))) else (List.range 32).map (fB (fin32 (mixN 10 S)))
def hsf (a0 : Int) (l1 l2 : List Int) : Option (List Int × Bool) :=
  if (a0 = 8 ∨ a0 = 16 ∨ a0 = 32) ∧ l1.length < 140737488355328 ∧ l2.length < 140737488355328 then (if l1.length = 32 then some (sumS a0 (hvS (lx l1) (lx l2) l2.length), true) else some ([], false)) else none
/-- What spec.Highway answers. -/
def octs (l : List Int) : Prop := ∀ x ∈ l, 0 ≤ x ∧ x < 256
instance (l : List Int) : Decidable (octs l) := inferInstanceAs (Decidable (∀ x ∈ l, 0 ≤ x ∧ x < 256))
def hwf (a0 : Int) (l1 l2 : List Int) : Option (List Int) :=
  if (a0 = 8 ∨ a0 = 16 ∨ a0 = 32) ∧ l1.length = 32 ∧ octs l1 ∧ octs l2 ∧ l2.length ≤ 9223372036854775807 then some (outS a0 (hwS (lx l1) (lx l2) l2.length)) else none
end Go.Proofs.YtnehminojlocoaaDoor.PAll
namespace Go.Proofs.YtnehminojlocoaaDoor.PAll
open Go.RowKit Go.Proofs.YtnehminojlocoaaDoorW.PrintWords Go.Proofs.YtnehminojlocoaaDoorW.PrintLast Go.Proofs.YtnehminojlocoaaDoorW.PrintMore
set_option linter.unusedVariables false
set_option linter.unusedSimpArgs false
def W64 (x : Int) : Prop := 0 ≤ x ∧ x < 18446744073709551616
/-- A number by its octets. -/
theorem n8_byt (v : Int) (h : W64 v) : N8 (byt v) = v := by
  obtain ⟨h1, h2⟩ := h
  show v % 256 + v / 256 % 256 * 256 + v / 65536 % 256 * 65536 + v / 16777216 % 256 * 16777216 + v / 4294967296 % 256 * 4294967296 + v / 1099511627776 % 256 * 1099511627776 + v / 281474976710656 % 256 * 281474976710656 + v / 72057594037927936 % 256 * 72057594037927936 = v
  omega
theorem byt_oct (v : Int) (i : Nat) : 0 ≤ byt v i ∧ byt v i < 256 := by
  unfold byt
  split
  all_goals omega
end Go.Proofs.YtnehminojlocoaaDoor.PAll
namespace Go.Proofs.YtnehminojlocoaaDoor.PAll
open Go.RowKit Go.Proofs.YtnehminojlocoaaDoorW.PrintWords Go.Proofs.YtnehminojlocoaaDoorW.PrintLast Go.Proofs.YtnehminojlocoaaDoorW.PrintMore
set_option linter.unusedVariables false
set_option linter.unusedSimpArgs false
def lowS (one zero : Int) : Int := zero / 16777216 % 256 * 1 + one / 4294967296 % 256 * 256 + zero / 65536 % 256 * 65536 + zero / 1099511627776 % 256 * 16777216 + one / 281474976710656 % 256 * 4294967296 + zero / 256 % 256 * 1099511627776 + one / 72057594037927936 % 256 * 281474976710656 + zero / 1 % 256 * 72057594037927936
def highS (one zero : Int) : Int := one / 16777216 % 256 * 1 + zero / 4294967296 % 256 * 256 + one / 65536 % 256 * 65536 + one / 1099511627776 % 256 * 16777216 + one / 256 % 256 * 4294967296 + zero / 281474976710656 % 256 * 1099511627776 + one / 1 % 256 * 281474976710656 + zero / 72057594037927936 % 256 * 72057594037927936
end Go.Proofs.YtnehminojlocoaaDoor.PAll
namespace Go.Proofs.YtnehminojlocoaaDoor.PAll
open Go.RowKit Go.Proofs.YtnehminojlocoaaDoorW.PrintWords Go.Proofs.YtnehminojlocoaaDoorW.PrintLast Go.Proofs.YtnehminojlocoaaDoorW.PrintMore
set_option linter.unusedVariables false
set_option linter.unusedSimpArgs false
/-- A state of numbers of 64 bits. -/
def BS (s : Nat → Int) : Prop := ∀ i, i < 16 → W64 (s i)
theorem BS.upd {s : Nat → Int} (h : BS s) (i : Nat) (x : Int) (hx : W64 x) : BS (upd s i x) := fun j hj => by
  unfold PAll.upd
  split
  · exact hx
  · exact h j hj
theorem W_wrap (x : Int) : W64 (IntKind.u64.wrap x) := by
  rw [IntKind.wrap_u64]
  refine ⟨?_, ?_⟩ <;> omega
theorem W_xor {a b : Int} (ha : W64 a) (hb : W64 b) : W64 (Go.bits .xor .u64 a b) := by
  obtain ⟨a, rfl⟩ := Int.eq_ofNat_of_zero_le ha.1
  obtain ⟨b, rfl⟩ := Int.eq_ofNat_of_zero_le hb.1
  have h1 := ha.2
  have h2 := hb.2
  rw [u64_xor_nat a b (by omega) (by omega)]
  have : a ^^^ b < 2 ^ 64 := Nat.xor_lt_two_pow (by omega) (by omega)
  exact ⟨by omega, by omega⟩
theorem and32 (x : Int) (h : W64 x) : IntKind.u64.wrap (IntKind.u32.wrap x) = Go.bits .and .u64 x 4294967295 := by
  obtain ⟨x, rfl⟩ := Int.eq_ofNat_of_zero_le h.1
  have h2 := h.2
  have e := u64_and_nat x 4294967295 (by omega) (by omega)
  rw [show (4294967295 : Nat) = 2 ^ 32 - 1 by rfl, Nat.and_two_pow_sub_one_eq_mod] at e
  rw [IntKind.wrap_u32, IntKind.wrap_u64]
  refine Eq.trans ?_ e.symm
  omega
theorem BS.zs {s : Nat → Int} (h : BS s) (t : Nat) (x : Int) : BS (zs s t x) := h.upd t _ (W_wrap _)
theorem BS.q1 {s : Nat → Int} (h : BS s) (i : Nat) (l : Int) : BS (q1 s i l) := h.upd _ _ (W_wrap _)
theorem BS.q2 {s : Nat → Int} (h : BS s) (i : Nat) (hi : i < 4) : BS (q2 s i) := h.upd _ _ (W_xor (h _ (by omega)) (W_wrap _))
theorem BS.q3 {s : Nat → Int} (h : BS s) (i : Nat) : BS (q3 s i) := h.upd _ _ (W_wrap _)
theorem BS.q4 {s : Nat → Int} (h : BS s) (i : Nat) (hi : i < 4) : BS (q4 s i) := h.upd _ _ (W_xor (h _ (by omega)) (W_wrap _))
theorem BS.qr {s : Nat → Int} (h : BS s) (i : Nat) (hi : i < 4) (l : Int) : BS (qr s i l) := (((h.q1 i l).q2 i hi).q3 i).q4 i hi
theorem BS.q5 {s : Nat → Int} (h : BS s) (f t i : Nat) : BS (q5 s f t i) := (h.zs _ _).zs _ _
theorem BS.US {s : Nat → Int} (h : BS s) (l : Nat → Int) : BS (US s l) := by
  unfold PAll.US
  exact (((((((h.qr 0 (by decide) _).qr 1 (by decide) _).qr 2 (by decide) _).qr 3 (by decide) _).q5 4 0 0).q5 4 0 2).q5 0 4 0).q5 0 4 2
theorem row1 (s : Nat → Int) (m : Int) (h : BS s) : u8 (u7 (u6 (u5 s m))) = qr s 1 m := by
  have e1 : u5 s m = q1 s 1 m := by
    unfold u5 q1
    rw [Int.add_comm m]
  have h1 := h.q1 1 m
  have e2 : u6 (q1 s 1 m) = q2 (q1 s 1 m) 1 := by
    generalize q1 s 1 m = s1 at h1 ⊢
    unfold u6 q2
    rw [and32 _ (h1 5 (by decide))]
  have h2 := h1.q2 1 (by decide)
  have e3 : u7 (q2 (q1 s 1 m) 1) = q3 (q2 (q1 s 1 m) 1) 1 := by
    generalize q2 (q1 s 1 m) 1 = s1
    rfl
  have h3 := h2.q3 1
  rw [e1, e2, e3]
  unfold qr
  generalize q3 (q2 (q1 s 1 m) 1) 1 = s1 at h3 ⊢
  unfold u8 q4
  rw [and32 _ (h3 1 (by decide))]
theorem le8_byt (v : Int) (h : W64 v) (x : Nat → Int) (hx : ∀ i, i < 8 → x i = byt v i) : le8 x = v := by
  rw [le8_law x (fun i hi => by rw [hx i hi]; exact byt_oct v i)]
  have e : N8 x = N8 (byt v) := by
    unfold N8
    rw [hx 0 (by decide), hx 1 (by decide), hx 2 (by decide), hx 3 (by decide), hx 4 (by decide), hx 5 (by decide), hx 6 (by decide), hx 7 (by decide)]
  rw [e, n8_byt v h]
end Go.Proofs.YtnehminojlocoaaDoor.PAll
namespace Go.Proofs.YtnehminojlocoaaDoor.PAll
open Go.RowKit Go.Proofs.YtnehminojlocoaaDoorW.PrintWords Go.Proofs.YtnehminojlocoaaDoorW.PrintLast Go.Proofs.YtnehminojlocoaaDoorW.PrintMore
set_option linter.unusedVariables false
set_option linter.unusedSimpArgs false
end Go.Proofs.YtnehminojlocoaaDoor.PAll
namespace Go.Proofs.YtnehminojlocoaaDoor.PAll
open Go.RowKit Go.Proofs.YtnehminojlocoaaDoorW.PrintWords Go.Proofs.YtnehminojlocoaaDoorW.PrintLast Go.Proofs.YtnehminojlocoaaDoorW.PrintMore
set_option linter.unusedVariables false
set_option linter.unusedSimpArgs false
theorem low_byt (v : Int) : (List.range 8).map (lowL v) = [byt v 0, byt v 1, byt v 2, byt v 3, byt v 4, byt v 5, byt v 6, byt v 7] := by
  show [lowL v 0, lowL v 1, lowL v 2, lowL v 3, lowL v 4, lowL v 5, lowL v 6, lowL v 7] = _
  unfold lowL
  simp only [IntKind.wrap_u8]
  show [v / 1 % 256, v / 256 % 256, v / 65536 % 256, v / 16777216 % 256, v / 4294967296 % 256, v / 1099511627776 % 256, v / 281474976710656 % 256, v / 72057594037927936 % 256] = _
  rw [Int.ediv_one]
  rfl
end Go.Proofs.YtnehminojlocoaaDoor.PAll
